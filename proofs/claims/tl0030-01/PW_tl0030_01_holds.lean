import PyProof.Rows.All
import Wide.All
import OpenK.AllK
import Wide.FinOn
import PySem.Challenge.RW_tl0030_01
open PySem PySem.W PySem.Calls PyProof.Rows
set_option Elab.async false
namespace Mine
open PySem PySem.W PySem.Calls PyProof.Rows
set_option maxRecDepth 100000
noncomputable abbrev pw : Program := PySem.Challenge.pw_tl0030_01
noncomputable def st (i : Nat) : Stmt := (pw.main.body[i]?).getD (.Pass ⟨0, 0, 0, 0⟩)
noncomputable def stArgs : Stmt → Arguments
  | .FunctionDef _ a _ _ _ _ _ _ _ _ => a
  | _ => ⟨[], [], none, [], [], none, []⟩
noncomputable def stBody : Stmt → List Stmt
  | .FunctionDef _ _ b _ _ _ _ _ _ _ => b
  | _ => []
noncomputable def stScope : Stmt → Scope
  | .FunctionDef _ _ _ _ _ _ s _ _ _ => s
  | _ => ⟨.module, [], false, false, []⟩

noncomputable abbrev pa1 : Arguments := by
  refine (fun (a : Arguments) (_ : a = stArgs (st 1)) => a) ?a ?h
  case h => conv => rhs; whnf
noncomputable abbrev bo1 : List Stmt := by
  refine (fun (a : List Stmt) (_ : a = stBody (st 1)) => a) ?a ?h
  case h => conv => rhs; whnf
noncomputable abbrev sc1 : Scope := by
  refine (fun (a : Scope) (_ : a = stScope (st 1)) => a) ?a ?h
  case h => conv => rhs; whnf

noncomputable abbrev pa4 : Arguments := by
  refine (fun (a : Arguments) (_ : a = stArgs (st 4)) => a) ?a ?h
  case h => conv => rhs; whnf
noncomputable abbrev bo4 : List Stmt := by
  refine (fun (a : List Stmt) (_ : a = stBody (st 4)) => a) ?a ?h
  case h => conv => rhs; whnf
noncomputable abbrev sc4 : Scope := by
  refine (fun (a : Scope) (_ : a = stScope (st 4)) => a) ?a ?h
  case h => conv => rhs; whnf

noncomputable abbrev pa6 : Arguments := by
  refine (fun (a : Arguments) (_ : a = stArgs (st 6)) => a) ?a ?h
  case h => conv => rhs; whnf
noncomputable abbrev bo6 : List Stmt := by
  refine (fun (a : List Stmt) (_ : a = stBody (st 6)) => a) ?a ?h
  case h => conv => rhs; whnf
noncomputable abbrev sc6 : Scope := by
  refine (fun (a : Scope) (_ : a = stScope (st 6)) => a) ?a ?h
  case h => conv => rhs; whnf

noncomputable abbrev pa11 : Arguments := by
  refine (fun (a : Arguments) (_ : a = stArgs (st 11)) => a) ?a ?h
  case h => conv => rhs; whnf
noncomputable abbrev bo11 : List Stmt := by
  refine (fun (a : List Stmt) (_ : a = stBody (st 11)) => a) ?a ?h
  case h => conv => rhs; whnf
noncomputable abbrev sc11 : Scope := by
  refine (fun (a : Scope) (_ : a = stScope (st 11)) => a) ?a ?h
  case h => conv => rhs; whnf

noncomputable abbrev pa12 : Arguments := by
  refine (fun (a : Arguments) (_ : a = stArgs (st 12)) => a) ?a ?h
  case h => conv => rhs; whnf
noncomputable abbrev bo12 : List Stmt := by
  refine (fun (a : List Stmt) (_ : a = stBody (st 12)) => a) ?a ?h
  case h => conv => rhs; whnf
noncomputable abbrev sc12 : Scope := by
  refine (fun (a : Scope) (_ : a = stScope (st 12)) => a) ?a ?h
  case h => conv => rhs; whnf

noncomputable abbrev pa14 : Arguments := by
  refine (fun (a : Arguments) (_ : a = stArgs (st 14)) => a) ?a ?h
  case h => conv => rhs; whnf
noncomputable abbrev bo14 : List Stmt := by
  refine (fun (a : List Stmt) (_ : a = stBody (st 14)) => a) ?a ?h
  case h => conv => rhs; whnf
noncomputable abbrev sc14 : Scope := by
  refine (fun (a : Scope) (_ : a = stScope (st 14)) => a) ?a ?h
  case h => conv => rhs; whnf

noncomputable abbrev pa15 : Arguments := by
  refine (fun (a : Arguments) (_ : a = stArgs (st 15)) => a) ?a ?h
  case h => conv => rhs; whnf
noncomputable abbrev bo15 : List Stmt := by
  refine (fun (a : List Stmt) (_ : a = stBody (st 15)) => a) ?a ?h
  case h => conv => rhs; whnf
noncomputable abbrev sc15 : Scope := by
  refine (fun (a : Scope) (_ : a = stScope (st 15)) => a) ?a ?h
  case h => conv => rhs; whnf

noncomputable abbrev pa16 : Arguments := by
  refine (fun (a : Arguments) (_ : a = stArgs (st 16)) => a) ?a ?h
  case h => conv => rhs; whnf
noncomputable abbrev bo16 : List Stmt := by
  refine (fun (a : List Stmt) (_ : a = stBody (st 16)) => a) ?a ?h
  case h => conv => rhs; whnf
noncomputable abbrev sc16 : Scope := by
  refine (fun (a : Scope) (_ : a = stScope (st 16)) => a) ?a ?h
  case h => conv => rhs; whnf

noncomputable abbrev pa17 : Arguments := by
  refine (fun (a : Arguments) (_ : a = stArgs (st 17)) => a) ?a ?h
  case h => conv => rhs; whnf
noncomputable abbrev bo17 : List Stmt := by
  refine (fun (a : List Stmt) (_ : a = stBody (st 17)) => a) ?a ?h
  case h => conv => rhs; whnf
noncomputable abbrev sc17 : Scope := by
  refine (fun (a : Scope) (_ : a = stScope (st 17)) => a) ?a ?h
  case h => conv => rhs; whnf

noncomputable abbrev pa18 : Arguments := by
  refine (fun (a : Arguments) (_ : a = stArgs (st 18)) => a) ?a ?h
  case h => conv => rhs; whnf
noncomputable abbrev bo18 : List Stmt := by
  refine (fun (a : List Stmt) (_ : a = stBody (st 18)) => a) ?a ?h
  case h => conv => rhs; whnf
noncomputable abbrev sc18 : Scope := by
  refine (fun (a : Scope) (_ : a = stScope (st 18)) => a) ?a ?h
  case h => conv => rhs; whnf

noncomputable abbrev pa19 : Arguments := by
  refine (fun (a : Arguments) (_ : a = stArgs (st 19)) => a) ?a ?h
  case h => conv => rhs; whnf
noncomputable abbrev bo19 : List Stmt := by
  refine (fun (a : List Stmt) (_ : a = stBody (st 19)) => a) ?a ?h
  case h => conv => rhs; whnf
noncomputable abbrev sc19 : Scope := by
  refine (fun (a : Scope) (_ : a = stScope (st 19)) => a) ?a ?h
  case h => conv => rhs; whnf

noncomputable abbrev pa20 : Arguments := by
  refine (fun (a : Arguments) (_ : a = stArgs (st 20)) => a) ?a ?h
  case h => conv => rhs; whnf
noncomputable abbrev bo20 : List Stmt := by
  refine (fun (a : List Stmt) (_ : a = stBody (st 20)) => a) ?a ?h
  case h => conv => rhs; whnf
noncomputable abbrev sc20 : Scope := by
  refine (fun (a : Scope) (_ : a = stScope (st 20)) => a) ?a ?h
  case h => conv => rhs; whnf

noncomputable abbrev pa21 : Arguments := by
  refine (fun (a : Arguments) (_ : a = stArgs (st 21)) => a) ?a ?h
  case h => conv => rhs; whnf
noncomputable abbrev bo21 : List Stmt := by
  refine (fun (a : List Stmt) (_ : a = stBody (st 21)) => a) ?a ?h
  case h => conv => rhs; whnf
noncomputable abbrev sc21 : Scope := by
  refine (fun (a : Scope) (_ : a = stScope (st 21)) => a) ?a ?h
  case h => conv => rhs; whnf

noncomputable abbrev fnRaw (n : String) (a : Arguments) (b : List Stmt) (s : Scope) : FuncData :=
  { name := Str.ofString n, qualname := Str.ofString n, params := a, body := .stmts b, scope := s, globals := 0, closure := [], defaults := .none, kwdefaults := .none }
noncomputable abbrev en (P : Params) (x : String) (t : Tok) (v : Value) : DictEntry := ⟨PyData.keyHash P (Str.ofString x), .str (Str.ofString x) t, v⟩
noncomputable def keyInt : Option PySem.Expr → Int
  | some (.Constant (.int i) _ _) => i
  | _ => 0
noncomputable def valStr : PySem.Expr → Str
  | .Constant (.str s) _ _ => s
  | _ => Str.mk #[]
noncomputable def b3P : List (Int × Str) := match st 5 with
  | .Assign _ (.Dict ks vs _) _ => List.zip (ks.map keyInt) (vs.map valStr)
  | _ => []
noncomputable def pairs3 : Nat → List (Int × Str) → List DictEntry
  | _, [] => []
  | t, (k, v) :: r => ⟨hashInt k, .int k t, .str v (t + 1)⟩ :: pairs3 (t + 3) r
noncomputable def pairs2 : Nat → List (Int × Str) → List DictEntry
  | _, [] => []
  | t, (k, v) :: r => ⟨hashInt k, .int k t, .str v (t + 1)⟩ :: pairs2 (t + 2) r
noncomputable def b3Es : List DictEntry := pairs3 266 (b3P.take 646) ++ pairs2 2204 (b3P.drop 646)
noncomputable abbrev dictO (es : List DictEntry) (n : Nat) : Obj := ⟨.type "dict", none, .dict es.toArray n, #[]⟩
noncomputable def chunk (c : Nat) : Obj := dictO (pairs3 (266 + 51 * c) ((b3P.drop (17 * c)).take 17)) 17
noncomputable def chunkL : Obj := dictO (pairs2 2204 (b3P.drop 646)) 4

noncomputable def b1Es : List (Int × Value) := [(65024, .int 65024 215), (65025, .int 65025 216), (65026, .int 65026 217), (65027, .int 65027 218), (65028, .int 65028 219), (65029, .int 65029 220), (6150, .int 6150 201), (65030, .int 65030 221), (65031, .int 65031 222), (65032, .int 65032 223), (65033, .int 65033 224), (6155, .int 6155 202), (6156, .int 6156 203), (6157, .int 6157 204), (8203, .int 8203 205), (8204, .int 8204 206), (8205, .int 8205 207), (65034, .int 65034 225), (65035, .int 65035 226), (65036, .int 65036 227), (65037, .int 65037 228), (65038, .int 65038 229), (65039, .int 65039 230), (173, .int 173 199), (847, .int 847 200), (8288, .int 8288 208), (65279, .int 65279 209)]
noncomputable abbrev b1Tab (P : Params) : SetTable := { mask := 127, place := #[0, 1, 2, 3, 4, 5, 6, 7, 8, 9, 10, 11, 12, 13, 14, 15, 16, 17, 18, 19, 20, 21, 22, 45, 79, 96, 127], dummies := #[], finger := 0, led := !(P.followText "set-order"), moves := 2, plain := true }
noncomputable abbrev o29 (P : Params) : Obj := ⟨.type "set", none, .set b1Es.toArray 29 (b1Tab P), #[]⟩
noncomputable abbrev o40 : Obj := dictO b3Es 650

noncomputable abbrev mainEs (P : Params) : List DictEntry := [
  en P "__name__" 165 (.str (Str.ofString "law_tl0030_01") 2261),
  en P "__doc__" 166 .none,
  en P "__package__" 167 .none,
  en P "__loader__" 168 (.builtin "__main__.__loader__#opaque"),
  en P "__spec__" 169 .none,
  en P "__annotations__" 170 (.ref 6),
  en P "__builtins__" 171 (.ref 4),
  en P "__file__" 173 (.str (Str.ofString "/claim/cut.py") 172),
  en P "__cached__" 174 .none,
  en P "contains" 196 (.ref 21),
  en P "b1_set" 258 (.ref 29),
  en P "in_table_b1" 265 (.ref 39),
  en P "b3_exceptions" 2216 (.ref 40),
  en P "map_table_b3" 2224 (.ref 85),
  en P "_MAX_STRING_SIZE" 2228 (.int 40 2227),
  en P "_MOVE_COST" 2230 (.int 2 2229),
  en P "_CASE_COST" 2232 (.int 1 2231),
  en P "_substitution_cost" 2240 (.ref 92),
  en P "_levenshtein_distance" 2260 (.ref 99),
  en P "_law_draws" 2271 (.ref 106),
  en P "_law_unseen" 2278 (.ref 113),
  en P "_law_form" 2286 (.ref 120),
  en P "_law_typed" 2298 (.ref 127),
  en P "_law_prepared" 2308 (.ref 134),
  en P "_law_eaten" 2319 (.ref 141),
  en P "_law_scattered" 2329 (.ref 148),
  en P "law" 2335 (.ref 153)]
noncomputable abbrev o3 (P : Params) : Obj := dictO (mainEs P) 27
noncomputable abbrev o2 : Obj := ⟨.none, none, (.dict (List.toArray []) 0), List.toArray []⟩
noncomputable abbrev o6 : Obj := ⟨.type "dict", none, (.dict (List.toArray []) 0), List.toArray []⟩
noncomputable abbrev o11 : Obj := ⟨.type "tuple", none, (.seq (List.toArray []) 0), List.toArray []⟩
noncomputable abbrev o12 : Obj := ⟨.none, none, (.fields (List.toArray [.int 2 0, .int 0 0, .ref 20, .int 6 0, .int 0 0, .ref 38, .int 9 0, .int 0 0, .ref 84, .int 18 0, .int 0 0, .ref 91, .int 24 0, .int 0 0, .ref 98, .int 63 0, .int 0 0, .ref 105, .int 68 0, .int 0 0, .ref 112, .int 72 0, .int 0 0, .ref 119, .int 78 0, .int 0 0, .ref 126, .int 93 0, .int 0 0, .ref 133, .int 102 0, .int 0 0, .ref 140, .int 109 0, .int 0 0, .ref 147, .int 115 0, .int 0 0, .ref 152])), List.toArray []⟩
noncomputable abbrev o13 : Obj := ⟨.type "code", none, (.fields (List.toArray [.str (Str.ofString "<module>") 182, .str (Str.ofString "<module>") 183, .str (Str.ofString "/claim/cut.py") 184, .int 1 0, .int 0 0, .int 0 0, .int 0 0, .int 0 0, .ref 11, .bool false, .int 181 0, .ref 12, .none, .none, .none, .none, .int 185 0, .int 1 0, .str (Str.ofString "/claim/cut.py") 186])), List.toArray []⟩
noncomputable abbrev o14 : Obj := ⟨.type "frame", none, .plain, List.toArray [some (.ref 13), some (.ref 3), some (.ref 3), none, some (.str (Str.ofString "__main__") 164), none, some (.ref 0)]⟩
noncomputable abbrev o15 : Obj := ⟨.type "tuple", none, (.seq (List.toArray []) 0), List.toArray []⟩
noncomputable abbrev o16 : Obj := ⟨.none, none, (.fields (List.toArray [])), List.toArray []⟩
noncomputable abbrev o17 : Obj := ⟨.type "tuple", none, (.seq (List.toArray [.str (Str.ofString "a") 192, .str (Str.ofString "b") 193]) 0), List.toArray []⟩
noncomputable abbrev o18 : Obj := ⟨.type "tuple", none, (.seq (List.toArray []) 0), List.toArray []⟩
noncomputable abbrev o19 : Obj := ⟨.none, none, (.func (fnRaw "contains" pa1 bo1 sc1)), List.toArray []⟩
noncomputable abbrev o20 : Obj := ⟨.type "code", none, (.fields (List.toArray [.str (Str.ofString "contains") 189, .str (Str.ofString "contains") 190, .str (Str.ofString "/claim/cut.py") 191, .int 2 0, .int 2 0, .int 0 0, .int 0 0, .int 3 0, .ref 15, .bool true, .int 181 0, .ref 16, .none, .ref 17, .ref 18, .ref 19, .int 194 0, .int 2 0, .str (Str.ofString "/claim/cut.py") 195])), List.toArray []⟩
noncomputable abbrev o21 : Obj := ⟨.type "function", none, (.func (fnOf (Str.ofString "contains") (Str.ofString "contains") pa1 bo1 sc1 .none .none .none (.str (Str.ofString "cpy313.operator") 187) none (.ref 20) .none)), List.toArray []⟩
noncomputable abbrev o22 : Obj := ⟨.type "list", none, (.seq (List.toArray [.int 173 199, .int 847 200, .int 6150 201, .int 6155 202, .int 6156 203, .int 6157 204, .int 8203 205, .int 8204 206, .int 8205 207, .int 8288 208, .int 65279 209]) 0), List.toArray []⟩
noncomputable abbrev o23 : Obj := ⟨.type "range", none, (.fields (List.toArray [.int 65024 210, .int 65040 211, .int 1 212])), List.toArray []⟩
noncomputable abbrev o24 : Obj := ⟨.type "list", none, (.seq (List.toArray [.int 65024 215, .int 65025 216, .int 65026 217, .int 65027 218, .int 65028 219, .int 65029 220, .int 65030 221, .int 65031 222, .int 65032 223, .int 65033 224, .int 65034 225, .int 65035 226, .int 65036 227, .int 65037 228, .int 65038 229, .int 65039 230]) 18), List.toArray []⟩
noncomputable abbrev o25 : Obj := ⟨.type "range_iterator", none, (.fields (List.toArray [.int 65040 0, .int 0 0, .int 1 0])), List.toArray []⟩
noncomputable abbrev o26 : Obj := ⟨.type "tuple", none, (.seq (List.toArray []) 0), List.toArray []⟩
noncomputable abbrev o27 : Obj := ⟨.type "StopIteration", none, (.fields (List.toArray [.ref 26, .none, .none, .none, .bool false, .none])), List.toArray []⟩
noncomputable abbrev o28 : Obj := ⟨.type "list", none, (.seq (List.toArray [.int 173 199, .int 847 200, .int 6150 201, .int 6155 202, .int 6156 203, .int 6157 204, .int 8203 205, .int 8204 206, .int 8205 207, .int 8288 208, .int 65279 209, .int 65024 215, .int 65025 216, .int 65026 217, .int 65027 218, .int 65028 219, .int 65029 220, .int 65030 221, .int 65031 222, .int 65032 223, .int 65033 224, .int 65034 225, .int 65035 226, .int 65036 227, .int 65037 228, .int 65038 229, .int 65039 230]) 0), List.toArray []⟩
noncomputable abbrev o30 : Obj := ⟨.type "list_iterator", none, (.fields (List.toArray [.none, .int 27 0])), List.toArray []⟩
noncomputable abbrev o31 : Obj := ⟨.type "tuple", none, (.seq (List.toArray []) 0), List.toArray []⟩
noncomputable abbrev o32 : Obj := ⟨.type "StopIteration", none, (.fields (List.toArray [.ref 31, .none, .none, .none, .bool false, .none])), List.toArray []⟩
noncomputable abbrev o33 : Obj := ⟨.type "tuple", none, (.seq (List.toArray []) 0), List.toArray []⟩
noncomputable abbrev o34 : Obj := ⟨.none, none, (.fields (List.toArray [])), List.toArray []⟩
noncomputable abbrev o35 : Obj := ⟨.type "tuple", none, (.seq (List.toArray [.str (Str.ofString "code") 262]) 0), List.toArray []⟩
noncomputable abbrev o36 : Obj := ⟨.type "tuple", none, (.seq (List.toArray []) 0), List.toArray []⟩
noncomputable abbrev o37 : Obj := ⟨.none, none, (.func (fnRaw "in_table_b1" pa4 bo4 sc4)), List.toArray []⟩
noncomputable abbrev o38 : Obj := ⟨.type "code", none, (.fields (List.toArray [.str (Str.ofString "in_table_b1") 259, .str (Str.ofString "in_table_b1") 260, .str (Str.ofString "/claim/cut.py") 261, .int 6 0, .int 1 0, .int 0 0, .int 0 0, .int 3 0, .ref 33, .bool true, .int 181 0, .ref 34, .none, .ref 35, .ref 36, .ref 37, .int 263 0, .int 6 0, .str (Str.ofString "/claim/cut.py") 264])), List.toArray []⟩
noncomputable abbrev o39 : Obj := ⟨.type "function", none, (.func (fnOf (Str.ofString "in_table_b1") (Str.ofString "in_table_b1") pa4 bo4 sc4 .none .none .none (.str (Str.ofString "cpy313.stringprep") 197) none (.ref 38) .none)), List.toArray []⟩
noncomputable abbrev o79 : Obj := ⟨.type "tuple", none, (.seq (List.toArray []) 0), List.toArray []⟩
noncomputable abbrev o80 : Obj := ⟨.none, none, (.fields (List.toArray [])), List.toArray []⟩
noncomputable abbrev o81 : Obj := ⟨.type "tuple", none, (.seq (List.toArray [.str (Str.ofString "code") 2220, .str (Str.ofString "r") 2221]) 0), List.toArray []⟩
noncomputable abbrev o82 : Obj := ⟨.type "tuple", none, (.seq (List.toArray []) 0), List.toArray []⟩
noncomputable abbrev o83 : Obj := ⟨.none, none, (.func (fnRaw "map_table_b3" pa6 bo6 sc6)), List.toArray []⟩
noncomputable abbrev o84 : Obj := ⟨.type "code", none, (.fields (List.toArray [.str (Str.ofString "map_table_b3") 2217, .str (Str.ofString "map_table_b3") 2218, .str (Str.ofString "/claim/cut.py") 2219, .int 9 0, .int 1 0, .int 0 0, .int 0 0, .int 3 0, .ref 79, .bool true, .int 181 0, .ref 80, .none, .ref 81, .ref 82, .ref 83, .int 2222 0, .int 9 0, .str (Str.ofString "/claim/cut.py") 2223])), List.toArray []⟩
noncomputable abbrev o85 : Obj := ⟨.type "function", none, (.func (fnOf (Str.ofString "map_table_b3") (Str.ofString "map_table_b3") pa6 bo6 sc6 .none .none .none (.str (Str.ofString "cpy313.stringprep") 197) none (.ref 84) .none)), List.toArray []⟩
noncomputable abbrev o86 : Obj := ⟨.type "tuple", none, (.seq (List.toArray []) 0), List.toArray []⟩
noncomputable abbrev o87 : Obj := ⟨.none, none, (.fields (List.toArray [])), List.toArray []⟩
noncomputable abbrev o88 : Obj := ⟨.type "tuple", none, (.seq (List.toArray [.str (Str.ofString "ch_a") 2236, .str (Str.ofString "ch_b") 2237]) 0), List.toArray []⟩
noncomputable abbrev o89 : Obj := ⟨.type "tuple", none, (.seq (List.toArray []) 0), List.toArray []⟩
noncomputable abbrev o90 : Obj := ⟨.none, none, (.func (fnRaw "_substitution_cost" pa11 bo11 sc11)), List.toArray []⟩
noncomputable abbrev o91 : Obj := ⟨.type "code", none, (.fields (List.toArray [.str (Str.ofString "_substitution_cost") 2233, .str (Str.ofString "_substitution_cost") 2234, .str (Str.ofString "/claim/cut.py") 2235, .int 18 0, .int 2 0, .int 0 0, .int 0 0, .int 3 0, .ref 86, .bool true, .int 181 0, .ref 87, .none, .ref 88, .ref 89, .ref 90, .int 2238 0, .int 18 0, .str (Str.ofString "/claim/cut.py") 2239])), List.toArray []⟩
noncomputable abbrev o92 : Obj := ⟨.type "function", none, (.func (fnOf (Str.ofString "_substitution_cost") (Str.ofString "_substitution_cost") pa11 bo11 sc11 .none .none .none (.str (Str.ofString "cpy313.traceback") 2225) none (.ref 91) .none)), List.toArray []⟩
noncomputable abbrev o93 : Obj := ⟨.type "tuple", none, (.seq (List.toArray []) 0), List.toArray []⟩
noncomputable abbrev o94 : Obj := ⟨.none, none, (.fields (List.toArray [])), List.toArray []⟩
noncomputable abbrev o95 : Obj := ⟨.type "tuple", none, (.seq (List.toArray [.str (Str.ofString "a") 2244, .str (Str.ofString "b") 2245, .str (Str.ofString "max_cost") 2246, .str (Str.ofString "pre") 2247, .str (Str.ofString "post") 2248, .str (Str.ofString "row") 2249, .str (Str.ofString "result") 2250, .str (Str.ofString "bindex") 2251, .str (Str.ofString "bchar") 2252, .str (Str.ofString "distance") 2253, .str (Str.ofString "minimum") 2254, .str (Str.ofString "index") 2255, .str (Str.ofString "substitute") 2256, .str (Str.ofString "insert_delete") 2257]) 0), List.toArray []⟩
noncomputable abbrev o96 : Obj := ⟨.type "tuple", none, (.seq (List.toArray []) 0), List.toArray []⟩
noncomputable abbrev o97 : Obj := ⟨.none, none, (.func (fnRaw "_levenshtein_distance" pa12 bo12 sc12)), List.toArray []⟩
noncomputable abbrev o98 : Obj := ⟨.type "code", none, (.fields (List.toArray [.str (Str.ofString "_levenshtein_distance") 2241, .str (Str.ofString "_levenshtein_distance") 2242, .str (Str.ofString "/claim/cut.py") 2243, .int 24 0, .int 3 0, .int 0 0, .int 0 0, .int 3 0, .ref 93, .bool true, .int 181 0, .ref 94, .none, .ref 95, .ref 96, .ref 97, .int 2258 0, .int 24 0, .str (Str.ofString "/claim/cut.py") 2259])), List.toArray []⟩
noncomputable abbrev o99 : Obj := ⟨.type "function", none, (.func (fnOf (Str.ofString "_levenshtein_distance") (Str.ofString "_levenshtein_distance") pa12 bo12 sc12 .none .none .none (.str (Str.ofString "cpy313.traceback") 2225) none (.ref 98) .none)), List.toArray []⟩
noncomputable abbrev o100 : Obj := ⟨.type "tuple", none, (.seq (List.toArray []) 0), List.toArray []⟩
noncomputable abbrev o101 : Obj := ⟨.none, none, (.fields (List.toArray [])), List.toArray []⟩
noncomputable abbrev o102 : Obj := ⟨.type "tuple", none, (.seq (List.toArray [.str (Str.ofString "script") 2266, .str (Str.ofString "draws") 2267, .str (Str.ofString "k") 2268]) 0), List.toArray []⟩
noncomputable abbrev o103 : Obj := ⟨.type "tuple", none, (.seq (List.toArray []) 0), List.toArray []⟩
noncomputable abbrev o104 : Obj := ⟨.none, none, (.func (fnRaw "_law_draws" pa14 bo14 sc14)), List.toArray []⟩
noncomputable abbrev o105 : Obj := ⟨.type "code", none, (.fields (List.toArray [.str (Str.ofString "_law_draws") 2263, .str (Str.ofString "_law_draws") 2264, .str (Str.ofString "/claim/cut.py") 2265, .int 63 0, .int 1 0, .int 0 0, .int 0 0, .int 3 0, .ref 100, .bool true, .int 181 0, .ref 101, .none, .ref 102, .ref 103, .ref 104, .int 2269 0, .int 63 0, .str (Str.ofString "/claim/cut.py") 2270])), List.toArray []⟩
noncomputable abbrev o106 : Obj := ⟨.type "function", none, (.func (fnOf (Str.ofString "_law_draws") (Str.ofString "_law_draws") pa14 bo14 sc14 .none .none .none (.str (Str.ofString "law_tl0030_01") 2261) none (.ref 105) .none)), List.toArray []⟩
noncomputable abbrev o107 : Obj := ⟨.type "tuple", none, (.seq (List.toArray []) 0), List.toArray []⟩
noncomputable abbrev o108 : Obj := ⟨.none, none, (.fields (List.toArray [])), List.toArray []⟩
noncomputable abbrev o109 : Obj := ⟨.type "tuple", none, (.seq (List.toArray [.str (Str.ofString "k") 2275]) 0), List.toArray []⟩
noncomputable abbrev o110 : Obj := ⟨.type "tuple", none, (.seq (List.toArray []) 0), List.toArray []⟩
noncomputable abbrev o111 : Obj := ⟨.none, none, (.func (fnRaw "_law_unseen" pa15 bo15 sc15)), List.toArray []⟩
noncomputable abbrev o112 : Obj := ⟨.type "code", none, (.fields (List.toArray [.str (Str.ofString "_law_unseen") 2272, .str (Str.ofString "_law_unseen") 2273, .str (Str.ofString "/claim/cut.py") 2274, .int 68 0, .int 1 0, .int 0 0, .int 0 0, .int 3 0, .ref 107, .bool true, .int 181 0, .ref 108, .none, .ref 109, .ref 110, .ref 111, .int 2276 0, .int 68 0, .str (Str.ofString "/claim/cut.py") 2277])), List.toArray []⟩
noncomputable abbrev o113 : Obj := ⟨.type "function", none, (.func (fnOf (Str.ofString "_law_unseen") (Str.ofString "_law_unseen") pa15 bo15 sc15 .none .none .none (.str (Str.ofString "law_tl0030_01") 2261) none (.ref 112) .none)), List.toArray []⟩
noncomputable abbrev o114 : Obj := ⟨.type "tuple", none, (.seq (List.toArray []) 0), List.toArray []⟩
noncomputable abbrev o115 : Obj := ⟨.none, none, (.fields (List.toArray [])), List.toArray []⟩
noncomputable abbrev o116 : Obj := ⟨.type "tuple", none, (.seq (List.toArray [.str (Str.ofString "letter") 2282, .str (Str.ofString "k") 2283]) 0), List.toArray []⟩
noncomputable abbrev o117 : Obj := ⟨.type "tuple", none, (.seq (List.toArray []) 0), List.toArray []⟩
noncomputable abbrev o118 : Obj := ⟨.none, none, (.func (fnRaw "_law_form" pa16 bo16 sc16)), List.toArray []⟩
noncomputable abbrev o119 : Obj := ⟨.type "code", none, (.fields (List.toArray [.str (Str.ofString "_law_form") 2279, .str (Str.ofString "_law_form") 2280, .str (Str.ofString "/claim/cut.py") 2281, .int 72 0, .int 2 0, .int 0 0, .int 0 0, .int 3 0, .ref 114, .bool true, .int 181 0, .ref 115, .none, .ref 116, .ref 117, .ref 118, .int 2284 0, .int 72 0, .str (Str.ofString "/claim/cut.py") 2285])), List.toArray []⟩
noncomputable abbrev o120 : Obj := ⟨.type "function", none, (.func (fnOf (Str.ofString "_law_form") (Str.ofString "_law_form") pa16 bo16 sc16 .none .none .none (.str (Str.ofString "law_tl0030_01") 2261) none (.ref 119) .none)), List.toArray []⟩
noncomputable abbrev o121 : Obj := ⟨.type "tuple", none, (.seq (List.toArray []) 0), List.toArray []⟩
noncomputable abbrev o122 : Obj := ⟨.none, none, (.fields (List.toArray [])), List.toArray []⟩
noncomputable abbrev o123 : Obj := ⟨.type "tuple", none, (.seq (List.toArray [.str (Str.ofString "word") 2290, .str (Str.ofString "draws") 2291, .str (Str.ofString "both") 2292, .str (Str.ofString "signs") 2293, .str (Str.ofString "k") 2294, .str (Str.ofString "hidden") 2295]) 0), List.toArray []⟩
noncomputable abbrev o124 : Obj := ⟨.type "tuple", none, (.seq (List.toArray []) 0), List.toArray []⟩
noncomputable abbrev o125 : Obj := ⟨.none, none, (.func (fnRaw "_law_typed" pa17 bo17 sc17)), List.toArray []⟩
noncomputable abbrev o126 : Obj := ⟨.type "code", none, (.fields (List.toArray [.str (Str.ofString "_law_typed") 2287, .str (Str.ofString "_law_typed") 2288, .str (Str.ofString "/claim/cut.py") 2289, .int 78 0, .int 2 0, .int 0 0, .int 0 0, .int 3 0, .ref 121, .bool true, .int 181 0, .ref 122, .none, .ref 123, .ref 124, .ref 125, .int 2296 0, .int 78 0, .str (Str.ofString "/claim/cut.py") 2297])), List.toArray []⟩
noncomputable abbrev o127 : Obj := ⟨.type "function", none, (.func (fnOf (Str.ofString "_law_typed") (Str.ofString "_law_typed") pa17 bo17 sc17 .none .none .none (.str (Str.ofString "law_tl0030_01") 2261) none (.ref 126) .none)), List.toArray []⟩
noncomputable abbrev o128 : Obj := ⟨.type "tuple", none, (.seq (List.toArray []) 0), List.toArray []⟩
noncomputable abbrev o129 : Obj := ⟨.none, none, (.fields (List.toArray [])), List.toArray []⟩
noncomputable abbrev o130 : Obj := ⟨.type "tuple", none, (.seq (List.toArray [.str (Str.ofString "text") 2302, .str (Str.ofString "signs") 2303, .str (Str.ofString "sign") 2304, .str (Str.ofString "held") 2305]) 0), List.toArray []⟩
noncomputable abbrev o131 : Obj := ⟨.type "tuple", none, (.seq (List.toArray []) 0), List.toArray []⟩
noncomputable abbrev o132 : Obj := ⟨.none, none, (.func (fnRaw "_law_prepared" pa18 bo18 sc18)), List.toArray []⟩
noncomputable abbrev o133 : Obj := ⟨.type "code", none, (.fields (List.toArray [.str (Str.ofString "_law_prepared") 2299, .str (Str.ofString "_law_prepared") 2300, .str (Str.ofString "/claim/cut.py") 2301, .int 93 0, .int 1 0, .int 0 0, .int 0 0, .int 3 0, .ref 128, .bool true, .int 181 0, .ref 129, .none, .ref 130, .ref 131, .ref 132, .int 2306 0, .int 93 0, .str (Str.ofString "/claim/cut.py") 2307])), List.toArray []⟩
noncomputable abbrev o134 : Obj := ⟨.type "function", none, (.func (fnOf (Str.ofString "_law_prepared") (Str.ofString "_law_prepared") pa18 bo18 sc18 .none .none .none (.str (Str.ofString "law_tl0030_01") 2261) none (.ref 133) .none)), List.toArray []⟩
noncomputable abbrev o135 : Obj := ⟨.type "tuple", none, (.seq (List.toArray []) 0), List.toArray []⟩
noncomputable abbrev o136 : Obj := ⟨.none, none, (.fields (List.toArray [])), List.toArray []⟩
noncomputable abbrev o137 : Obj := ⟨.type "tuple", none, (.seq (List.toArray [.str (Str.ofString "text") 2312, .str (Str.ofString "letters") 2313, .str (Str.ofString "row") 2314, .str (Str.ofString "letter") 2315, .str (Str.ofString "said") 2316]) 0), List.toArray []⟩
noncomputable abbrev o138 : Obj := ⟨.type "tuple", none, (.seq (List.toArray []) 0), List.toArray []⟩
noncomputable abbrev o139 : Obj := ⟨.none, none, (.func (fnRaw "_law_eaten" pa19 bo19 sc19)), List.toArray []⟩
noncomputable abbrev o140 : Obj := ⟨.type "code", none, (.fields (List.toArray [.str (Str.ofString "_law_eaten") 2309, .str (Str.ofString "_law_eaten") 2310, .str (Str.ofString "/claim/cut.py") 2311, .int 102 0, .int 2 0, .int 0 0, .int 0 0, .int 3 0, .ref 135, .bool true, .int 181 0, .ref 136, .none, .ref 137, .ref 138, .ref 139, .int 2317 0, .int 102 0, .str (Str.ofString "/claim/cut.py") 2318])), List.toArray []⟩
noncomputable abbrev o141 : Obj := ⟨.type "function", none, (.func (fnOf (Str.ofString "_law_eaten") (Str.ofString "_law_eaten") pa19 bo19 sc19 .none .none .none (.str (Str.ofString "law_tl0030_01") 2261) none (.ref 140) .none)), List.toArray []⟩
noncomputable abbrev o142 : Obj := ⟨.type "tuple", none, (.seq (List.toArray []) 0), List.toArray []⟩
noncomputable abbrev o143 : Obj := ⟨.none, none, (.fields (List.toArray [])), List.toArray []⟩
noncomputable abbrev o144 : Obj := ⟨.type "tuple", none, (.seq (List.toArray [.str (Str.ofString "letters") 2323, .str (Str.ofString "word") 2324, .str (Str.ofString "found") 2325, .str (Str.ofString "letter") 2326]) 0), List.toArray []⟩
noncomputable abbrev o145 : Obj := ⟨.type "tuple", none, (.seq (List.toArray []) 0), List.toArray []⟩
noncomputable abbrev o146 : Obj := ⟨.none, none, (.func (fnRaw "_law_scattered" pa20 bo20 sc20)), List.toArray []⟩
noncomputable abbrev o147 : Obj := ⟨.type "code", none, (.fields (List.toArray [.str (Str.ofString "_law_scattered") 2320, .str (Str.ofString "_law_scattered") 2321, .str (Str.ofString "/claim/cut.py") 2322, .int 109 0, .int 2 0, .int 0 0, .int 0 0, .int 3 0, .ref 142, .bool true, .int 181 0, .ref 143, .none, .ref 144, .ref 145, .ref 146, .int 2327 0, .int 109 0, .str (Str.ofString "/claim/cut.py") 2328])), List.toArray []⟩
noncomputable abbrev o148 : Obj := ⟨.type "function", none, (.func (fnOf (Str.ofString "_law_scattered") (Str.ofString "_law_scattered") pa20 bo20 sc20 .none .none .none (.str (Str.ofString "law_tl0030_01") 2261) none (.ref 147) .none)), List.toArray []⟩
noncomputable abbrev o149 : Obj := ⟨.type "tuple", none, (.seq (List.toArray []) 0), List.toArray []⟩
noncomputable abbrev o150 : Obj := ⟨.none, none, (.fields (List.toArray [])), List.toArray []⟩
noncomputable abbrev o151 : Obj := ⟨.none, none, (.func (fnRaw "law" pa21 bo21 sc21)), List.toArray []⟩
noncomputable abbrev o152 : Obj := ⟨.type "code", none, (.fields (List.toArray [.str (Str.ofString "law") 2330, .str (Str.ofString "law") 2331, .str (Str.ofString "/claim/cut.py") 2332, .int 115 0, .int 1 0, .int 0 0, .int 0 0, .int 3 0, .ref 149, .bool true, .int 181 0, .ref 150, .none, .none, .none, .ref 151, .int 2333 0, .int 115 0, .str (Str.ofString "/claim/cut.py") 2334])), List.toArray []⟩
noncomputable abbrev o153 : Obj := ⟨.type "function", none, (.func (fnOf (Str.ofString "law") (Str.ofString "law") pa21 bo21 sc21 .none .none .none (.str (Str.ofString "law_tl0030_01") 2261) none (.ref 152) .none)), List.toArray []⟩
noncomputable def K0 : Params → Frag := fun P =>
  (nat_lit 2, o2) ::
  (nat_lit 3, o3 P) ::
  (nat_lit 6, o6) ::
  (nat_lit 15, o15) ::
  (nat_lit 17, o17) ::
  (nat_lit 18, o18) ::
  (nat_lit 20, o20) ::
  (nat_lit 21, o21) ::
  (nat_lit 29, o29 P) ::
  (nat_lit 33, o33) ::
  (nat_lit 35, o35) ::
  (nat_lit 36, o36) ::
  (nat_lit 38, o38) ::
  (nat_lit 39, o39) ::
  (nat_lit 40, o40) ::
  (nat_lit 79, o79) ::
  (nat_lit 81, o81) ::
  (nat_lit 82, o82) ::
  (nat_lit 84, o84) ::
  (nat_lit 85, o85) ::
  (nat_lit 86, o86) ::
  (nat_lit 88, o88) ::
  (nat_lit 89, o89) ::
  (nat_lit 91, o91) ::
  (nat_lit 92, o92) ::
  (nat_lit 93, o93) ::
  (nat_lit 95, o95) ::
  (nat_lit 96, o96) ::
  (nat_lit 98, o98) ::
  (nat_lit 99, o99) ::
  (nat_lit 100, o100) ::
  (nat_lit 102, o102) ::
  (nat_lit 103, o103) ::
  (nat_lit 105, o105) ::
  (nat_lit 106, o106) ::
  (nat_lit 107, o107) ::
  (nat_lit 109, o109) ::
  (nat_lit 110, o110) ::
  (nat_lit 112, o112) ::
  (nat_lit 113, o113) ::
  (nat_lit 114, o114) ::
  (nat_lit 116, o116) ::
  (nat_lit 117, o117) ::
  (nat_lit 119, o119) ::
  (nat_lit 120, o120) ::
  (nat_lit 121, o121) ::
  (nat_lit 123, o123) ::
  (nat_lit 124, o124) ::
  (nat_lit 126, o126) ::
  (nat_lit 127, o127) ::
  (nat_lit 128, o128) ::
  (nat_lit 130, o130) ::
  (nat_lit 131, o131) ::
  (nat_lit 133, o133) ::
  (nat_lit 134, o134) ::
  (nat_lit 135, o135) ::
  (nat_lit 137, o137) ::
  (nat_lit 138, o138) ::
  (nat_lit 140, o140) ::
  (nat_lit 141, o141) ::
  (nat_lit 142, o142) ::
  (nat_lit 144, o144) ::
  (nat_lit 145, o145) ::
  (nat_lit 147, o147) ::
  (nat_lit 148, o148) ::
  (nat_lit 149, o149) ::
  (nat_lit 152, o152) ::
  (nat_lit 153, o153) :: []
noncomputable def objsAll (P : Params) : List Obj :=
  boot_o_0 P :: boot_o_1 P :: o2 :: o3 P :: boot_o_4 P :: boot_o_5 P :: o6 :: boot_o_7 P :: boot_o_8 P :: boot_o_9 P :: boot_o_10 P :: o11 :: o12 :: o13 :: o14 :: o15 :: o16 :: o17 :: o18 :: o19 :: o20 :: o21 :: o22 :: o23 :: o24 :: o25 :: o26 :: o27 :: o28 :: o29 P :: o30 :: o31 :: o32 :: o33 :: o34 :: o35 :: o36 :: o37 :: o38 :: o39 :: o40 :: chunk 1 :: chunk 2 :: chunk 3 :: chunk 4 :: chunk 5 :: chunk 6 :: chunk 7 :: chunk 8 :: chunk 9 :: chunk 10 :: chunk 11 :: chunk 12 :: chunk 13 :: chunk 14 :: chunk 15 :: chunk 16 :: chunk 17 :: chunk 18 :: chunk 19 :: chunk 20 :: chunk 21 :: chunk 22 :: chunk 23 :: chunk 24 :: chunk 25 :: chunk 26 :: chunk 27 :: chunk 28 :: chunk 29 :: chunk 30 :: chunk 31 :: chunk 32 :: chunk 33 :: chunk 34 :: chunk 35 :: chunk 36 :: chunk 37 :: chunkL :: o79 :: o80 :: o81 :: o82 :: o83 :: o84 :: o85 :: o86 :: o87 :: o88 :: o89 :: o90 :: o91 :: o92 :: o93 :: o94 :: o95 :: o96 :: o97 :: o98 :: o99 :: o100 :: o101 :: o102 :: o103 :: o104 :: o105 :: o106 :: o107 :: o108 :: o109 :: o110 :: o111 :: o112 :: o113 :: o114 :: o115 :: o116 :: o117 :: o118 :: o119 :: o120 :: o121 :: o122 :: o123 :: o124 :: o125 :: o126 :: o127 :: o128 :: o129 :: o130 :: o131 :: o132 :: o133 :: o134 :: o135 :: o136 :: o137 :: o138 :: o139 :: o140 :: o141 :: o142 :: o143 :: o144 :: o145 :: o146 :: o147 :: o148 :: o149 :: o150 :: o151 :: o152 :: o153 :: []
end Mine

namespace Mine
open PySem PySem.W PySem.Calls PyProof.Rows
set_option maxRecDepth 100000
noncomputable abbrev Cl (w : World) (p : Program) (loose : List Str) (mean : ExcName → Option Value) (mg mb : Str → Option Value) (f : Addr) (news : List (Addr × Obj)) (dd uu : Nat) (vs : List Value) (R : Tok → Value) : Prop :=
  ∀ (dp un : Nat) (gd : Option (List Code)) (cn : Str) (cs : Scope) (a : Addr) (ccd : Value) (cl : List (Str × Addr)) (outer : List Env) (A₀ : Around) (base h₀ : Heap) (L : Addr) (m : Str → Option Value) (s : Shared) (Q E : Value → Shared → Prop),
    Below A₀ base outer h₀ → Fr h₀ L s.heap m → (K0 w.params).In h₀ → News h₀ L s.heap news → Top p loose mean mg mb h₀ → cs.kind = .function →
    dp + dd < recursionLimit → un + uu < cLine → CbRet h₀ L m news s Q R →
      wpAny (model pw w) (ktrTop dp un gd cn cs L a ccd cl outer) (call (.ref f) vs) Q E s
noncomputable def Held (P : Prop) : Prop := P
theorem held {P : Prop} (h : Held P) : P := h
theorem Held.mk {P : Prop} (h : P) : Held P := h
end Mine

namespace Mine
set_option maxRecDepth 100000
theorem fill_seed : PySem.Challenge.rw_tl0030_01.prog = PySem.Challenge.pw_tl0030_01 ∧ K0 = K0 := by k_fill; exact ⟨rfl, rfl⟩
end Mine

namespace Mine
open PySem PySem.W PySem.Calls PyProof.Rows
set_option maxRecDepth 100000
set_option maxHeartbeats 4000000

noncomputable def b1I : List Int := [65024, 65025, 65026, 65027, 65028, 65029, 6150, 65030, 65031, 65032, 65033, 6155, 6156, 6157, 8203, 8204, 8205, 65034, 65035, 65036, 65037, 65038, 65039, 173, 847, 8288, 65279]
noncomputable def okSet (e : Int × Value) : Bool := match e.2 with | .int i _ => e.1 == hashInt i | _ => false

theorem mem_setEs (es : List (Int × Value)) (h : es.all okSet = true) (prog : Program) (w : World) : ElemsOf (intKind prog w) es := by
  intro e he
  have := List.all_eq_true.mp h e he
  obtain ⟨a, v⟩ := e
  cases v <;> simp only [okSet, Bool.false_eq_true] at this
  rename_i i t
  exact ⟨⟨i, by simp [intKind, Value.isInt], eq_of_beq this⟩, rfl⟩
theorem b1_iff (es : List (Int × Value)) (l : List Int) (h : es.map (fun e => match e.2 with | .int i _ => i | _ => 0) = l) (hs : es.all okSet = true) (prog : Program) (w : World) (k : Int) :
    l.contains k = true ↔ ∃ e ∈ es, (intKind prog w).is k e.2 = true := by
  subst h
  rw [List.contains_iff_mem, List.mem_map]
  constructor
  · rintro ⟨e, he, rfl⟩
    refine ⟨e, he, ?_⟩
    have := List.all_eq_true.mp hs e he
    obtain ⟨a, v⟩ := e
    cases v <;> simp_all [okSet, intKind, Value.isInt]
  · rintro ⟨e, he, hk⟩
    refine ⟨e, he, ?_⟩
    obtain ⟨a, v⟩ := e
    cases v <;> simp_all [intKind, Value.isInt]

variable {w : World} {p : Program} {loose : List Str} {mean : ExcName → Option Value} {mg mb : Str → Option Value} {news : List (Addr × Obj)}

theorem b1_setOf {h : Heap} (X : (K0 w.params).In h) : h.SetOf (intKind pw w) 29 (fun k => b1I.contains k) 27 := by
  have hx : h.get? 29 = some (o29 w.params) := X 29 _ (by kernel_rfl)
  have hall : b1Es.all okSet = true := by kernel_rfl
  have hmap : b1Es.map (fun e => match e.2 with | .int i _ => i | _ => 0) = b1I := by kernel_rfl
  exact Obj.SetObjOf.setOf (o := o29 w.params) ⟨⟨rfl, rfl, rfl⟩, b1Es.toArray, 29, b1Tab w.params, rfl, mem_setEs _ hall _ _, b1_iff _ _ hmap hall _ _, by kernel_rfl, by kernel_rfl⟩ hx (by decide)

theorem c_in (c : Nat) (t : Tok) : Cl w p loose mean mg mb 39 news 1 8 [.str ⟨#[c]⟩ t] (fun _ => .bool (b1I.contains (c : Int))) := by
  unfold Cl; w_on; dsimp only [CbRet]
  intro dp un gd cn cs a ccd cl outer A₀ base h₀ L m s Q E B F X N T hk hd hu hret
  refine wpAny_call ?_
  k_dflt cell_enter
  k_steps
  (with_reducible rename Frag.In _ _ => X'); (with_reducible rename Fr _ _ _ _ => F')
  refine wpAny_inSet_of (knd := intKind pw w) (k := (c : Int)) (by simp [intKind, Value.isInt]) rfl (b1_setOf (X'.keeps F'.keep)) ?_
  dsimp only
  k_steps
  exact hret 0 _ _ (by assumption) (by assumption)

noncomputable def b3Get (k : Int) : Option Str := (b3P.find? fun q => q.1 == k).map (·.2)
noncomputable def mapS (c : Nat) : Str := match b3Get (c : Int) with
  | some s => s
  | none => Txt.lower ⟨#[c]⟩
theorem keys3 (prog : Program) (w : World) : ∀ (l : List (Int × Str)) (t : Nat), ∀ e ∈ pairs3 t l, ∃ k, (intKind prog w).is k e.key = true ∧ e.hash = (intKind prog w).hash k
  | [], _, e, he => by cases he
  | (k, v) :: r, t, e, he => by
    rcases List.mem_cons.mp he with rfl | he
    · exact ⟨k, by simp [intKind, Value.isInt], rfl⟩
    · exact keys3 prog w r _ e he
theorem keys2 (prog : Program) (w : World) : ∀ (l : List (Int × Str)) (t : Nat), ∀ e ∈ pairs2 t l, ∃ k, (intKind prog w).is k e.key = true ∧ e.hash = (intKind prog w).hash k
  | [], _, e, he => by cases he
  | (k, v) :: r, t, e, he => by
    rcases List.mem_cons.mp he with rfl | he
    · exact ⟨k, by simp [intKind, Value.isInt], rfl⟩
    · exact keys2 prog w r _ e he
noncomputable def Says (o : Option DictEntry) (r : Option (Int × Str)) : Prop := match o, r with
  | some e, some q => ∃ t, e.val = .str q.2 t
  | none, none => True
  | _, _ => False
theorem find3 (k : Int) : ∀ (l : List (Int × Str)) (t : Nat), Says ((pairs3 t l).find? fun e => Value.isInt k e.key) (l.find? fun q => q.1 == k)
  | [], _ => trivial
  | (k', v) :: r, t => by
    unfold pairs3
    rw [List.find?_cons, List.find?_cons]
    show Says (match (k' == k) with | true => _ | false => _) (match (k' == k) with | true => _ | false => _)
    cases h : (k' == k) with
    | true => exact ⟨t + 1, rfl⟩
    | false => exact find3 k r _
theorem find2 (k : Int) : ∀ (l : List (Int × Str)) (t : Nat), Says ((pairs2 t l).find? fun e => Value.isInt k e.key) (l.find? fun q => q.1 == k)
  | [], _ => trivial
  | (k', v) :: r, t => by
    unfold pairs2
    rw [List.find?_cons, List.find?_cons]
    show Says (match (k' == k) with | true => _ | false => _) (match (k' == k) with | true => _ | false => _)
    cases h : (k' == k) with
    | true => exact ⟨t + 1, rfl⟩
    | false => exact find2 k r _
theorem says_b3 (k : Int) : Says (b3Es.toArray.find? fun e => Value.isInt k e.key) (b3P.find? fun q => q.1 == k) := by
  have h : b3P = b3P.take 646 ++ b3P.drop 646 := (List.take_append_drop 646 b3P).symm
  rw [List.find?_toArray]
  unfold b3Es
  rw [List.find?_append]
  have h1 := find3 k (b3P.take 646) 266
  have h2 := find2 k (b3P.drop 646) 2204
  have e : (b3P.find? fun q => q.1 == k) = ((b3P.take 646).find? fun q => q.1 == k).or ((b3P.drop 646).find? fun q => q.1 == k) := by
    conv => lhs; rw [h]
    rw [List.find?_append]
  rw [e]
  revert h1 h2
  generalize ((pairs3 266 (b3P.take 646)).find? fun e => Value.isInt k e.key) = A
  generalize ((pairs2 2204 (b3P.drop 646)).find? fun e => Value.isInt k e.key) = B
  generalize ((b3P.take 646).find? fun q => q.1 == k) = C
  generalize ((b3P.drop 646).find? fun q => q.1 == k) = D
  intro h1 h2
  cases A <;> cases C <;> first | exact h1.elim | exact h1 | exact h2
theorem b3_find (k : Int) : (∃ s t, findBy Value.isInt b3Es.toArray k = some (.str s t) ∧ b3Get k = some s) ∨ (findBy Value.isInt b3Es.toArray k = none ∧ b3Get k = none) := by
  have h := says_b3 k
  unfold findBy b3Get
  revert h
  generalize (b3Es.toArray.find? fun e => Value.isInt k e.key) = A
  generalize (b3P.find? fun q => q.1 == k) = B
  intro h
  cases A with
  | none => cases B with
    | none => exact .inr ⟨rfl, rfl⟩
    | some q => exact h.elim
  | some e => cases B with
    | none => exact h.elim
    | some q =>
      obtain ⟨t, ht⟩ := h
      exact .inl ⟨q.2, t, by rw [Option.map_some, ht], rfl⟩
theorem b3_mapOf {h : Heap} (X : (K0 w.params).In h) : h.MapOf (intKind pw w) 40 (fun k => findBy Value.isInt b3Es.toArray k) := by
  have hx : h.get? 40 = some o40 := X 40 _ (by kernel_rfl)
  refine ⟨o40, b3Es.toArray, 650, hx, ⟨rfl, rfl, rfl⟩, rfl, fun e he => ?_, fun _ => rfl⟩
  have he' : e ∈ b3Es := by simpa using he
  rcases List.mem_append.mp he' with q | q
  · exact keys3 _ _ _ _ e q
  · exact keys2 _ _ _ _ e q

theorem c_map (c : Nat) (t : Tok) : Cl w p loose mean mg mb 85 news 1 8 [.str ⟨#[c]⟩ t] (fun t => .str (mapS c) t) := by
  unfold Cl; w_on; dsimp only [CbRet]
  intro dp un gd cn cs a ccd cl outer A₀ base h₀ L m s Q E B F X N T hk hd hu hret
  refine wpAny_call ?_
  k_dflt cell_enter
  k_steps
  (with_reducible rename Frag.In _ _ => X'); (with_reducible rename Fr _ _ _ _ => F')
  have M := b3_mapOf (X'.keeps F'.keep)
  refine getMethod_builtin M.typeIs PySem.F.plainAttrs_dict PySem.F.slot_dict_get PySem.F.type_dict_get M.noDict ?_
  k_steps
  refine call_meetsIn PySem.F.slot_dict_get M.typeIs PySem.F.entry_dict_get (PySem.F.args_dict_get_2 _ _) (meets_dict_get (intKind pw w) 40 (k := (c : Int)) (by simp [intKind, Value.isInt]) (by decide)) ⟨_, M, ?_⟩
  dsimp only
  rcases b3_find (c : Int) with ⟨x, u, e1, e2⟩ | ⟨e1, e2⟩
  · have e3 : mapS c = x := by unfold mapS; rw [e2]
    rw [e3] at hret
    rw [e1]; dsimp only [Option.getD_some]
    k_steps
    exact hret _ _ _ (by assumption) (by assumption)
  · have e3 : mapS c = Txt.lower ⟨#[c]⟩ := by unfold mapS; rw [e2]
    rw [e3] at hret
    rw [e1]; dsimp only [Option.getD_none]
    k_steps
    refine SCL.lower (x := ⟨#[c]⟩) (Nat.le_trans (Nat.le_refl 1) (by decide)) fun _ => ?_
    dsimp only
    k_steps
    exact hret _ _ _ (by assumption) (by assumption)
end Mine

namespace Mine
open PySem PySem.W PySem.Calls PyProof.Rows
set_option maxRecDepth 100000
set_option maxHeartbeats 4000000
variable {w : World} {p : Program} {loose : List Str} {mean : ExcName → Option Value} {mg mb : Str → Option Value} {news : List (Addr × Obj)}
noncomputable def strIn (a b : Str) : Bool := !(Builtin.Str.occurrences a b 0 a.length 1).isEmpty
noncomputable def subCost (a b : Str) : Int := if a = b then 0 else if Txt.lower a = Txt.lower b then 1 else 2
theorem c_cont (a b : Str) (t u : Tok) : Cl w p loose mean mg mb 21 news 1 8 [.str a t, .str b u] (fun _ => .bool (strIn a b)) := by
  unfold Cl; w_on; dsimp only [CbRet]
  intro dp un gd cn cs ad ccd cl outer A₀ base h₀ L m s Q E B F X N T hk hd hu hret
  refine wpAny_call ?_
  k_dflt cell_enter
  k_steps
  exact hret 0 _ _ (by assumption) (by assumption)
theorem c_subst (a b : Str) (t u : Tok) (ha : a.length ≤ 1000) (hb : b.length ≤ 1000) : Cl w p loose mean mg mb 92 news 1 8 [.str a t, .str b u] (fun t => .int (subCost a b) t) := by
  unfold Cl; w_on; dsimp only [CbRet]
  intro dp un gd cn cs ad ccd cl outer A₀ base h₀ L m s Q E B F X N T hk hd hu hret
  unfold subCost at hret
  refine wpAny_call ?_
  k_dflt cell_enter
  k_steps
  · rw [if_pos (eq_of_beq (by assumption))] at hret
    exact hret _ _ _ (by assumption) (by assumption)
  · rw [if_neg (ne_of_beq_false (by assumption)), if_pos (eq_of_beq (by assumption))] at hret
    exact hret _ _ _ (by assumption) (by assumption)
  · rw [if_neg (ne_of_beq_false (by assumption)), if_neg (ne_of_beq_false (by assumption))] at hret
    exact hret _ _ _ (by assumption) (by assumption)
noncomputable def unseenC (k : Int) : Nat := if k < 11 then (([173, 847, 6150, 6155, 6156, 6157, 8203, 8204, 8205, 8288, 65279] : List Int).getD k.toNat 0).toNat else (65013 + k).toNat
noncomputable def formC (c : Nat) (k : Int) : Nat := if k = 0 then c else if k = 1 then ((c : Int) - 32).toNat else (119808 + 52 * ([0, 1, 2, 4, 7, 8, 9, 10, 11, 12] : List Int).getD (k - 2).toNat 0 + (c : Int) - 97).toNat
theorem item_tmp {prog : Program} {A : Around} {E : Value → Shared → Prop} {s : Shared} {value slice : PySem.Expr} {l : Addr} {vs : List Value} {ns : List Int} {k : Int} {u : Tok} {Q : Value → Shared → Prop} (hl : s.heap.IsList l vs.toArray) (hi : IntsAre vs ns)
    (h0 : 0 ≤ k) (h1 : k < ns.length) (hfit : k < 2 ^ 63) (h : ∀ t, Q (.int (ns.getD k.toNat 0) t) s)
    (hs : subscripted slice false (.ref l) (.int k u) = operate [.ref l, .int k u] (getItem (.ref l) (.int k u)) := by with_unfolding_all rfl) :
    wpAny (model prog w) A (subscriptTail value slice (.ref l) (.int k u)) Q E s := by
  obtain ⟨t, hx⟩ := hi.get k.toNat _ (ints_getD h0 h1)
  exact tail_any hl.typeIs slot_list_getitem.lookup (wpAny_getItem_list hl h0 hfit (by simpa using hx) (h t)) hs
section
local macro_rules | `(tactic| walk_at "subscriptTail") => `(tactic| refine held ?_)
theorem c_unseen (k : Int) (t : Tok) (h0 : 0 ≤ k) (h1 : k < 27) : Cl w p loose mean mg mb 113 news 1 8 [.int k t] (fun t => .str ⟨#[unseenC k]⟩ t) := by
  unfold Cl; w_on; dsimp only [CbRet]
  intro dp un gd cn cs ad ccd cl outer A₀ base h₀ L m s Q E B F X N T hk hd hu hret
  unfold unseenC at hret
  refine wpAny_call ?_
  k_dflt cell_enter
  k_steps
  · rw [if_pos (by assumption)] at hret
    (with_reducible rename News _ _ _ _ => N')
    dsimp only at N' ⊢
    refine Held.mk (item_tmp (N'.isList (.head _)) (ns := [173, 847, 6150, 6155, 6156, 6157, 8203, 8204, 8205, 8288, 65279]) (by l_ints) h0 (by simp; omega) (by omega) (fun t' => ?_) (by with_unfolding_all rfl))
    have hb : 0 ≤ ([173, 847, 6150, 6155, 6156, 6157, 8203, 8204, 8205, 8288, 65279] : List Int).getD k.toNat 0 ∧ ([173, 847, 6150, 6155, 6156, 6157, 8203, 8204, 8205, 8288, 65279] : List Int).getD k.toNat 0 < 100000 := by
      have hk : k.toNat < 11 := by omega
      revert hk; generalize k.toNat = n; intro hk
      revert n; decide
    revert hb hret
    generalize ([173, 847, 6150, 6155, 6156, 6157, 8203, 8204, 8205, 8288, 65279] : List Int).getD k.toNat 0 = z
    intro hret hb
    obtain ⟨hb0, hb1⟩ := hb
    k_steps
    exact hret _ _ _ (by assumption) (cb_drop (by assumption) (fun p hp => .tail _ hp))
  · rw [if_neg (by assumption)] at hret
    exact hret _ _ _ (by assumption) (by assumption)
theorem c_form (c : Nat) (k : Int) (t u : Tok) (h0 : 0 ≤ k) (h1 : k < 12) (hx : 97 ≤ c) (hy : c ≤ 122) : Cl w p loose mean mg mb 120 news 1 8 [.str ⟨#[c]⟩ u, .int k t] (fun t => .str ⟨#[formC c k]⟩ t) := by
  unfold Cl; w_on; dsimp only [CbRet]
  intro dp un gd cn cs ad ccd cl outer A₀ base h₀ L m s Q E B F X N T hk hd hu hret
  unfold formC at hret
  refine wpAny_call ?_
  k_dflt cell_enter
  k_steps
  · rw [if_pos (by assumption)] at hret
    exact hret _ _ _ (by assumption) (by assumption)
  · rw [if_neg (by assumption), if_pos (by assumption)] at hret
    exact hret _ _ _ (by assumption) (by assumption)
  · rw [if_neg (by assumption), if_neg (by assumption)] at hret
    (with_reducible rename News _ _ _ _ => N')
    dsimp only at N' ⊢
    refine Held.mk (item_tmp (N'.isList (.head _)) (ns := [0, 1, 2, 4, 7, 8, 9, 10, 11, 12]) (by l_ints) (by omega) (by simp; omega) (by omega) (fun t' => ?_) (by with_unfolding_all rfl))
    have hb : 0 ≤ ([0, 1, 2, 4, 7, 8, 9, 10, 11, 12] : List Int).getD (k - 2).toNat 0 ∧ ([0, 1, 2, 4, 7, 8, 9, 10, 11, 12] : List Int).getD (k - 2).toNat 0 ≤ 12 := by
      have hk : (k - 2).toNat < 10 := by omega
      revert hk; generalize (k - 2).toNat = n; intro hk
      revert n; decide
    revert hb hret
    generalize ([0, 1, 2, 4, 7, 8, 9, 10, 11, 12] : List Int).getD (k - 2).toNat 0 = z
    intro hret hb
    obtain ⟨hb0, hb1⟩ := hb
    k_steps
    exact hret _ _ _ (by assumption) (cb_drop (by assumption) (fun p hp => .tail _ hp))
end
end Mine

namespace Mine
open PySem PySem.W PySem.Calls PyProof.Rows
set_option maxRecDepth 100000
set_option maxHeartbeats 4000000
variable {w : World} {p : Program} {loose : List Str} {mean : ExcName → Option Value} {mg mb : Str → Option Value} {news : List (Addr × Obj)}
noncomputable def scatStep (a : Str) (f c : Int) : Int := if f < 3 ∧ ((a.cps.getD f.toNat 0 : Nat) : Int) = c then f + 1 else f
noncomputable def scatR (a : Str) (l : List Int) : Int := l.foldl (scatStep a) 0
theorem scat_snoc (a : Str) (l : List Int) (n : Int) : scatR a (l ++ [n]) = scatStep a (scatR a l) n := by
  unfold scatR; rw [List.foldl_append]; rfl
theorem item_eq {a : Str} {i : Int} (h0 : 0 ≤ i) (h1 : i < a.length) : Txt.item a i = ⟨#[a.cps.getD i.toNat 0]⟩ := eq_of_beq (PyProof.Rows.item_closes ⟨h0, h1⟩)
theorem one_inj {m n : Nat} (h : (⟨#[m]⟩ : Str) = ⟨#[n]⟩) : m = n := by simpa using congrArg (fun x : Str => x.cps.toList) h
theorem scat_hit {a : Str} {pre : List Int} {f : Int} {n : Nat} (ha : a.length = 3) (h : f = scatR a pre) (h0 : 0 ≤ f) (h1 : f < 3) (h2 : (Txt.item a f == ⟨#[n]⟩) = true) :
    f + 1 = scatR a (pre ++ [(n : Int)]) ∧ 0 ≤ f + 1 ∧ f + 1 ≤ 3 := by
  have e := one_inj ((item_eq h0 (by omega)).symm.trans (eq_of_beq h2))
  rw [scat_snoc, ← h]
  unfold scatStep
  rw [if_pos ⟨h1, by rw [e]⟩]
  exact ⟨rfl, by omega, by omega⟩
theorem scat_miss {a : Str} {pre : List Int} {f : Int} {n : Nat} (ha : a.length = 3) (h : f = scatR a pre) (h0 : 0 ≤ f) (h1 : f < 3) (h2 : (Txt.item a f == ⟨#[n]⟩) = false) :
    f = scatR a (pre ++ [(n : Int)]) ∧ 0 ≤ f ∧ f ≤ 3 := by
  have e := ne_of_beq_false h2
  rw [item_eq h0 (by omega)] at e
  rw [scat_snoc, ← h]
  unfold scatStep
  rw [if_neg (fun q => e (by rw [Int.ofNat.inj q.2]))]
  exact ⟨rfl, by omega, by omega⟩
theorem scat_full {a : Str} {pre : List Int} {f : Int} {n : Nat} (h : f = scatR a pre) (h0 : 0 ≤ f) (h3 : f ≤ 3) (h1 : ¬ f < 3) :
    f = scatR a (pre ++ [(n : Int)]) ∧ 0 ≤ f ∧ f ≤ 3 := by
  rw [scat_snoc, ← h]
  unfold scatStep
  rw [if_neg (fun q => h1 q.1)]
  exact ⟨rfl, by omega, by omega⟩
noncomputable def scat (a b : Str) : Bool := scatR a (KStt.codes b) == 3
theorem c_scat (a b : Str) (t u : Tok) (ha : a.length = 3) : Cl w p loose mean mg mb 148 news 1 8 [.str a t, .str b u] (fun _ => .bool (scat a b)) := by
  unfold Cl; w_on; dsimp only [CbRet]
  intro dp un gd cn cs ad ccd cl outer A₀ base h₀ L m s Q E B F X N T hk hd hu hret
  k_with_none
  k_with "pyIter str" => k_state (fun pre f => f = scatR a pre ∧ 0 ≤ f ∧ f ≤ 3) "found"
  k_with "state" => first | exact ⟨rfl, by omega, by omega⟩ | exact scat_hit (by assumption) (by assumption) (by assumption) (by assumption) (by assumption) | exact scat_miss (by assumption) (by assumption) (by assumption) (by assumption) (by assumption) | exact scat_full (by assumption) (by assumption) (by assumption) (by assumption)
  refine wpAny_call ?_
  k_dflt cell_enter
  k_steps
  unfold scat at hret
  (with_reducible rename _ = scatR a (KStt.codes b) => he)
  rw [← he] at hret
  exact hret 0 _ _ (by assumption) (by assumption)
end Mine

namespace Mine
open PySem PySem.W PySem.Calls PyProof.Rows
set_option maxRecDepth 100000
set_option maxHeartbeats 4000000
noncomputable def eat (l : List Nat) (c : Nat) : Option (List Nat) := match l with
  | [] => none
  | a :: r => if a = c then some r else eat r c
theorem entry_ci : entryFor table "proto.contains_iter" = some Builtin.«proto.contains_iter» := PySem.entryFor_of_tree (by kernel_rfl)
theorem plain_ci : plainId "proto.contains_iter" = true := by decide +kernel
theorem noCont_it : typeLookup (.type "str_ascii_iterator") "__contains__" = pure none := by rw [typeLookup_type, builtinLookup_eq_fast]; kernel_rfl
section
variable {prog : Program} {w : World} {A : Around}
theorem eat_loop {R : Result → Shared → Prop} {x : Str} {t u : Tok} {it : Addr} {c : Nat} (hh : A.handled = none) : ∀ (k i : Nat) (s : Shared), x.cps.size - i = k → i ≤ x.cps.size → s.heap.IsStrIter it "str_ascii_iterator" x t i →
    (∀ j h' tk, eat (x.cps.toList.drop i) c = some (x.cps.toList.drop j) → j ≤ x.cps.size → h'.IsStrIter it "str_ascii_iterator" x t j → (∀ b o, b ≠ it → s.heap.get? b = some o → h'.get? b = some o) → R (.ok (.ret (.bool true))) { s with heap := h', toks := tk }) →
    (∀ h' tk, eat (x.cps.toList.drop i) c = none → (∀ b o, b ≠ it → s.heap.get? b = some o → h'.get? b = some o) → R (.ok (.ret (.bool false))) { s with heap := h', toks := tk }) →
    codeAny (model prog w) A (.builtin "proto.contains_iter" ⟨[.ref it, .str ⟨#[c]⟩ u], []⟩) R s := by
  intro k
  induction k with
  | zero =>
    intro i s hk hi hst h1 h2
    have hin : i = x.cps.size := by omega
    refine codeAny_builtin entry_ci ?_
    rw [Around.under_plainId plain_ci _]
    show wpAny _ A.in1 (pyNext (.ref it) >>= _) _ _ s
    refine wpAny_bind (wpAny_pyNext_ascii_end hh hst (by simp [hin]) fun h' he => ?_)
    refine wpAny_bind (wpAny_rule (wpAny_pure ?_))
    have hn : x.cps.toList.drop i = [] := List.drop_of_length_le (by simp [hin])
    exact h2 h' s.toks (by rw [hn]; rfl) (fun b o hb e => he b o hb e)
  | succ k ih =>
    intro i s hk hi hst h1 h2
    have hlt : i < x.cps.size := by omega
    have hd : x.cps.toList.drop i = x.cps[i] :: x.cps.toList.drop (i + 1) := by
      rw [List.drop_eq_getElem_cons (by simpa using hlt)]; simp
    refine codeAny_builtin entry_ci ?_
    rw [Around.under_plainId plain_ci _]
    show wpAny _ A.in1 (pyNext (.ref it) >>= _) _ _ s
    refine wpAny_bind (wpAny_pyNext_ascii_item hst (c := x.cps[i]) (by simp [hlt]) fun h' hst' hs => ?_)
    refine wpAny_bind (wpAny_eqBool_str ?_)
    have hk' : ∀ b o, b ≠ it → s.heap.get? b = some o → h'.get? b = some o := fun b o hb e => hs.extBut b o hb e
    by_cases hc : x.cps[i] = c
    · have e1 : decide ((⟨#[x.cps[i]]⟩ : Str) = ⟨#[c]⟩) = true := by rw [hc]; simp
      rw [e1]
      simp only [if_true]
      refine wpAny_bind (wpAny_rule (wpAny_pure ?_))
      exact h1 (i + 1) h' (s.toks + 1) (by rw [hd]; simp [eat, hc]) hlt hst' hk'
    · have e1 : decide ((⟨#[x.cps[i]]⟩ : Str) = ⟨#[c]⟩) = false := decide_eq_false (fun e => hc (by simpa using congrArg (fun z : Str => z.cps.toList) e))
      rw [e1]
      simp only [Bool.false_eq_true, if_false]
      have e2 : eat (x.cps.toList.drop i) c = eat (x.cps.toList.drop (i + 1)) c := by rw [hd]; simp [eat, hc]
      refine wpAny_pure ⟨plainId_quiet plain_ci _, ih (i + 1) _ (by omega) hlt hst' (fun j h'' tk q hj hit hf => ?_) (fun h'' tk q hf => ?_)⟩
      · exact h1 j h'' tk (e2.trans q) hj hit (fun b o hb e => hf b o hb (hk' b o hb e))
      · exact h2 h'' tk (e2.trans q) (fun b o hb e => hf b o hb (hk' b o hb e))
theorem in_iter {Q : Value → Shared → Prop} {E : Value → Shared → Prop} {s : Shared} {x : Str} {t u : Tok} {it : Addr} {c i : Nat} (hh : A.handled = none) (hi : i ≤ x.cps.size) (hst : s.heap.IsStrIter it "str_ascii_iterator" x t i)
    (h1 : ∀ j h' tk, eat (x.cps.toList.drop i) c = some (x.cps.toList.drop j) → j ≤ x.cps.size → h'.IsStrIter it "str_ascii_iterator" x t j → (∀ b o, b ≠ it → s.heap.get? b = some o → h'.get? b = some o) → Q (.bool true) { s with heap := h', toks := tk })
    (h2 : ∀ h' tk, eat (x.cps.toList.drop i) c = none → (∀ b o, b ≠ it → s.heap.get? b = some o → h'.get? b = some o) → Q (.bool false) { s with heap := h', toks := tk }) :
    wpAny (model prog w) A (compareOp .In (.str ⟨#[c]⟩ u) (.ref it)) Q E s := by
  show wpAny _ _ (do return .bool (← contains (.ref it) (.str ⟨#[c]⟩ u))) Q E s
  refine wpAny_bind ?_
  unfold contains
  refine wpAny_holding ?_
  rw [stdlibNamesSay?_ref]
  refine wpAny_bind (wpAny_specialOf hst.typeIs noCont_it ?_)
  show wpAny _ _ (if (none == some Value.none) = true then _ else _) _ E s
  rw [if_neg (by decide)]
  refine wpAny_bind (wpAny_callSpecialUnlessNone?_none hst.typeIs noCont_it ?_)
  dsimp only
  refine wpAny_bind (wpAny_rule ?_)
  refine wpAny_bind (wpAny_tryCatch (wpAny_pyIter_striter_ascii hst ?_))
  refine wpAny_bind (wpAny_runValue (eat_loop hh _ i s rfl hi hst ?_ ?_))
  · intro j h' tk q hj hit hf
    exact wpAny_pure (wpAny_pure (h1 j h' tk q hj hit hf))
  · intro h' tk q hf
    exact wpAny_pure (wpAny_pure (h2 h' tk q hf))
end

variable {w : World} {p : Program} {loose : List Str} {mean : ExcName → Option Value} {mg mb : Str → Option Value} {news : List (Addr × Obj)}
noncomputable def ItAt (o : Obj) (x : Str) (t : Tok) (i : Nat) : Prop := o.cls = .type "str_ascii_iterator" ∧ o.data = .fields #[.str x t, .int i 0]
theorem news_out {h₀ h h' : Heap} {L I : Addr} {o : Obj} (N : News h₀ L h ((I, o) :: news)) (hne : ∀ p ∈ news, p.1 ≠ I) (hk : ∀ b o, b ≠ I → h.get? b = some o → h'.get? b = some o) : News h₀ L h' news :=
  fun p hp => ⟨hk _ _ (hne p hp) (N p (.tail _ hp)).1, (N p (.tail _ hp)).2⟩
theorem news_new {h₀ h h' : Heap} {L I : Addr} {o o' : Obj} (N : News h₀ L h ((I, o) :: news)) (hne : ∀ p ∈ news, p.1 ≠ I) (hk : ∀ b o, b ≠ I → h.get? b = some o → h'.get? b = some o) (ho : h'.get? I = some o') : News h₀ L h' ((I, o') :: news) := by
  intro p hp
  rcases List.mem_cons.mp hp with rfl | hp
  · exact ⟨ho, (N _ (.head _)).2⟩
  · exact news_out N hne hk p hp
theorem frBut4 {h₀ h h' : Heap} {L I : Addr} {o : Obj} {m : Str → Option Value} (F : Fr h₀ L h m) (N : News h₀ L h ((I, o) :: news)) (hk : ∀ b o, b ≠ I → h.get? b = some o → h'.get? b = some o) : Fr h₀ L h' m := by
  have hn := N _ (.head _)
  obtain ⟨oL, a1, a2, hL, a3⟩ := F.ns
  refine ⟨⟨oL, a1, a2, hk _ _ (Ne.symm hn.2.1) hL, a3⟩, fun b o e => hk _ _ (fun q => ?_) (F.keep b o e), F.above⟩
  subst q
  rw [hn.2.2] at e
  cases e
theorem c_contI (x : Str) (t u : Tok) (I : Addr) (o : Obj) (i c : Nat) (hi : i ≤ x.cps.size) (hit : ItAt o x t i) (hne : ∀ p ∈ news, p.1 ≠ I) :
  ∀ (dp un : Nat) (gd : Option (List Code)) (cn : Str) (cs : Scope) (a : Addr) (ccd : Value) (cl : List (Str × Addr)) (outer : List Env) (A₀ : Around) (base h₀ : Heap) (L : Addr) (m : Str → Option Value) (s : Shared) (Q E : Value → Shared → Prop),
    Below A₀ base outer h₀ → Fr h₀ L s.heap m → (K0 w.params).In h₀ → News h₀ L s.heap ((I, o) :: news) → Top p loose mean mg mb h₀ → cs.kind = .function →
    dp + 1 < recursionLimit → un + 8 < cLine →
    (∀ j o' h' tk', eat (x.cps.toList.drop i) c = some (x.cps.toList.drop j) → j ≤ x.cps.size → ItAt o' x t j → Fr h₀ L h' m → News h₀ L h' ((I, o') :: news) → Q (.bool true) { s with heap := h', toks := tk' }) →
    (∀ h' tk', eat (x.cps.toList.drop i) c = none → Fr h₀ L h' m → News h₀ L h' news → Q (.bool false) { s with heap := h', toks := tk' }) →
      wpAny (model pw w) (ktrTop dp un gd cn cs L a ccd cl outer) (call (.ref 21) [.ref I, .str ⟨#[c]⟩ u]) Q E s := by
  w_on
  intro dp un gd cn cs ad ccd cl outer A₀ base h₀ L m s Q E B F X N T hk hd hu h1 h2
  refine wpAny_call ?_
  k_dflt cell_enter
  k_steps
  (with_reducible rename Frag.In _ _ => X'); (with_reducible rename Fr _ _ _ _ => F'); (with_reducible rename News _ _ _ _ => N')
  obtain ⟨oh, e1, e2⟩ := N' _ (.head _)
  refine in_iter (i := i) (x := x) (t := t) rfl hi ⟨o, oh, hit.1, hit.2⟩ ?_ ?_
  · intro j h' tk' q hj hit' hf
    obtain ⟨o', ho', hc', hd'⟩ := hit'
    have F2 := frBut4 F' N' hf
    have N2 := news_new N' hne hf ho'
    clear F' N'
    dsimp only
    k_steps
    exact h1 j o' _ _ q hj ⟨hc', hd'⟩ (by assumption) (by assumption)
  · intro h' tk' q hf
    have F2 := frBut4 F' N' hf
    have N2 := news_out N' hne hf
    clear F' N'
    dsimp only
    k_steps
    exact h2 _ _ q (by assumption) (by assumption)
theorem args_iter1 (a : Value) : argsOk "iter" ⟨[a], []⟩ := by unfold argsOk; kernel_rfl
theorem call_iter {prog : Program} {A : Around} {E : Value → Shared → Prop} {s : Shared} {x : Str} {t : Tok} {Q : Value → Shared → Prop} {h₀ : Heap} {L : Addr} {m : Str → Option Value} (ha : x.cps.all (· < 128) = true) (F : Fr h₀ L s.heap m) (N : News h₀ L s.heap news)
    (h : ∀ I o h', ItAt o x t 0 → Fr h₀ L h' m → News h₀ L h' ((I, o) :: news) → (∀ p ∈ news, p.1 < I) → Q (.ref I) { s with heap := h' }) : wpAny (model prog w) A (call (.builtin "iter") [.str x t]) Q E s := by
  refine Calls.call_function_entry (by decide +kernel) (by decide +kernel) (PySem.entryFor_of_tree (b := Builtin.«iter») (by kernel_rfl)) (args_iter1 _) ?_
  show wpAny _ _ (pyIter (.str x t) >>= _) _ _ s
  refine wpAny_bind (wpAny_pyIter_ascii ha ?_)
  exact wpAny_pure ⟨_, rfl, h _ _ _ ⟨rfl, rfl⟩ (F.push _) (N.push F _) (fun p hp => Heap.lt_size (N p hp).1)⟩
noncomputable def eats (l : List Nat) (cs : List Int) : Option (List Nat) := cs.foldl (fun o c => o.bind fun r => eat r c.toNat) (some l)
theorem eats_snoc (l : List Nat) (cs : List Int) (c : Int) : eats l (cs ++ [c]) = (eats l cs).bind fun r => eat r c.toNat := by
  unfold eats; rw [List.foldl_append]; rfl
theorem eats_none (cs : List Int) : cs.foldl (fun o c => o.bind fun r => eat r c.toNat) none = none := by
  induction cs with
  | nil => rfl
  | cons c r ih => exact ih
theorem eats_cut {l : List Nat} {pre post : List Int} {n : Nat} (h : eats l (pre ++ [(n : Int)]) = none) : eats l (pre ++ (n : Int) :: post) = none := by
  have e : pre ++ (n : Int) :: post = (pre ++ [(n : Int)]) ++ post := by simp
  unfold eats at h ⊢
  rw [e, List.foldl_append, h]
  exact eats_none post
section
local macro_rules | `(tactic| walk_at "exec For") => `(tactic| refine held ?_)
local macro_rules | `(tactic| walk_at "InvEndN") => `(tactic| refine held ?_)
local macro_rules | `(tactic| walk_at "call ref") => `(tactic| refine held ?_)
theorem c_eaten (x b : Str) (t u : Tok) (ha : x.cps.all (· < 128) = true) : Cl w p loose mean mg mb 141 news 2 20 [.str x t, .str b u] (fun _ => .bool (eats x.cps.toList (KStt.codes b)).isSome) := by
  unfold Cl; w_on; dsimp only [CbRet]
  intro dp un gd cn cs ad ccd cl outer A₀ base h₀ L m s Q E B F X N T hk hd hu hret
  k_with_none
  refine wpAny_call ?_
  k_dflt cell_enter
  k_steps
  (with_reducible rename Fr _ _ _ _ => F'); (with_reducible rename News _ _ _ _ => N')
  refine call_iter ha F' N' fun I o h' hit F2 N2 hlt => ?_
  clear F' N'
  dsimp only
  k_steps
  (with_reducible rename Fr _ _ _ _ => F'); (with_reducible rename News _ _ _ _ => N')
  refine Held.mk (For_invVF F' rfl rfl ?_)
  k_steps
  refine KStt.kst_text (σ := Obj × Nat) (fun c => (I, c.1) :: news) (fun _ => []) (fun c => ItAt c.1 x t c.2 ∧ c.2 ≤ x.cps.size) [Str.ofString "said"] (fun pre c => eats x.cps.toList pre = some (x.cps.toList.drop c.2)) (o, 0) rfl F' N' ⟨hit, Nat.zero_le _⟩ (fun _ hp => nomatch hp) rfl ?_ ?_
  · intro c pre post n t' um hh tk own e1 hoff hfacts hinv F3 N3
    obtain ⟨hit3, hle3⟩ := hfacts
    dsimp only [kstB] at F3
    dsimp only [List.cons_append] at N3
    clear F' N' hit
    k_steps
    have hne : ∀ p ∈ news ++ own, p.1 ≠ I := by
      intro p hp
      rcases List.mem_append.mp hp with q | q
      · exact Nat.ne_of_lt (hlt p q)
      · exact hoff p q I (.head _)
    refine Held.mk ?_
    refine' c_contI (news := news ++ own) x t _ I c.1 c.2 n hle3 hit3 hne _ _ _ _ _ _ _ _ _ _ _ _ _ _ _ _ _ ?B ?F ?X ?N ?T ?hk ?hd ?hu ?h1 ?h2
    case B => k_asm
    case F => k_asm
    case X => k_asm
    case N => k_asm
    case T => k_asm
    case hk => exact rfl
    case hd => ktr_room
    case hu => ktr_units
    case h1 =>
      intro j o' h' tk' q hj hit' F4 N4
      clear F3 N3
      have hinv' : eats x.cps.toList (pre ++ [(n : Int)]) = some (x.cps.toList.drop j) := by
        rw [eats_snoc, hinv]; exact q
      k_steps
      refine Held.mk (kst_end (o', j) (by assumption) (by assumption) ?_ (fun p hp => .tail _ (List.mem_append_right _ hp)) rfl ⟨hit', hj⟩ (fun _ hp => nomatch hp) ?_ hinv')
      · intro p hp
        rcases List.mem_cons.mp hp with rfl | hp
        · exact .head _
        · exact .tail _ (List.mem_append_left _ hp)
      · intro z z1 _ z3
        simp only [List.contains_cons, List.contains_nil, Bool.or_false, beq_eq_false_iff_ne, ne_eq] at z3
        simp [z1, z3]
    case h2 =>
      intro h' tk' q F4 N4
      clear F3 N3
      have hno : (eats x.cps.toList (KStt.codes b)).isSome = false := by
        rw [e1, eats_cut (n := n) (by rw [eats_snoc, hinv]; exact q)]
        rfl
      rw [hno] at hret
      k_steps
      exact hret 0 _ _ (by assumption) (cb_drop (by assumption) (fun p hp => List.mem_append_left _ hp))
  · intro c um hh tk hfacts hinv F3 N3
    dsimp only [kstB] at F3
    clear F' N' hit
    k_steps
    rw [hinv] at hret
    exact hret 0 _ _ (by assumption) (cb_drop (by assumption) (fun p hp => .tail _ hp))
end
end Mine

namespace Mine
open PySem PySem.W PySem.Calls PyProof.Rows
set_option maxRecDepth 100000
set_option maxHeartbeats 4000000
variable {w : World} {p : Program} {loose : List Str} {mean : ExcName → Option Value} {mg mb : Str → Option Value} {news : List (Addr × Obj)}
noncomputable def prepSigns (l : List Int) : List Str := l.flatMap fun c => if b1I.contains c then [] else [mapS c.toNat]
theorem prep_snoc (l : List Int) (c : Int) : prepSigns (l ++ [c]) = prepSigns l ++ (if b1I.contains c then [] else [mapS c.toNat]) := by
  unfold prepSigns; rw [List.flatMap_append]; simp
structure PrepOk (x : Str) (c : List Value × List Str × Nat) (pre : List Int) : Prop where
  hs : StrsAre c.1 c.2.1
  he : c.2.1 = prepSigns pre
  hn : c.2.1.length ≤ pre.length
  ha : ∀ y ∈ c.2.1, 0 < y.length ∧ y.length ≤ 10
theorem strs_len : ∀ {vs : List Value} {ys : List Str}, StrsAre vs ys → vs.length = ys.length
  | _, _, .nil => rfl
  | _, _, .cons _ _ h => by rw [List.length_cons, List.length_cons, strs_len h]
theorem sum_len_le (n : Nat) : ∀ (l : List Str), (∀ y ∈ l, y.length ≤ n) → (l.map (·.length)).sum ≤ n * l.length
  | [], _ => by simp
  | y :: r, h => by
    have := sum_len_le n r (fun z hz => h z (.tail _ hz))
    have h1 := h y (.head _)
    simp only [List.map_cons, List.sum_cons, List.length_cons, Nat.mul_add, Nat.mul_one]
    omega
section
local macro_rules | `(tactic| walk_at "exec For") => `(tactic| refine held ?_)
local macro_rules | `(tactic| walk_at "call ref") => `(tactic| refine held ?_)
local macro_rules | `(tactic| walk_at "InvEndN") => `(tactic| refine held ?_)
local macro_rules | `(tactic| walk_at "compareOp In str ref") => `(tactic| refine held ?_)
local macro_rules | `(tactic| walk_at "call builtin:str.join") => `(tactic| refine held ?_)
theorem c_prep (x : Str) (t : Tok) (hx : x.length ≤ 1000) (hok : ∀ c ∈ x.cps.toList, b1I.contains (c : Int) = true ∨ (0 < (mapS c).length ∧ (mapS c).length ≤ 10)) :
    Cl w p loose mean mg mb 134 news 2 20 [.str x t] (fun t => .str (Txt.join ⟨#[]⟩ (prepSigns (KStt.codes x))) t) := by
  unfold Cl; w_on; dsimp only [CbRet]
  intro dp un gd cn cs ad ccd cl outer A₀ base h₀ L m s Q E B F X N T hk hd hu hret
  k_with_none
  refine wpAny_call ?_
  k_dflt cell_enter
  k_steps
  (with_reducible rename Fr _ _ _ _ => F'); (with_reducible rename News _ _ _ _ => N')
  refine Held.mk (For_invVF F' rfl rfl ?_)
  k_steps
  rename_i S _ hlt _
  refine KStt.kst_text (σ := List Value × List Str × Nat) (fun c => (S, W.listOf c.1.toArray c.2.2) :: news) (fun _ => []) (fun _ => True) [Str.ofString "held"] (fun pre c => PrepOk x c pre) ([], [], 0) rfl F' N' trivial (fun _ hp => nomatch hp) ⟨.nil, rfl, Nat.le_refl _, fun _ hy => nomatch hy⟩ ?_ ?_
  · intro c pre post n t' um hh tk own e1 hoff hfacts hinv F3 N3
    dsimp only [kstB] at F3
    dsimp only [List.cons_append] at N3
    clear F' N'
    have hmem : n ∈ x.cps.toList := by
      have : (n : Int) ∈ KStt.codes x := by rw [e1]; simp
      unfold KStt.codes at this
      obtain ⟨q, hq, hq'⟩ := List.mem_map.mp this
      have : q = n := Int.ofNat.inj hq'
      exact this ▸ hq
    have hlen : pre.length < x.length := by
      have := KStt.codes_length x
      rw [e1] at this
      simp at this
      omega
    have hvl : c.1.length ≤ 1000 := by rw [strs_len hinv.hs]; have := hinv.hn; omega
    k_steps
    refine Held.mk ?_
    refine' c_in (news := (S, W.listOf c.1.toArray c.2.2) :: (news ++ own)) n _ _ _ _ _ _ _ _ _ _ _ _ _ _ _ _ _ _ ?B ?F ?X ?N ?T ?hk ?hd ?hu ?h1
    case B => k_asm
    case F => k_asm
    case X => k_asm
    case N => k_asm
    case T => k_asm
    case hk => exact rfl
    case hd => ktr_room
    case hu => ktr_units
    case h1 =>
      intro _ h' tk' F4 N4
      clear F3 N3
      dsimp only
      cases hb : b1I.contains (n : Int) with
      | true =>
        k_steps
        refine Held.mk (kst_end (c.1, c.2.1, c.2.2) (by assumption) (by assumption) ?_ (fun p hp => .tail _ (List.mem_append_right _ hp)) rfl trivial (fun _ hp => nomatch hp) ?_ ?_)
        · intro p hp
          rcases List.mem_cons.mp hp with rfl | hp
          · exact .head _
          · exact .tail _ (List.mem_append_left _ hp)
        · intro z z1 _ z3
          simp only [List.contains_cons, List.contains_nil, Bool.or_false, beq_eq_false_iff_ne, ne_eq] at z3
          simp [z1, z3]
        · refine ⟨hinv.hs, ?_, ?_, hinv.ha⟩
          · rw [prep_snoc, hb]; simpa using hinv.he
          · have := hinv.hn; simp; omega
      | false =>
        k_steps
        (with_reducible rename News _ _ _ _ => N5); (with_reducible rename Fr _ _ _ _ => F5)
        refine Held.mk ?_
        refine' c_map (news := (S, W.listOf c.1.toArray c.2.2) :: (news ++ own)) n _ _ _ _ _ _ _ _ _ _ _ _ _ _ _ _ _ _ ?B ?F ?X ?N ?T ?hk ?hd ?hu ?h1
        case B => k_asm
        case F => k_asm
        case X => k_asm
        case N => k_asm
        case T => k_asm
        case hk => exact rfl
        case hd => ktr_room
        case hu => ktr_units
        case h1 =>
          intro tm h' tk' F6 N6
          clear F5 N5
          dsimp only
          k_steps
          have hne : ∀ p ∈ news ++ own, p.1 ≠ S := by
            intro p hp
            rcases List.mem_append.mp hp with q | q
            · exact Nat.ne_of_lt (hlt p q)
            · exact hoff p q S (.head _)
          have hm : 0 < (mapS n).length ∧ (mapS n).length ≤ 10 := by
            rcases hok n hmem with q | q
            · rw [hb] at q; cases q
            · exact q
          refine append_K F6 N6 (Upd.head hne) (fun h7 F7 N7 => ?_) (by simp [sizeLine_eq]; omega)
          clear F6 N6
          dsimp only
          k_steps
          refine Held.mk (kst_end (c.1 ++ [.str (mapS n) tm], c.2.1 ++ [mapS n], c.2.2 + 1) (by assumption) (by assumption) ?_ (fun p hp => .tail _ (List.mem_append_right _ hp)) rfl trivial (fun _ hp => nomatch hp) ?_ ?_)
          · intro p hp
            rcases List.mem_cons.mp hp with rfl | hp
            · simp
            · exact .tail _ (List.mem_append_left _ hp)
          · intro z z1 _ z3
            simp only [List.contains_cons, List.contains_nil, Bool.or_false, beq_eq_false_iff_ne, ne_eq] at z3
            simp [z1, z3]
          · refine ⟨hinv.hs.append' (.cons _ _ .nil), ?_, ?_, ?_⟩
            · rw [prep_snoc, hb, ← hinv.he]; rfl
            · have := hinv.hn; simp; omega
            · intro y hy
              rcases List.mem_append.mp hy with q | q
              · exact hinv.ha y q
              · rw [List.mem_singleton.mp q]; exact hm
  · intro c um hh tk hfacts hinv F3 N3
    dsimp only [kstB] at F3
    clear F' N'
    k_steps
    have hlen : c.2.1.length ≤ 1000 := by
      have := hinv.hn
      rw [KStt.codes_length] at this
      omega
    have hno : (c.2.1.any (· == Str.ofString "")) = false := by
      rw [List.any_eq_false]
      intro y hy
      have := (hinv.ha y hy).1
      intro e
      rw [eq_of_beq e] at this
      exact absurd this (by decide)
    refine Held.mk (in_list_strs (N3.isList (.head _)) hinv.hs ?_)
    rw [hno]
    dsimp only
    k_steps
    refine Held.mk (join_list (N3.isList (.head _)) (by simpa using hinv.hs) ?_ (fun t' tk => ?_))
    · have h1 := sum_len_le 10 c.2.1 (fun y hy => (hinv.ha y hy).2)
      have h2 : (Str.ofString "").length = 0 := by decide
      rw [h2]
      omega
    · rw [hinv.he]
      dsimp only
      k_steps
      exact hret _ _ _ (by assumption) (cb_drop (by assumption) (fun p hp => .tail _ hp))
end
end Mine

namespace Mine
open PySem PySem.W PySem.Calls PyProof.Rows
set_option maxRecDepth 100000
set_option maxHeartbeats 4000000
variable {w : World} {p : Program} {loose : List Str} {mean : ExcName → Option Value} {mg mb : Str → Option Value} {news : List (Addr × Obj)}
structure DrawsOk (c : List Value × List Int × Nat) (pre : List Int) : Prop where
  hi : IntsAre c.1 c.2.1
  hn : c.2.1.length = 6
  hb : ∀ d ∈ c.2.1, 0 ≤ d ∧ d ≤ 581 + 999999 * (pre.length : Int)
section
local macro_rules | `(tactic| walk_at "exec For") => `(tactic| refine held ?_)
local macro_rules | `(tactic| walk_at "exec For Name Call cons nil") => `(tactic| refine held ?_)
local macro_rules | `(tactic| walk_at "pyIter ref") => `(tactic| refine held ?_)
local macro_rules | `(tactic| walk_at "getItem ref int") => `(tactic| refine held ?_)
local macro_rules | `(tactic| walk_at "setItem ref int") => `(tactic| refine held ?_)
local macro_rules | `(tactic| walk_at "InvEndN") => `(tactic| refine held ?_)
theorem c_draws (l : Addr) (vs : List Value) (ns : List Int) (hi : IntsAre vs ns) (hn : ns.length ≤ 1000) :
  ∀ (dp un : Nat) (gd : Option (List Code)) (cn : Str) (cs : Scope) (a : Addr) (ccd : Value) (cl : List (Str × Addr)) (outer : List Env) (A₀ : Around) (base h₀ : Heap) (L : Addr) (m : Str → Option Value) (s : Shared) (Q E : Value → Shared → Prop),
    Below A₀ base outer h₀ → Fr h₀ L s.heap m → (K0 w.params).In h₀ → News h₀ L s.heap news → Top p loose mean mg mb h₀ → cs.kind = .function → base.IsList l vs.toArray →
    dp + 1 < recursionLimit → un + 8 < cLine →
    (∀ D ws ds n h' tk', IntsAre ws ds → ds.length = 6 → (∀ d ∈ ds, 0 ≤ d ∧ d ≤ 2 ^ 40) → (∀ p ∈ news, p.1 < D) → Fr h₀ L h' m → News h₀ L h' ((D, W.listOf ws.toArray n) :: news) → Q (.ref D) { s with heap := h', toks := tk' }) →
      wpAny (model pw w) (ktrTop dp un gd cn cs L a ccd cl outer) (call (.ref 106) [.ref l]) Q E s := by
  w_on
  intro dp un gd cn cs ad ccd cl outer A₀ base h₀ L m s Q E B F X N T hk hl hd hu hret
  have hfit := hi.length
  k_with_none
  refine wpAny_call ?_
  k_dflt cell_enter
  k_steps
  (with_reducible rename Fr _ _ _ _ => F'); (with_reducible rename News _ _ _ _ => N')
  refine Held.mk (For_invVF F' rfl rfl ?_)
  k_steps
  (with_reducible rename IsRange _ _ _ _ _ _ _ _ => hR); (with_reducible rename Fr _ _ _ _ => F2); (with_reducible rename News _ _ _ _ => N2)
  dsimp only at hR F2 N2 ⊢
  rename_i D _ hlt _ _ _ _ _ _ _ _ _
  refine Held.mk (kst_range (n := ns.length) (σ := List Value × List Int × Nat) (fun c => (D, W.listOf c.1.toArray c.2.2) :: news) (fun _ => []) (fun _ => True) [] (fun pre c => DrawsOk c pre) (_, [243, 0, 8, 581, 0, 12], 0) rfl hR (small_one (by omega) (by omega) (by omega) (by omega)) (by rw [PyProof.Rows.rangeSize_nat]; simp) F2 N2 trivial (fun _ hp => nomatch hp) ⟨by l_ints, rfl, by simp⟩ ?_ ?_)
  · intro c pre k t um hh tk own hk1 hk2 hoff hfacts hinv F3 N3
    dsimp only [kstB] at F3
    dsimp only [List.cons_append] at N3
    clear F2 N2 hR
    have h6 : 0 ≤ k.fmod 6 ∧ k.fmod 6 < 6 := ⟨Int.fmod_nonneg_of_pos _ (by decide), Int.fmod_lt_of_pos _ (by decide)⟩
    obtain ⟨vv, dd, nn⟩ := c
    obtain ⟨g1, g2, g3⟩ := hinv
    dsimp only at g1 g2 g3 N3 F3 ⊢
    k_steps
    refine Held.mk (ksa_get N3 (.head _) g1 h6.1 (by omega) (by omega) ?_)
    intro t2
    k_steps
    have hne : ∀ p ∈ news ++ own, p.1 ≠ D := by
      intro p hp
      rcases List.mem_append.mp hp with h | h
      · exact Nat.ne_of_lt (hlt p h)
      · exact hoff p h D (.head _)
    refine Held.mk (ksa_set F3 N3 (.head hne) g1 h6.1 (by omega) (by omega) ?_)
    intro h' F4 N4 i4 l4 _
    clear F3 N3
    generalize vv.set (k.fmod 6).toNat (Value.int _ _) = v4 at N4 i4
    dsimp only
    k_steps
    refine Held.mk (kst_end (v4, dd.set (k.fmod 6).toNat (dd.getD (k.fmod 6).toNat 0 + (ns.getD k.toNat 0).fmod 1000000), nn) F4 N4 ?_ (fun p hp => .tail _ (List.mem_append_right _ hp)) rfl trivial (fun _ hp => nomatch hp) ?_ ?_)
    · intro p hp
      rcases List.mem_cons.mp hp with rfl | hp
      · exact .head _
      · exact .tail _ (List.mem_append_left _ hp)
    · intro z z1 _ z3
      simp only [List.contains_cons, List.contains_nil, Bool.or_false, beq_eq_false_iff_ne, ne_eq] at z3
      simp [z1, z3]
    · refine ⟨i4, by rw [l4]; exact g2, ?_⟩
      intro d hd2
      rcases List.mem_or_eq_of_mem_set hd2 with h | h
      · have := g3 d h
        rw [List.length_append]; simp only [List.length_cons, List.length_nil]; omega
      · have e : dd.getD (k.fmod 6).toNat 0 ∈ dd := by
          rw [List.getD_eq_getElem?_getD, List.getElem?_eq_getElem (by omega)]; exact List.getElem_mem _
        have := g3 _ e
        have f0 := Int.fmod_nonneg_of_pos (ns.getD k.toNat 0) (b := 1000000) (by decide)
        have f1 := Int.fmod_lt_of_pos (ns.getD k.toNat 0) (b := 1000000) (by decide)
        subst h
        rw [List.length_append]; simp only [List.length_cons, List.length_nil]; omega
  · intro c um hh tk hfacts hinv F3 N3
    dsimp only [kstB] at F3
    clear F2 N2 hR
    k_steps
    refine hret D c.1 c.2.1 c.2.2 _ _ hinv.hi hinv.hn (fun d hd2 => ?_) hlt (by assumption) (by assumption)
    have := hinv.hb d hd2
    rw [rangeKs_length] at this
    omega
end
end Mine

namespace Mine
open PySem PySem.W PySem.Calls PyProof.Rows PySem.Builtin PySem.Builtin.Str
set_option maxRecDepth 100000
noncomputable def cut (x : Str) (i j : Nat) : Str := ⟨((x.cps.toList.drop i).take (j - i)).toArray⟩
theorem slice_cut {x : Str} {i j : Int} (h0 : 0 ≤ i) (hij : i ≤ j) : Txt.slice x (some i) (some j) = cut x i.toNat j.toNat := by
  have clip : ∀ a b : Int, 0 ≤ a → 0 ≤ b → Txt.slice x (some a) (some b) = Txt.slice x (some (min a x.length)) (some (min b x.length)) := by
    intro a b ha hb
    have e : strSliceIndices (some a) (some b) 1 x.length = strSliceIndices (some (min a x.length)) (some (min b x.length)) 1 x.length := by
      have h1 : ¬ a < 0 := by omega
      have h2 : ¬ b < 0 := by omega
      have h3 : ¬ (min a (x.length : Int)) < 0 := by omega
      have h4 : ¬ (min b (x.length : Int)) < 0 := by omega
      have h5 : (1 : Int) > 0 := by decide
      simp only [strSliceIndices, h1, h2, h3, h4, h5, if_false, if_true]
      congr 1 <;> omega
    unfold Txt.slice
    rw [e]
  have hl : x.cps.toList.length = x.length := by simp [Str.length]
  rw [clip i j h0 (by omega), beq_iff_eq.mp (slice_closes (x := x) (i := min i x.length) (j := min j x.length) ⟨by omega, by omega, by omega⟩)]
  unfold cut
  congr 2
  by_cases h : i ≤ x.length
  · rw [Int.min_eq_left h]
    by_cases g : j ≤ x.length
    · rw [Int.min_eq_left g]; congr 1; omega
    · rw [Int.min_eq_right (by omega)]
      rw [List.take_of_length_le (by rw [List.length_drop, hl]; omega), List.take_of_length_le (by rw [List.length_drop, hl]; omega)]
  · rw [Int.min_eq_right (by omega), List.drop_of_length_le (by omega), List.drop_of_length_le (by omega)]
    simp
theorem slice_to {x : Str} {j : Int} (h0 : 0 ≤ j) : Txt.slice x none (some j) = cut x 0 j.toNat := by
  have e : strSliceIndices none (some j) 1 x.length = strSliceIndices (some 0) (some j) 1 x.length := by
    have h1 : ¬ (0 : Int) < 0 := by decide
    have h5 : (1 : Int) > 0 := by decide
    simp only [strSliceIndices, h1, h5, if_false, if_true]
    congr 1 <;> omega
  have e2 : Txt.slice x none (some j) = Txt.slice x (some 0) (some j) := by unfold Txt.slice; rw [e]
  rw [e2, slice_cut (Int.le_refl 0) h0]
  rfl
theorem slice_from {x : Str} {i : Int} (h0 : 0 ≤ i) : Txt.slice x (some i) none = ⟨(x.cps.toList.drop i.toNat).toArray⟩ := by
  have e : strSliceIndices (some i) none 1 x.length = strSliceIndices (some i) (some (max i x.length)) 1 x.length := by
    have h1 : ¬ i < 0 := by omega
    have h2 : ¬ (max i (x.length : Int)) < 0 := by omega
    have h5 : (1 : Int) > 0 := by decide
    simp only [strSliceIndices, h1, h2, h5, if_false, if_true]
    congr 1
    omega
  have e2 : Txt.slice x (some i) none = Txt.slice x (some i) (some (max i x.length)) := by unfold Txt.slice; rw [e]
  rw [e2, slice_cut h0 (by omega)]
  unfold cut
  rw [List.take_of_length_le (by simp [Str.length]; omega)]

noncomputable def bothP : List (Str × Int) := [(Str.ofString "hp", 13259), (Str.ofString "ph", 13271), (Str.ofString "st", 64262), (Str.ofString "ss", 223), (Str.ofString "km", 13262), (Str.ofString "kk", 13261), (Str.ofString "fi", 64257), (Str.ofString "ff", 64256)]
inductive PInt : List (Str × Value) → List (Str × Int) → Prop
  | nil : PInt [] []
  | cons (k : Str) (i : Int) (t : Tok) {r : List (Str × Value)} {r' : List (Str × Int)} : PInt r r' → PInt ((k, .int i t) :: r) ((k, i) :: r')
theorem PInt.at {kvs : List (Str × Value)} {ps : List (Str × Int)} (h : PInt kvs ps) (k : Str) : (valueAt kvs k = none ∧ ps.find? (fun p => p.1 = k) = none) ∨ ∃ i t, valueAt kvs k = some (.int i t) ∧ ps.find? (fun p => p.1 = k) = some (k, i) := by
  induction h with
  | nil => exact .inl ⟨rfl, rfl⟩
  | cons k' i t _ ih =>
    by_cases e : k' = k
    · subst e
      exact .inr ⟨i, t, by simp [valueAt], by simp⟩
    · simp only [valueAt, List.find?_cons, e, decide_false] at ih ⊢
      exact ih
noncomputable def signOk (a : Nat) (z : Str) : Bool := !b1I.contains (a : Int) && mapS a == z && decide (0 < z.length) && decide (z.length ≤ 10)
theorem both_ok : (bothP.all fun p => decide (200 ≤ p.2) && decide (p.2 ≤ 65000) && signOk p.2.toNat p.1 && p.1.length == 2) = true := by decide +kernel
noncomputable def getN (l : List (Int × Str)) (c : Nat) : Option Str := @List.rec (Int × Str) (fun _ => Option Str) none (fun q _ ih => cond (Nat.beq q.1.toNat c) (some q.2) ih) l
noncomputable def hasN (l : List Int) (c : Nat) : Bool := @List.rec Int (fun _ => Bool) false (fun q _ ih => cond (Nat.beq q.toNat c) true ih) l
theorem nat_key {k : Int} (h : 0 ≤ k) (c : Nat) : (k == (c : Int)) = Nat.beq k.toNat c := by
  cases e : Nat.beq k.toNat c with
  | true => have := Nat.eq_of_beq_eq_true e; exact beq_iff_eq.mpr (by omega)
  | false =>
    refine beq_eq_false_iff_ne.mpr fun q => ?_
    subst q
    rw [Int.toNat_natCast, Nat.beq_refl] at e
    cases e
theorem getN_eq (c : Nat) : ∀ l : List (Int × Str), (l.all fun q => decide (0 ≤ q.1)) = true → (l.find? fun q => q.1 == (c : Int)).map (·.2) = getN l c
  | [], _ => rfl
  | (k, s) :: r, h => by
    rw [List.all_cons, Bool.and_eq_true] at h
    rw [List.find?_cons, nat_key (of_decide_eq_true h.1)]
    show _ = cond (Nat.beq k.toNat c) (some s) (getN r c)
    cases Nat.beq k.toNat c with
    | true => rfl
    | false => exact getN_eq c r h.2
theorem hasN_eq (c : Nat) : ∀ l : List Int, (l.all fun q => decide (0 ≤ q)) = true → l.contains (c : Int) = hasN l c
  | [], _ => rfl
  | k :: r, h => by
    rw [List.all_cons, Bool.and_eq_true] at h
    rw [List.contains_cons, BEq.comm, nat_key (of_decide_eq_true h.1)]
    show _ = cond (Nat.beq k.toNat c) true (hasN r c)
    cases Nat.beq k.toNat c with
    | true => rfl
    | false => rw [Bool.false_or]; exact hasN_eq c r h.2
theorem b3_pos : (b3P.all fun q => decide (0 ≤ q.1)) = true := by decide +kernel
theorem b1_pos : (b1I.all fun q => decide (0 ≤ q)) = true := by decide +kernel
noncomputable def signN (a : Nat) (z : Str) : Bool := (match getN b3P a with | some s => s | none => Txt.lower ⟨#[a]⟩) == z && !hasN b1I a && decide (0 < z.length) && decide (z.length ≤ 10)
theorem signN_ok {a : Nat} {z : Str} (h : signN a z = true) : signOk a z = true := by
  unfold signN at h
  unfold signOk mapS b3Get
  rw [getN_eq a _ b3_pos, hasN_eq a _ b1_pos]
  simp only [Bool.and_eq_true] at h ⊢
  exact ⟨⟨⟨h.1.1.2, h.1.1.1⟩, h.1.2⟩, h.2⟩
theorem form_okN : ((List.range 26).all fun c => (List.range 12).all fun j => signN (formC (97 + c) j) ⟨#[97 + c]⟩) = true := by decide +kernel
theorem form_ok : ((List.range 26).all fun c => (List.range 12).all fun j => signOk (formC (97 + c) j) ⟨#[97 + c]⟩) = true :=
  List.all_eq_true.mpr fun c hc => List.all_eq_true.mpr fun j hj => signN_ok (List.all_eq_true.mp (List.all_eq_true.mp form_okN c hc) j hj)
theorem unseen_ok : ((List.range 27).all fun j => b1I.contains ((unseenC j : Nat) : Int)) = true := by decide +kernel
noncomputable def prepFlat (l : List Nat) : List Nat := l.flatMap fun c : Nat => if b1I.contains (c : Int) then [] else (mapS c).cps.toList
structure TypedOk (x : Str) (c : List Value × List Nat × Nat × Int × Tok) : Prop where
  hs : StrsAre c.1 (c.2.1.map fun a => ⟨#[a]⟩)
  he : prepFlat c.2.1 = x.cps.toList.take c.2.2.2.1.toNat
  h0 : 0 ≤ c.2.2.2.1
  h5 : c.2.2.2.1 ≤ 5
  hn : (c.2.1.length : Int) ≤ 2 * c.2.2.2.1
  ha : ∀ a : Nat, a ∈ c.2.1 → b1I.contains (a : Int) = true ∨ (0 < (mapS a).length ∧ (mapS a).length ≤ 10)
noncomputable def StepOk (x : Str) (k : Int) (a : Nat) (k' : Int) : Prop :=
  b1I.contains (a : Int) = false ∧ 0 < (mapS a).length ∧ (mapS a).length ≤ 10 ∧ x.cps.toList.take k'.toNat = x.cps.toList.take k.toNat ++ (mapS a).cps.toList ∧ k + 1 ≤ k' ∧ k' ≤ 5
theorem signOk_iff {a : Nat} {z : Str} (h : signOk a z = true) : b1I.contains (a : Int) = false ∧ mapS a = z ∧ 0 < z.length ∧ z.length ≤ 10 := by
  unfold signOk at h
  simp only [Bool.and_eq_true, Bool.not_eq_true', beq_iff_eq, decide_eq_true_eq] at h
  exact ⟨h.1.1.1, h.1.1.2, h.1.2, h.2⟩
theorem step_form {x : Str} {k j : Int} (hx : x.length = 5) (hc : ∀ c ∈ x.cps.toList, 97 ≤ c ∧ c ≤ 122) (h0 : 0 ≤ k) (h1 : k < 5) (j0 : 0 ≤ j) (j1 : j < 12) :
    97 ≤ x.cps.getD k.toNat 0 ∧ x.cps.getD k.toNat 0 ≤ 122 ∧ StepOk x k (formC (x.cps.getD k.toNat 0) j) (k + 1) := by
  have hl : x.cps.toList.length = 5 := by rw [← hx]; simp [Str.length]
  have hk : k.toNat < x.cps.toList.length := by omega
  have e : x.cps.getD k.toNat 0 = x.cps.toList[k.toNat] := by
    have : k.toNat < x.cps.size := by simpa using hk
    simp [Array.getD, this]
  have hm := hc _ (List.getElem_mem hk)
  rw [e]
  generalize hcc : x.cps.toList[k.toNat] = c at hm
  refine ⟨hm.1, hm.2, ?_⟩
  have q := List.all_eq_true.mp (List.all_eq_true.mp form_ok (c - 97) (List.mem_range.mpr (by omega))) j.toNat (List.mem_range.mpr (by omega))
  have e1 : 97 + (c - 97) = c := by omega
  have e2 : ((j.toNat : Nat) : Int) = j := by omega
  rw [e1, e2] at q
  obtain ⟨q1, q2, q3, q4⟩ := signOk_iff q
  refine ⟨q1, by rw [q2]; exact q3, by rw [q2]; exact q4, ?_, by omega, by omega⟩
  rw [q2]
  have e3 : (k + 1).toNat = k.toNat + 1 := by omega
  rw [e3, List.take_succ_eq_append_getElem hk, hcc]
theorem step_both {x : Str} {k v : Int} {z : Str} (hx : x.length = 5) (h0 : 0 ≤ k) (h1 : k < 5) (hz : z = Txt.slice x (some k) (some (k + 2))) (hv : bothP.find? (fun p => p.1 = z) = some (z, v)) :
    200 ≤ v ∧ v ≤ 65000 ∧ StepOk x k v.toNat (k + 2) := by
  have hl : x.cps.toList.length = 5 := by rw [← hx]; simp [Str.length]
  have q := List.all_eq_true.mp both_ok _ (List.mem_of_find?_eq_some hv)
  simp only [Bool.and_eq_true, beq_iff_eq, decide_eq_true_eq] at q
  obtain ⟨⟨⟨p1, p2⟩, p3⟩, p4⟩ := q
  obtain ⟨q1, q2, q3, q4⟩ := signOk_iff p3
  refine ⟨p1, p2, q1, by rw [q2]; exact q3, by rw [q2]; exact q4, ?_, by omega, ?_⟩
  · rw [q2, hz, slice_cut h0 (by omega)]
    unfold cut
    have e3 : (k + 2).toNat = k.toNat + 2 := by omega
    rw [e3, List.take_add]
    simp
  · rw [hz, slice_cut h0 (by omega)] at p4
    unfold cut Str.length at p4
    simp at p4
    have hs : x.cps.size = 5 := hx
    omega
theorem prepFlat_snoc (l : List Nat) (a : Nat) : prepFlat (l ++ [a]) = prepFlat l ++ (if b1I.contains (a : Int) then [] else (mapS a).cps.toList) := by
  unfold prepFlat; rw [List.flatMap_append]; simp
theorem typed_one {x : Str} {zs : List Value} {cz : List Nat} {zn zn' a : Nat} {k k' : Int} {kt kt' tm : Tok} (g : TypedOk x (zs, cz, zn, k, kt)) (st : StepOk x k a k') : TypedOk x (zs ++ [.str ⟨#[a]⟩ tm], cz ++ [a], zn', k', kt') := by
  obtain ⟨g1, g2, g3, g4, g5, g6⟩ := g
  obtain ⟨s1, s2, s3, s4, s5, s6⟩ := st
  dsimp only at g1 g2 g3 g4 g5 g6
  refine ⟨?_, ?_, by dsimp only; omega, s6, ?_, ?_⟩
  · dsimp only; rw [List.map_append]; exact g1.append' (.cons _ _ .nil)
  · dsimp only; rw [prepFlat_snoc, s1, g2, s4]; rfl
  · dsimp only; rw [List.length_append]; simp only [List.length_cons, List.length_nil]; omega
  · intro b hb
    rcases List.mem_append.mp hb with h | h
    · exact g6 b h
    · rw [List.mem_singleton.mp h]; exact .inr ⟨s2, s3⟩
theorem typed_two {x : Str} {zs : List Value} {cz : List Nat} {zn zn' a b : Nat} {k k' : Int} {kt kt' tm tn : Tok} (g : TypedOk x (zs, cz, zn, k, kt)) (st : StepOk x k a k') (hb : b1I.contains (b : Int) = true) : TypedOk x (zs ++ [.str ⟨#[a]⟩ tm] ++ [.str ⟨#[b]⟩ tn], cz ++ [a] ++ [b], zn', k', kt') := by
  have g' := typed_one (zn' := zn') (kt' := kt') (tm := tm) g st
  have g0 := g.hn
  have st5 := st.2.2.2.2.1
  dsimp only at g0
  obtain ⟨g1, g2, g3, g4, g5, g6⟩ := g'
  dsimp only at g1 g2 g3 g4 g5 g6
  refine ⟨?_, ?_, g3, g4, ?_, ?_⟩
  · dsimp only; rw [List.map_append]; exact g1.append' (.cons _ _ .nil)
  · dsimp only; rw [prepFlat_snoc, hb, g2]; simp
  · dsimp only; rw [List.length_append, List.length_append]; simp only [List.length_cons, List.length_nil]; omega
  · intro c hc
    rcases List.mem_append.mp hc with h | h
    · exact g6 c h
    · rw [List.mem_singleton.mp h]; exact .inl hb
theorem unseen_in {j : Int} (h0 : 0 ≤ j) (h1 : j < 27) : b1I.contains ((unseenC j : Nat) : Int) = true := by
  have q := List.all_eq_true.mp unseen_ok j.toNat (List.mem_range.mpr (by omega))
  have e2 : ((j.toNat : Nat) : Int) = j := by omega
  rwa [e2] at q
end Mine

namespace Mine
open PySem PySem.W PySem.Calls PyProof.Rows PySem.Builtin PySem.Builtin.Str
set_option maxRecDepth 100000
theorem join_flat (ys : List Str) : Txt.join ⟨#[]⟩ ys = ⟨(ys.flatMap (·.cps.toList)).toArray⟩ := by
  rw [beq_iff_eq.mp (join_closes (sep := ⟨#[]⟩) (ys := ys) rfl)]
  induction ys with
  | nil => rfl
  | cons y r ih =>
    rw [PyProof.Rows.join_nil_cons, ih]
    show (⟨y.cps ++ _⟩ : Str) = _
    simp
theorem join_ones (cz : List Nat) : Txt.join (Str.ofString "") (cz.map fun a => (⟨#[a]⟩ : Str)) = ⟨cz.toArray⟩ := by
  have e : Str.ofString "" = ⟨#[]⟩ := by decide
  rw [e, join_flat]
  congr 2
  induction cz with
  | nil => rfl
  | cons a r ih => simpa using ih
theorem codes_mk (cz : List Nat) : KStt.codes ⟨cz.toArray⟩ = cz.map fun a : Nat => (a : Int) := rfl
theorem prep_flat (cz : List Nat) : Txt.join ⟨#[]⟩ (prepSigns (cz.map fun a : Nat => (a : Int))) = ⟨(prepFlat cz).toArray⟩ := by
  rw [join_flat]
  congr 2
  unfold prepSigns prepFlat
  induction cz with
  | nil => rfl
  | cons a r ih =>
    simp only [List.map_cons, List.flatMap_cons, List.flatMap_append, ih]
    congr 1
    cases h : b1I.contains (a : Int) with
    | true => rfl
    | false => show (mapS _).cps.toList ++ [] = _; rw [List.append_nil]; rfl
theorem ones_sum (cz : List Nat) : (List.map (fun x : Str => x.length) (List.map (fun a => (⟨#[a]⟩ : Str)) cz)).sum = cz.length := by
  induction cz with
  | nil => rfl
  | cons a r ih => simp only [List.map_cons, List.sum_cons, ih, List.length_cons]; show 1 + _ = _; omega
end Mine

namespace Mine
open PySem PySem.W PySem.Calls PyProof.Rows
set_option maxRecDepth 100000
set_option maxHeartbeats 4000000
variable {w : World} {p : Program} {loose : List Str} {mean : ExcName → Option Value} {mg mb : Str → Option Value} {news : List (Addr × Obj)}
section
local macro_rules | `(tactic| walk_at "exec While") => `(tactic| refine held ?_)
local macro_rules | `(tactic| walk_at "exec While Compare") => `(tactic| refine held ?_)
local macro_rules | `(tactic| walk_at "last exec While") => `(tactic| refine held ?_)
local macro_rules | `(tactic| walk_at "KswPost") => `(tactic| refine held ?_)
local macro_rules | `(tactic| walk_at "compareOp In str ref") => `(tactic| refine held ?_)
local macro_rules | `(tactic| walk_at "call ref") => `(tactic| refine held ?_)
local macro_rules | `(tactic| walk_at "getItem ref str") => `(tactic| refine held ?_)
local macro_rules | `(tactic| walk_at "KswEnd") => `(tactic| refine held ?_)
local macro_rules | `(tactic| walk_at "call builtin:str.join") => `(tactic| refine held ?_)
theorem c_typed (x : Str) (t : Tok) (D : Addr) (vs : List Value) (ns : List Int) (n : Nat) (hx : x.length = 5) (hc : ∀ c ∈ x.cps.toList, 97 ≤ c ∧ c ≤ 122) (hD : (D, W.listOf vs.toArray n) ∈ news) (hi : IntsAre vs ns) (hn : ns.length = 6) (hb : ∀ d ∈ ns, 0 ≤ d ∧ d ≤ 2 ^ 40) :
  ∀ (dp un : Nat) (gd : Option (List Code)) (cn : Str) (cs : Scope) (a : Addr) (ccd : Value) (cl : List (Str × Addr)) (outer : List Env) (A₀ : Around) (base h₀ : Heap) (L : Addr) (m : Str → Option Value) (s : Shared) (Q E : Value → Shared → Prop),
    Below A₀ base outer h₀ → Fr h₀ L s.heap m → (K0 w.params).In h₀ → News h₀ L s.heap news → Top p loose mean mg mb h₀ → cs.kind = .function →
    dp + 2 < recursionLimit → un + 20 < cLine →
    (∀ T tt h' tk', T.length ≤ 10 → (∀ c : Nat, c ∈ T.cps.toList → b1I.contains (c : Int) = true ∨ (0 < (mapS c).length ∧ (mapS c).length ≤ 10)) → Txt.join ⟨#[]⟩ (prepSigns (KStt.codes T)) = x → Fr h₀ L h' m → News h₀ L h' news → Q (.str T tt) { s with heap := h', toks := tk' }) →
      wpAny (model pw w) (ktrTop dp un gd cn cs L a ccd cl outer) (call (.ref 127) [.str x t, .ref D]) Q E s := by
  w_on
  intro dp un gd cn cs ad ccd cl outer A₀ base h₀ L m s Q E B F X N T hk hd hu hret
  k_with_none
  refine wpAny_call ?_
  k_dflt cell_enter
  k_steps
  rename_i bH FG2 B2 X2 T2 h2 o2 l0 lo hdB hfB apB h3 S h4 lS h5 h6 F1 N1
  clear hfB
  dsimp only at F1 N1 hdB
  obtain ⟨BA, hB⟩ : ∃ BA, bH.objs.size = BA := ⟨_, rfl⟩
  rw [hB] at l0 lo apB lS N1 F1
  obtain ⟨kvs, hP, hdK⟩ : ∃ kvs, PInt kvs bothP ∧ Obj.IsDictOf (PySem.strKind pw w) o2 kvs := ⟨_, .cons _ _ _ (.cons _ _ _ (.cons _ _ _ (.cons _ _ _ (.cons _ _ _ (.cons _ _ _ (.cons _ _ _ (.cons _ _ _ .nil))))))), hdB⟩
  clear hdB
  refine' Held.mk (ksw_while (σ := List Value × List Nat × Nat × Int × Tok) (fun c => (S, W.listOf c.1.toArray c.2.2.1) :: (BA, o2) :: news) (fun c => [(Str.ofString "k", .int c.2.2.2.1 c.2.2.2.2)]) (fun _ => True) [Str.ofString "hidden"] (fun c => TypedOk x c) (fun c => (5 - c.2.2.2.1).toNat) ([], [], 0, 0, _) F1 N1 trivial ?kk ?pp ?_)
  case kk =>
    intro p hp
    rcases List.mem_cons.mp hp with rfl | hp
    · rfl
    · cases hp
  case pp => exact ⟨.nil, by simp [prepFlat], by show (0:Int) ≤ 0; decide, by show (0:Int) ≤ 5; decide, by show ((([] : List Nat).length : Nat) : Int) ≤ 2 * 0; decide, fun _ h => nomatch h⟩
  intro c u h tk hfacts hinv F3 N3
  dsimp only [kstB] at F3
  clear F1 N1
  obtain ⟨zs, cz, zn, k, kt⟩ := c
  dsimp only at F3 N3 hinv ⊢
  have g := hinv
  obtain ⟨g1, g2, g3, g4, g5, g6⟩ := hinv
  dsimp only at g1 g2 g3 g4 g5 g6
  have hks : k < ns.length := by omega
  have hne : ∀ p ∈ (BA, o2) :: news, p.1 ≠ S := by
    intro p hp
    rcases List.mem_cons.mp hp with rfl | hp
    · exact Nat.ne_of_lt lS.1
    · exact Nat.ne_of_lt (Nat.lt_trans (l0 p hp) lS.1)
  have hh0 := Int.fmod_lt_of_pos ((ns.getD k.toNat 0).fdiv 48) (b := 28) (by decide)
  have hzl : zs.length ≤ 10 := by
    have := strs_len g1
    rw [List.length_map] at this
    omega
  replace hD : (D, W.listOf vs.toArray n) ∈ (S, W.listOf zs.toArray zn) :: (BA, o2) :: news := .tail _ (.tail _ hD)
  k_steps
  rotate_right
  · have hk5 : k = 5 := by omega
    subst hk5
    refine Held.mk (join_list (N3.isList (.head _)) (by simpa using g1) ?_ (fun t' tk => ?_))
    · rw [ones_sum, show (Str.ofString "").length = 0 by decide]; omega
    · dsimp only
      k_steps
      rw [join_ones]
      have e5 : prepFlat cz = x.cps.toList := by
        rw [g2, List.take_of_length_le]
        have : x.cps.toList.length = 5 := by rw [← hx]; simp [Str.length]
        rw [this]; decide
      refine hret ⟨cz.toArray⟩ _ _ _ ?_ ?_ ?_ (by assumption) (cb_drop (by assumption) (fun p hp => .tail _ (.tail _ hp)))
      · show cz.toArray.size ≤ 10; simp; omega
      · intro c hc; exact g6 c (by simpa using hc)
      · rw [codes_mk, prep_flat, e5]
  · (with_reducible rename News _ _ _ _ => N4)
    rcases hP.at (Txt.slice x (some k) (some (k + 2))) with ⟨e1, e2⟩ | ⟨v, vt, e1, e2⟩
    · refine Held.mk (kda_in N4 (.tail _ (.head _)) hdK lo (strKind_is _ _ _ _) false (by rw [e1]; rfl) ?_)
      dsimp only
      k_steps
      have hlt5 : k < 5 := by omega
      obtain ⟨c1, c2, st⟩ := step_form (j := ((ns.getD k.toNat 0).fdiv 4).fmod 12) hx hc g3 hlt5 (Int.fmod_nonneg_of_pos _ (by decide)) (Int.fmod_lt_of_pos _ (by decide))
      rw [item_eq (a := x) g3 (by omega)]
      (with_reducible rename News _ _ _ _ => N5); (with_reducible rename Fr _ _ _ _ => F5)
      refine Held.mk ?_
      refine' c_form (news := (S, W.listOf zs.toArray zn) :: (BA, o2) :: news) _ _ _ _ (Int.fmod_nonneg_of_pos _ (by decide)) (Int.fmod_lt_of_pos _ (by decide)) c1 c2 _ _ _ _ _ _ _ _ _ _ _ _ _ _ _ _ _ ?B ?F ?X ?N ?T ?hk ?hd ?hu ?h1
      case B => k_asm
      case F => k_asm
      case X => k_asm
      case N => k_asm
      case T => k_asm
      case hk => exact rfl
      case hd => ktr_room
      case hu => ktr_units
      case h1 =>
        intro tm h' tk' F6 N6
        clear F5 N5
        dsimp only
        k_steps
        · (with_reducible rename News _ _ _ _ => N9); (with_reducible rename Fr _ _ _ _ => F9)
          simp only [List.push_toArray] at N9
          refine Held.mk ?_
          refine' c_unseen _ _ (by omega) (by omega) _ _ _ _ _ _ _ _ _ _ _ _ _ _ _ _ _ ?B ?F ?X N9 ?T ?hk ?hd ?hu ?h1
          case B => k_asm
          case F => k_asm
          case X => k_asm
          case T => k_asm
          case hk => exact rfl
          case hd => ktr_room
          case hu => ktr_units
          case h1 =>
            intro tn h' tk' FA NA
            clear F9 N9
            dsimp only
            k_steps
            (with_reducible rename News _ _ _ _ => NE); (with_reducible rename Fr _ _ _ _ => FE)
            simp only [List.push_toArray] at NE
            refine' Held.mk (ksw_end (_, _, _, _, _) FE NE (fun p hp => hp) trivial ?kk ?rr (typed_two g st (unseen_in (by omega) (by omega))) ?mm)
            case kk =>
              intro p hp
              rcases List.mem_cons.mp hp with rfl | hp
              · rfl
              · cases hp
            case rr => ksw_same
            case mm => dsimp only; omega
        · skip
          (with_reducible rename News _ _ _ _ => NE); (with_reducible rename Fr _ _ _ _ => FE)
          simp only [List.push_toArray] at NE
          refine' Held.mk (ksw_end (_, _, _, _, _) FE NE (fun p hp => hp) trivial ?kk ?rr (typed_one g st) ?mm)
          case kk =>
            intro p hp
            rcases List.mem_cons.mp hp with rfl | hp
            · rfl
            · cases hp
          case rr => ksw_same
          case mm => dsimp only; omega
    · obtain ⟨p1, p2, st⟩ := step_both hx g3 (by omega) rfl e2
      refine Held.mk (kda_in N4 (.tail _ (.head _)) hdK lo (strKind_is _ _ _ _) true (by rw [e1]; rfl) ?_)
      dsimp only
      k_steps
      (with_reducible rename News _ _ _ _ => N5)
      refine kdt_tail (knd := PySem.strKind _ _) N5 (.tail _ (.head _)) hdK (kdt_getItem N5 (.tail _ (.head _)) hdK (strKind_is _ _ _ _) e1 ?_)
      dsimp only
      k_steps
      (with_reducible rename News _ _ _ _ => N7); (with_reducible rename Fr _ _ _ _ => F7)
      refine append_K F7 N7 (Upd.head hne) (fun h7 F8 N8 => ?_) (by simp [sizeLine_eq]; omega)
      clear F7 N7
      dsimp only
      k_steps
      · (with_reducible rename News _ _ _ _ => N9); (with_reducible rename Fr _ _ _ _ => F9)
        simp only [List.push_toArray] at N9
        refine Held.mk ?_
        refine' c_unseen _ _ (by omega) (by omega) _ _ _ _ _ _ _ _ _ _ _ _ _ _ _ _ _ ?B ?F ?X N9 ?T ?hk ?hd ?hu ?h1
        case B => k_asm
        case F => k_asm
        case X => k_asm
        case T => k_asm
        case hk => exact rfl
        case hd => ktr_room
        case hu => ktr_units
        case h1 =>
          intro tn h' tk' FA NA
          clear F9 N9
          dsimp only
          k_steps
          (with_reducible rename News _ _ _ _ => NE); (with_reducible rename Fr _ _ _ _ => FE)
          simp only [List.push_toArray] at NE
          refine' Held.mk (ksw_end (_, _, _, _, _) FE NE (fun p hp => hp) trivial ?kk ?rr (typed_two g st (unseen_in (by omega) (by omega))) ?mm)
          case kk =>
            intro p hp
            rcases List.mem_cons.mp hp with rfl | hp
            · rfl
            · cases hp
          case rr => ksw_same
          case mm => dsimp only; omega
      · skip
        (with_reducible rename News _ _ _ _ => NE); (with_reducible rename Fr _ _ _ _ => FE)
        simp only [List.push_toArray] at NE
        refine' Held.mk (ksw_end (_, _, _, _, _) FE NE (fun p hp => hp) trivial ?kk ?rr (typed_one g st) ?mm)
        case kk =>
          intro p hp
          rcases List.mem_cons.mp hp with rfl | hp
          · rfl
          · cases hp
        case rr => ksw_same
        case mm => dsimp only; omega
  · skip
    have hlt5 : k < 5 := by omega
    obtain ⟨c1, c2, st⟩ := step_form (j := ((ns.getD k.toNat 0).fdiv 4).fmod 12) hx hc g3 hlt5 (Int.fmod_nonneg_of_pos _ (by decide)) (Int.fmod_lt_of_pos _ (by decide))
    rw [item_eq (a := x) g3 (by omega)]
    (with_reducible rename News _ _ _ _ => N5); (with_reducible rename Fr _ _ _ _ => F5)
    refine Held.mk ?_
    refine' c_form (news := (S, W.listOf zs.toArray zn) :: (BA, o2) :: news) _ _ _ _ (Int.fmod_nonneg_of_pos _ (by decide)) (Int.fmod_lt_of_pos _ (by decide)) c1 c2 _ _ _ _ _ _ _ _ _ _ _ _ _ _ _ _ _ ?B ?F ?X ?N ?T ?hk ?hd ?hu ?h1
    case B => k_asm
    case F => k_asm
    case X => k_asm
    case N => k_asm
    case T => k_asm
    case hk => exact rfl
    case hd => ktr_room
    case hu => ktr_units
    case h1 =>
      intro tm h' tk' F6 N6
      clear F5 N5
      dsimp only
      k_steps
      · (with_reducible rename News _ _ _ _ => N9); (with_reducible rename Fr _ _ _ _ => F9)
        simp only [List.push_toArray] at N9
        refine Held.mk ?_
        refine' c_unseen _ _ (by omega) (by omega) _ _ _ _ _ _ _ _ _ _ _ _ _ _ _ _ _ ?B ?F ?X N9 ?T ?hk ?hd ?hu ?h1
        case B => k_asm
        case F => k_asm
        case X => k_asm
        case T => k_asm
        case hk => exact rfl
        case hd => ktr_room
        case hu => ktr_units
        case h1 =>
          intro tn h' tk' FA NA
          clear F9 N9
          dsimp only
          k_steps
          (with_reducible rename News _ _ _ _ => NE); (with_reducible rename Fr _ _ _ _ => FE)
          simp only [List.push_toArray] at NE
          refine' Held.mk (ksw_end (_, _, _, _, _) FE NE (fun p hp => hp) trivial ?kk ?rr (typed_two g st (unseen_in (by omega) (by omega))) ?mm)
          case kk =>
            intro p hp
            rcases List.mem_cons.mp hp with rfl | hp
            · rfl
            · cases hp
          case rr => ksw_same
          case mm => dsimp only; omega
      · skip
        (with_reducible rename News _ _ _ _ => NE); (with_reducible rename Fr _ _ _ _ => FE)
        simp only [List.push_toArray] at NE
        refine' Held.mk (ksw_end (_, _, _, _, _) FE NE (fun p hp => hp) trivial ?kk ?rr (typed_one g st) ?mm)
        case kk =>
          intro p hp
          rcases List.mem_cons.mp hp with rfl | hp
          · rfl
          · cases hp
        case rr => ksw_same
        case mm => dsimp only; omega
end
end Mine

namespace Mine
open PySem PySem.W PySem.Calls PyProof.Rows PySem.Builtin PySem.Builtin.Str
set_option maxRecDepth 100000
section
variable {prog : Program} {w : World} {A : Around} {E : Value → Shared → Prop} {Q : Flow → Shared → Prop} {s : Shared} {env : Env} {h₀ : Heap} {L : Addr}
theorem while_cut {σ : Type} {test : PySem.Expr} {body : List Stmt} {pos : Pos} {m₀ : Str → Option Value} (Led : σ → List (Addr × Obj)) (ps : σ → List (Str × Value)) (stored : List Str) (P R : σ → Prop) (μ : σ → Nat) (c₀ : σ)
    (F : Fr h₀ L s.heap m₀) (N : News h₀ L s.heap (Led c₀)) (hk : ∀ p ∈ ps c₀, m₀ p.1 = some p.2) (hp : P c₀)
    (turn : ∀ (c : σ) (u : Str → Option Value) h tk, P c → Fr h₀ L h (kstB (fun z => if stored.contains z then u z else m₀ z) (ps c)) → News h₀ L h (Led c) →
      wpAny (model prog w) A (isTrue test env (eval test env)) (fun b s₂ =>
        if b = true then wpAny (model prog w) A (execs body env) (KswPost h₀ L s Led ps (fun _ => True) stored m₀ P μ Q c) E s₂
        else ∃ h' tk', s₂ = { s with heap := h', toks := tk' } ∧ Fr h₀ L h' (kstB (fun z => if stored.contains z then u z else m₀ z) (ps c)) ∧ News h₀ L h' (Led c) ∧ R c) E { s with heap := h, toks := tk })
    (done : ∀ (c : σ) (u : Str → Option Value) h tk, P c → R c → Fr h₀ L h (kstB (fun z => if stored.contains z then u z else m₀ z) (ps c)) → News h₀ L h (Led c) → Q .next { s with heap := h, toks := tk })
    (hE : PassesOwn (model prog w) A env E := by passes_own) :
    wpAny (model prog w) A (exec (.While test body [] pos) env) Q E s := by
  refine ksw_while Led ps (fun _ => True) stored P μ c₀ F N trivial hk hp (fun c u h tk _ hP hF hN => ?_) hE
  refine wpAny_mono (turn c u h tk hP hF hN) (fun b s₂ q => ?_) (fun _ _ x => x)
  cases b with
  | true => exact q
  | false =>
    obtain ⟨h', tk', e, F', N', r⟩ := q
    subst e
    exact done c u h' tk' hP r F' N'
end

noncomputable def strip : List Nat → List Nat → List Nat × List Nat
  | a :: r, b :: s => if a = b then strip r s else (a :: r, b :: s)
  | x, y => (x, y)
noncomputable def StripAt (A B : List Nat) (n : Nat) : Prop := n ≤ A.length ∧ n ≤ B.length ∧ strip A B = strip (A.drop n) (B.drop n)
theorem StripAt.zero (A B : List Nat) : StripAt A B 0 := ⟨Nat.zero_le _, Nat.zero_le _, rfl⟩
theorem StripAt.next {A B : List Nat} {n : Nat} (h : StripAt A B n) (ha : n < A.length) (hb : n < B.length) (he : A[n] = B[n]) : StripAt A B (n + 1) := by
  refine ⟨ha, hb, ?_⟩
  rw [h.2.2, List.drop_eq_getElem_cons ha, List.drop_eq_getElem_cons hb]
  simp [strip, he]
theorem StripAt.out {A B : List Nat} {n : Nat} (h : StripAt A B n) (ho : A.length ≤ n ∨ B.length ≤ n) : strip A B = (A.drop n, B.drop n) := by
  rw [h.2.2]
  rcases ho with g | g
  · rw [List.drop_of_length_le g]; simp [strip]
  · rw [List.drop_of_length_le g]
    cases A.drop n <;> simp [strip]
theorem StripAt.ne {A B : List Nat} {n : Nat} (h : StripAt A B n) (ha : n < A.length) (hb : n < B.length) (he : A[n] ≠ B[n]) : strip A B = (A.drop n, B.drop n) := by
  rw [h.2.2, List.drop_eq_getElem_cons ha, List.drop_eq_getElem_cons hb]
  simp [strip, he]
theorem getD_list {x : Str} {n : Nat} (h : n < x.cps.toList.length) : x.cps.getD n 0 = x.cps.toList[n] := by
  have : n < x.cps.size := by simpa using h
  simp [Array.getD, this]
theorem len_list (x : Str) : x.cps.toList.length = x.length := by simp [Str.length]
theorem item_list {x : Str} {i : Int} (h0 : 0 ≤ i) (h1 : i < x.length) : ∃ h : i.toNat < x.cps.toList.length, Txt.item x i = ⟨#[x.cps.toList[i.toNat]]⟩ := by
  have hl := len_list x
  refine ⟨by omega, ?_⟩
  rw [item_eq h0 h1, getD_list]
theorem item_neg {x : Str} {i : Int} (h0 : i < 0) (h1 : -(x.length : Int) ≤ i) : ∃ h : (-i - 1).toNat < x.cps.toList.reverse.length, Txt.item x i = ⟨#[x.cps.toList.reverse[(-i - 1).toNat]]⟩ := by
  have hl := len_list x
  have hr : (-i - 1).toNat < x.cps.toList.reverse.length := by rw [List.length_reverse]; omega
  have hq : (i + x.length).toNat < x.cps.toList.length := by omega
  refine ⟨hr, ?_⟩
  rw [beq_iff_eq.mp (item_closes_neg h0 h1 rfl), getD_list hq, List.getElem_reverse]
  have e : (i + x.length).toNat = x.cps.toList.length - 1 - (-i - 1).toNat := by omega
  simp only [e]
theorem slice_neg {x : Str} {j : Int} (h0 : j < 0) (h1 : -(x.length : Int) ≤ j) : Txt.slice x none (some j) = ⟨((x.cps.toList.reverse.drop (-j).toNat).reverse).toArray⟩ := by
  rw [beq_iff_eq.mp (slice_closes_to_neg h0 h1 rfl), List.reverse_drop, List.reverse_reverse, List.length_reverse]
  have hl := len_list x
  congr 2
  show List.take _ (List.drop 0 _) = _
  rw [List.drop_zero]
  congr 1
  omega
theorem slice_neg_len {x : Str} {j : Int} (h0 : j < 0) (h1 : -(x.length : Int) ≤ j) : ((Txt.slice x none (some j)).length : Int) = x.length + j := by
  rw [slice_neg h0 h1, ← len_list]
  have hl := len_list x
  simp only [List.length_reverse, List.length_drop]
  omega
theorem slice_all (x : Str) : Txt.slice x none none = x := by
  have e : strSliceIndices none none 1 x.length = strSliceIndices none (some (x.length : Int)) 1 x.length := by
    have h2 : ¬ ((x.length : Nat) : Int) < 0 := by omega
    have h5 : (1 : Int) > 0 := by decide
    simp only [strSliceIndices, h2, h5, if_false, if_true]
    congr 1 <;> omega
  have e2 : Txt.slice x none none = Txt.slice x none (some (x.length : Int)) := by unfold Txt.slice; rw [e]
  rw [e2, slice_to (by omega)]
  unfold cut
  have hl := len_list x
  rw [List.drop_zero, List.take_of_length_le (by omega)]
theorem ones_inj {m n : Nat} (h : (⟨#[m]⟩ : Str) = ⟨#[n]⟩) : m = n := one_inj h
end Mine

namespace Mine
open PySem PySem.W PySem.Calls PyProof.Rows PySem.Builtin PySem.Builtin.Str
set_option maxRecDepth 100000
structure LSt where
  row : List Int
  dist : Int
  res : Int
  mn : Int
noncomputable def inStep (a : Str) (bc : Str) (o : LSt) (i : Int) : LSt :=
  let sub := o.dist + subCost bc (Txt.item a i)
  let d := o.row.getD i.toNat 0
  let r := min (min o.res d + 2) sub
  ⟨o.row.set i.toNat r, d, r, if r < o.mn then r else o.mn⟩
noncomputable def inR (a : Str) (bc : Str) (row : List Int) (k : Int) (pre : List Int) : LSt := pre.foldl (inStep a bc) ⟨row, k * 2, k * 2, 9223372036854775807⟩
noncomputable def outStep (a b : Str) (mc : Int) (o : Option (List Int × Int)) (k : Int) : Option (List Int × Int) :=
  o.bind fun q => let r := inR a (Txt.item b k) q.1 k (rangeKs 0 a.length); if mc < r.mn then none else some (r.row, r.res)
noncomputable def outR (a b : Str) (mc : Int) (pre : List Int) : Option (List Int × Int) := pre.foldl (outStep a b mc) (some ((rangeKs 0 a.length).map fun i => 2 + i * 2, 0))
noncomputable def levS (a b : Str) (mc : Int) : Int :=
  if ((b.length : Int) - a.length) * 2 > mc then mc + 1
  else match outR a b mc (rangeKs 0 b.length) with
    | none => mc + 1
    | some q => q.2
noncomputable def levR (a b : Str) (mc : Int) : Int :=
  if a.length = 0 ∨ b.length = 0 then 2 * ((a.length : Int) + b.length)
  else if b.length < a.length then levS b a mc else levS a b mc
noncomputable def levF (a b : Str) (mc : Int) : Int :=
  if a = b then 0 else
  let q := strip a.cps.toList b.cps.toList
  let r := strip q.1.reverse q.2.reverse
  levR ⟨r.1.reverse.toArray⟩ ⟨r.2.reverse.toArray⟩ mc
end Mine

namespace Mine
open PySem PySem.W PySem.Calls PyProof.Rows PySem.Builtin PySem.Builtin.Str
set_option maxRecDepth 100000
theorem ints_step (c : Int) : ∀ (vs : List Value) (a : Int) (b : Int) (n : Nat), vs.length = n → (∀ (j : Nat) (v : Value), vs[j]? = some v → ∃ t, v = .int (a + (b + (j : Int)) * c) t) → IntsAre vs ((rangeKs b n).map fun i => a + i * c)
  | [], a, b, n, hn, _ => by
    subst hn
    exact .nil
  | v :: r, a, b, n, hn, h => by
    subst hn
    obtain ⟨t, ht⟩ := h 0 v rfl
    rw [show (v :: r).length = r.length + 1 from rfl, kll_cons]
    subst ht
    rw [List.map_cons]
    have e : (b + ((0 : Nat) : Int)) = b := by omega
    rw [e]
    refine IntsAre.cons _ _ (ints_step c r a (b + 1) r.length rfl fun j v hj => ?_)
    obtain ⟨t', ht'⟩ := h (j + 1) v hj
    refine ⟨t', ht'.trans ?_⟩
    have e2 : b + 1 + (j : Int) = b + ((j + 1 : Nat) : Int) := by omega
    rw [e2]
theorem range2_size (n : Nat) : Builtin.Range.rangeSize 2 (2 * ((n : Int) + 1)) 2 = (n : Int) := by
  unfold Builtin.Range.rangeSize
  rw [if_pos (by decide)]
  by_cases h : n = 0
  · subst h; decide
  · rw [if_pos (by omega)]; omega
theorem range2_small (n : Nat) (h : n ≤ 20) : Builtin.Range.small 2 (2 * ((n : Int) + 1)) 2 = true := by
  have : ∀ n : Fin 21, Builtin.Range.small 2 (2 * (((n : Nat) : Int) + 1)) 2 = true := by decide
  exact this ⟨n, by omega⟩
section
variable {prog : Program} {w : World} {A : Around} {E : Value → Shared → Prop} {s : Shared} {h₀ : Heap} {L l r : Addr} {m : Str → Option Value} {news : List (Addr × Obj)} {vs : List Value} {a b j c : Int} {u t₀ u₀ v₀ : Tok} {n : Nat} {Q : Value → Shared → Prop}
theorem list_step (hh : A.handled = none) (F : Fr h₀ L s.heap m) (N : News h₀ L s.heap news) (hr : IsRange s.heap r a b c t₀ u₀ v₀) (hsmall : Builtin.Range.small a b c = true) (hn : Builtin.Range.rangeSize a b c = (n : Int)) (hz : n ≤ 2 ^ 24)
    (h : ∀ D us k h' tk, Fr h₀ L h' m → News h₀ L h' ((D, W.listOf (List.toArray us) k) :: news) → (∀ p ∈ news, p.1 < D) → IntsAre us ((rangeKs 0 n).map fun i => a + i * c) → Q (.ref D) { s with heap := h', toks := tk }) :
    wpAny (model prog w) A (call (.type "list") [.ref r]) Q E s := by
  refine call_list_range hh hr hsmall hn hz fun h' tk acc k hk hD hI => ?_
  have hD' : h'.get? s.heap.objs.size = some (W.listOf (List.toArray acc.toList) k) := by
    rw [Array.toArray_toList]
    exact hD
  refine h _ acc.toList k h' tk (F.keeps hk) (news_pushed F N hk hD' rfl) (fun p hp => Heap.lt_size (N p hp).1) (ints_step c _ _ _ _ (by rw [Array.length_toList]; exact hI.1) fun j v hj => ?_)
  obtain ⟨t, ht⟩ := hI.2 j v (by rw [← hj, Array.getElem?_toList])
  exact ⟨t, by rw [ht]; congr 1; rw [Int.zero_add]⟩
end
end Mine

namespace Mine
open PySem PySem.W PySem.Calls PyProof.Rows
set_option maxRecDepth 100000
set_option maxHeartbeats 4000000
variable {w : World} {p : Program} {loose : List Str} {mean : ExcName → Option Value} {mg mb : Str → Option Value} {news : List (Addr × Obj)}
theorem fr_kst {h₀ h : Heap} {L : Addr} {m : Str → Option Value} {ps : List (Str × Value)} (F : Fr h₀ L h m) (h1 : ∀ p ∈ ps, m p.1 = some p.2) : Fr h₀ L h (kstB m ps) := by
  have e : kstB m ps = m := funext fun y => kstB_eq h1 fun _ => rfl
  rw [e]; exact F
structure OutOk (a b : Str) (mc : Int) (c : List Value × List Int × Nat × Int × Tok) (pre : List Int) : Prop where
  hi : IntsAre c.1 c.2.1
  hn : c.2.1.length = a.length
  ho : outR a b mc pre = some (c.2.1, c.2.2.2.1)
  hp : pre = rangeKs 0 pre.length
theorem rk_snoc (n : Nat) : rangeKs 0 (n + 1) = rangeKs 0 n ++ [(n : Int)] := by
  unfold rangeKs
  rw [List.range_succ, List.map_append]
  simp
theorem rk_split (n r : Nat) : ∃ t, rangeKs 0 (n + r) = rangeKs 0 n ++ t := by
  induction r with
  | zero => exact ⟨[], by simp⟩
  | succ r ih =>
    obtain ⟨t, h⟩ := ih
    exact ⟨t ++ [((n + r : Nat) : Int)], by rw [← Nat.add_assoc, rk_snoc, h, List.append_assoc]⟩
theorem out_none (a b : Str) (mc : Int) : ∀ (t : List Int), t.foldl (outStep a b mc) none = none
  | [] => rfl
  | x :: t => by rw [List.foldl_cons]; exact out_none a b mc t
theorem out_snoc {a b : Str} {mc : Int} {pre : List Int} {k : Int} {q : List Int × Int} (h : outR a b mc pre = some q) : outR a b mc (pre ++ [k]) = outStep a b mc (some q) k := by
  unfold outR at h ⊢
  rw [List.foldl_append, h]
  rfl
theorem out_stop {a b : Str} {mc : Int} {pre : List Int} {k : Int} {q : List Int × Int} {n : Nat} (h : outR a b mc pre = some q) (hp : pre = rangeKs 0 pre.length) (hk : k = pre.length) (hn : pre.length < n)
    (hs : outStep a b mc (some q) k = none) : outR a b mc (rangeKs 0 n) = none := by
  obtain ⟨t, ht⟩ := rk_split (pre.length + 1) (n - (pre.length + 1))
  have e : pre.length + 1 + (n - (pre.length + 1)) = n := by omega
  rw [e] at ht
  have e2 : rangeKs 0 (pre.length + 1) = pre ++ [k] := by
    rw [rk_snoc, ← hp, hk]
  have h2 := out_snoc (k := k) h
  rw [hs] at h2
  unfold outR at h2 ⊢
  rw [ht, e2, List.foldl_append, h2]
  exact out_none a b mc t
theorem in_snoc {a bc : Str} {row : List Int} {k : Int} {pre : List Int} {i : Int} {o : LSt} (h : inR a bc row k pre = o) : inR a bc row k (pre ++ [i]) = inStep a bc o i := by
  unfold inR at h ⊢
  rw [List.foldl_append, h]
  rfl
structure InOk (a bc : Str) (row : List Int) (k : Int) (c : List Value × List Int × (Int × Tok) × (Int × Tok) × (Int × Tok)) (pre : List Int) : Prop where
  hi : IntsAre c.1 c.2.1
  hn : c.2.1.length = a.length
  ho : inR a bc row k pre = ⟨c.2.1, c.2.2.1.1, c.2.2.2.1.1, c.2.2.2.2.1⟩
section
local macro_rules | `(tactic| walk_at "pyIter ref") => `(tactic| refine held ?_)
local macro_rules | `(tactic| walk_at "call ref") => `(tactic| refine held ?_)
local macro_rules | `(tactic| walk_at "call type:list") => `(tactic| refine held ?_)
local macro_rules | `(tactic| walk_at "exec For") => `(tactic| refine held ?_)
local macro_rules | `(tactic| walk_at "exec For Name Call cons nil") => `(tactic| refine held ?_)
local macro_rules | `(tactic| walk_at "InvEndN") => `(tactic| refine held ?_)
local macro_rules | `(tactic| walk_at "getItem ref int") => `(tactic| refine held ?_)
local macro_rules | `(tactic| walk_at "setItem ref int") => `(tactic| refine held ?_)
theorem lev_core (a b : Str) (mc : Int) (ta tb v : Tok) (la : a.length ≤ 20) (lb : b.length ≤ 20) (dp un : Nat) (gd : Option (List Code)) (cn : Str) (cs : Scope) (ad : Addr) (ccd : Value) (cl : List (Str × Addr)) (outer : List Env) (base g' : Heap) (L L' : Addr) (m' : Str → Option Value) (s : Shared) (qk : Flow → Shared → Prop) (ek : Value → Shared → Prop)
    (B : Below (ktrTop dp un gd cn cs L ad ccd cl outer) base (envX cn cs L ad ccd cl :: outer) g') (X : (K0 w.params).In g') (T : Top p loose mean mg mb g')
    (F : Fr g' L' s.heap (kstB m' [(Str.ofString "b", .str b tb), (Str.ofString "a", .str a ta), (Str.ofString "max_cost", .int mc v)])) (N : News g' L' s.heap news) (hk : cs.kind = .function) (hd : dp + 2 < recursionLimit) (hu : un + 20 < cLine) (hE : PassesOwn (model pw w) ((ktrTop dp un gd cn cs L ad ccd cl outer).deeper (envOf (Str.ofString "_levenshtein_distance") sc12 L' 99 (Value.ref 98))) (envOf (Str.ofString "_levenshtein_distance") sc12 L' 99 (Value.ref 98)) ek)
    (hret : ∀ t h' tk' m2, Fr g' L' h' m2 → News g' L' h' news → qk (.ret (.int (levS a b mc) t)) { s with heap := h', toks := tk' }) :
    wpAny (model pw w) ((ktrTop dp un gd cn cs L ad ccd cl outer).deeper (envOf (Str.ofString "_levenshtein_distance") sc12 L' 99 (Value.ref 98))) (execs (bo12.drop 12) (envOf (Str.ofString "_levenshtein_distance") sc12 L' 99 (Value.ref 98))) qk ek s := by
  obtain ⟨hp, gn, dr, tk, os⟩ := s
  dsimp only [kstB] at F N hret
  w_on
  k_with_none
  delta bo12
  simp only [List.drop_succ_cons, List.drop_zero]
  k_steps
  · have e : levS a b mc = mc + 1 := by unfold levS; rw [if_pos (by omega)]
    rw [e] at hret
    exact hret _ _ _ _ F N
  (with_reducible rename IsRange _ _ _ _ _ _ _ _ => hR); (with_reducible rename Fr _ _ _ _ => F2); (with_reducible rename News _ _ _ _ => N2)
  dsimp only at hR F2 N2 ⊢
  refine' Held.mk (list_step (n := a.length) rfl F2 N2 hR ?sm ?sz ?z ?_)
  case z => omega
  case sz => exact range2_size _
  case sm => exact range2_small _ (by omega)
  intro D us kk h3 tk3 F3 N3 hlt hi
  clear F2 N2 hR
  dsimp only
  k_steps
  (with_reducible rename Fr _ _ _ _ => F4); (with_reducible rename News _ _ _ _ => N4)
  refine Held.mk (For_invVF F4 rfl rfl ?_ (hE := hE))
  k_steps
  (with_reducible rename IsRange _ _ _ _ _ _ _ _ => hR); (with_reducible rename Fr _ _ _ _ => F5); (with_reducible rename News _ _ _ _ => N5)
  dsimp only at hR F5 N5 ⊢
  try clear F4 N4
  refine' Held.mk (kst_range (n := b.length) (σ := List Value × List Int × Nat × Int × Tok) (fun c => (D, W.listOf c.1.toArray c.2.2.1) :: news) (fun c => [(Str.ofString "result", .int c.2.2.2.1 c.2.2.2.2)]) (fun _ => True) [Str.ofString "bchar", Str.ofString "distance", Str.ofString "minimum", Str.ofString "index", Str.ofString "substitute", Str.ofString "insert_delete"] (fun pre c => OutOk a b mc c pre) (us, (rangeKs 0 a.length).map (fun i => 2 + i * 2), kk, 0, _) rfl hR (small_one (by omega) (by omega) (by omega) (by omega)) (by rw [PyProof.Rows.rangeSize_nat]; simp) F5 N5 trivial ?kk0 ?p0 ?turn ?done)
  case kk0 =>
    intro p hp
    rcases List.mem_cons.mp hp with rfl | hp
    · rfl
    · cases hp
  case p0 => exact ⟨by assumption, by rw [List.length_map, rangeKs_length], rfl, rfl⟩
  case turn =>
    intro c pre k t um hh tk own hk1 hk2 hoff hfacts hinv F6 N6
    dsimp only [kstB] at F6
    dsimp only [List.cons_append] at N6
    try clear F5 N5 hR
    obtain ⟨vv, row, nn, res, rt⟩ := c
    obtain ⟨g1, g2, g3, g4⟩ := hinv
    dsimp only at g1 g2 g3 g4 N6 F6 ⊢
    k_steps
    (with_reducible rename Fr _ _ _ _ => F7); (with_reducible rename News _ _ _ _ => N7)
    refine Held.mk (For_invVF F7 rfl rfl ?_ (hE := hE))
    k_steps
    (with_reducible rename IsRange _ _ _ _ _ _ _ _ => hR); (with_reducible rename Fr _ _ _ _ => F8); (with_reducible rename News _ _ _ _ => N8)
    dsimp only at hR F8 N8 ⊢
    try clear F6 N6 F7 N7
    have sbc : (Txt.item b k).length ≤ 1000 := by omega
    rename IntsAre vv row => gi
    refine' Held.mk (kst_range (n := a.length) (σ := List Value × List Int × (Int × Tok) × (Int × Tok) × (Int × Tok)) (fun c => (D, W.listOf c.1.toArray nn) :: (news ++ own)) (fun c => [(Str.ofString "distance", .int c.2.2.1.1 c.2.2.1.2), (Str.ofString "result", .int c.2.2.2.1.1 c.2.2.2.1.2), (Str.ofString "minimum", .int c.2.2.2.2.1 c.2.2.2.2.2)]) (fun _ => True) [Str.ofString "substitute", Str.ofString "insert_delete"] (fun pre c => InOk a (Txt.item b k) row k c pre) (vv, row, (k * 2, _), (k * 2, _), (9223372036854775807, _)) rfl hR (small_one (by omega) (by omega) (by omega) (by omega)) (by rw [PyProof.Rows.rangeSize_nat]; simp) F8 N8 trivial ?kk1 ?p1 ?turn1 ?done1)
    case kk1 =>
      intro p hp
      rcases List.mem_cons.mp hp with rfl | hp
      · rfl
      rcases List.mem_cons.mp hp with rfl | hp
      · rfl
      rcases List.mem_cons.mp hp with rfl | hp
      · rfl
      · cases hp
    case p1 => exact ⟨gi, g2, rfl⟩
    case turn1 =>
      intro c pr1 i t1 um1 hh1 tk1 own1 ik1 ik2 hoff1 hfacts1 hinv1 F9 N9
      dsimp only [kstB] at F9
      dsimp only [List.cons_append] at N9
      try clear F8 N8 hR
      obtain ⟨v1, row1, ⟨dist, dt⟩, ⟨res1, rt1⟩, ⟨mn, mt⟩⟩ := c
      obtain ⟨j1, j2, j3⟩ := hinv1
      dsimp only at j1 j2 j3 N9 F9 ⊢
      k_steps
      have sic : (Txt.item a i).length ≤ 1000 := by omega
      refine Held.mk ?_
      refine' c_subst (news := (D, W.listOf v1.toArray nn) :: (news ++ own ++ own1)) (Txt.item b k) (Txt.item a i) _ _ sbc sic _ _ _ _ _ _ _ _ _ _ _ _ _ _ _ _ _ ?B ?F ?X ?N ?T ?hk ?hd ?hu ?h1
      case B => k_asm
      case F => k_asm
      case X => k_asm
      case N => k_asm
      case T => k_asm
      case hk => exact rfl
      case hd => ktr_room
      case hu => ktr_units
      intro ts hs ks Fs Ns
      clear F9 N9
      have sb3 : 0 ≤ subCost (Txt.item b k) (Txt.item a i) ∧ subCost (Txt.item b k) (Txt.item a i) ≤ 2 := by
        unfold subCost
        split
        · decide
        · split <;> decide
      revert sb3
      generalize hsc : subCost (Txt.item b k) (Txt.item a i) = sc
      intro sb3
      dsimp only
      k_steps
      have hne1 : ∀ p ∈ news ++ own ++ own1, p.1 ≠ D := by
        intro p hp
        rcases List.mem_append.mp hp with h | h
        · rcases List.mem_append.mp h with h | h
          · exact Nat.ne_of_lt (hlt p h)
          · exact hoff p h D (.head _)
        · exact hoff1 p h D (.head _)
      (with_reducible rename Fr _ _ _ _ => Fa); (with_reducible rename News _ _ _ _ => Na)
      dsimp only at Fa Na ⊢
      have hX : (if dist + sc < (if row1.getD i.toNat 0 < res1 then row1.getD i.toNat 0 else res1) + 2 then dist + sc else (if row1.getD i.toNat 0 < res1 then row1.getD i.toNat 0 else res1) + 2) = min (min res1 (row1.getD i.toNat 0) + 2) (dist + sc) := by omega
      rw [hX] at Fa ⊢
      clear hX
      generalize hr : min (min res1 (row1.getD i.toNat 0) + 2) (dist + sc) = r at Fa ⊢
      generalize (if dist + sc < (if row1.getD i.toNat 0 < res1 then row1.getD i.toNat 0 else res1) + 2 then _ else _) = rt3 at Fa ⊢
      refine Held.mk (ksa_set Fa Na (.head hne1) j1 (by omega) (by omega) (by omega) ?_)
      intro h4 F4 N4 i4 l4 _
      clear Fa Na
      generalize v1.set i.toNat (Value.int _ _) = v4 at N4 i4
      have hS := in_snoc (i := i) j3
      unfold inStep at hS
      rw [hsc] at hS
      dsimp only at hS ⊢
      rw [hr] at hS
      k_steps
      · rename r < mn => hlt2
        rw [if_pos hlt2] at hS
        (with_reducible rename Fr _ _ _ _ => FE); (with_reducible rename News _ _ _ _ => NE)
        refine' Held.mk (kst_end (v4, row1.set i.toNat r, (row1.getD i.toNat 0, _), (r, rt3), (r, rt3)) FE NE ?n1 (fun p hp => .tail _ (List.mem_append_right _ hp)) rfl trivial ?n2 ?n3 ⟨i4, by rw [l4]; exact j2, hS⟩)
        case n1 => exact fun p hp => (List.mem_cons.mp hp).elim (fun e => e ▸ .head _) fun h => .tail _ (List.mem_append_left _ h)
        case n2 =>
          intro p hp
          rcases List.mem_cons.mp hp with rfl | hp
          · rfl
          rcases List.mem_cons.mp hp with rfl | hp
          · rfl
          rcases List.mem_cons.mp hp with rfl | hp
          · rfl
          · cases hp
        case n3 =>
          intro z z1 z2 z3
          simp only [List.forall_mem_cons, List.not_mem_nil, false_implies, implies_true, and_true] at z2
          simp only [List.contains_cons, List.contains_nil, Bool.or_false, Bool.or_eq_false_iff, beq_eq_false_iff_ne, ne_eq] at z3
          simp [z1, z2, z3]
      · rename ¬ r < mn => hlt2
        rw [if_neg hlt2] at hS
        (with_reducible rename Fr _ _ _ _ => FE); (with_reducible rename News _ _ _ _ => NE)
        refine' Held.mk (kst_end (v4, row1.set i.toNat r, (row1.getD i.toNat 0, _), (r, rt3), (mn, mt)) FE NE ?zn1 (fun p hp => .tail _ (List.mem_append_right _ hp)) rfl trivial ?zn2 ?zn3 ⟨i4, by rw [l4]; exact j2, hS⟩)
        case zn1 => exact fun p hp => (List.mem_cons.mp hp).elim (fun e => e ▸ .head _) fun h => .tail _ (List.mem_append_left _ h)
        case zn2 =>
          intro p hp
          rcases List.mem_cons.mp hp with rfl | hp
          · rfl
          rcases List.mem_cons.mp hp with rfl | hp
          · rfl
          rcases List.mem_cons.mp hp with rfl | hp
          · rfl
          · cases hp
        case zn3 =>
          intro z z1 z2 z3
          simp only [List.forall_mem_cons, List.not_mem_nil, false_implies, implies_true, and_true] at z2
          simp only [List.contains_cons, List.contains_nil, Bool.or_false, Bool.or_eq_false_iff, beq_eq_false_iff_ne, ne_eq] at z3
          simp [z1, z2, z3]
    case done1 =>
      intro c um1 hh1 tk1 hfacts1 hinv1 F9 N9
      dsimp only [kstB] at F9
      try clear F8 N8 hR
      obtain ⟨v1, row1, ⟨dist, dt⟩, ⟨res1, rt1⟩, ⟨mn, mt⟩⟩ := c
      obtain ⟨j1, j2, j3⟩ := hinv1
      dsimp only at j1 j2 j3 N9 F9 ⊢
      have hstep : outStep a b mc (some (row, res)) k = if mc < mn then none else some (row1, res1) := by
        unfold outStep
        rw [Option.bind_some]
        dsimp only
        rw [j3]
      k_steps
      · have e : levS a b mc = mc + 1 := by
          unfold levS
          rw [if_neg (by omega), out_stop (k := k) g3 g4 (by omega) hk2 (by rw [hstep, if_pos (by assumption)])]
        rw [e] at hret
        exact hret _ _ _ _ (by assumption) (cb_drop N9 (fun p hp => .tail _ (List.mem_append_left _ hp)))
      · (with_reducible rename Fr _ _ _ _ => FE); (with_reducible rename News _ _ _ _ => NE)
        refine' Held.mk (kst_end (v1, row1, nn, res1, rt1) FE NE ?y1 (fun p hp => .tail _ (List.mem_append_right _ hp)) rfl trivial ?y2 ?y3 ⟨j1, j2, ?y4, ?y5⟩)
        case y1 => exact fun p hp => (List.mem_cons.mp hp).elim (fun e => e ▸ .head _) fun h => .tail _ (List.mem_append_left _ h)
        case y2 =>
          intro p hp
          rcases List.mem_cons.mp hp with rfl | hp
          · rfl
          · cases hp
        case y3 =>
          intro z z1 z2 z3
          simp only [List.forall_mem_cons, List.not_mem_nil, false_implies, implies_true, and_true] at z2
          simp only [List.contains_cons, List.contains_nil, Bool.or_false, Bool.or_eq_false_iff, beq_eq_false_iff_ne, ne_eq] at z3
          simp [z1, z2, z3]
        case y4 =>
          rw [out_snoc g3, hstep, if_neg (by assumption)]
        case y5 =>
          rw [List.length_append, List.length_singleton, rk_snoc, ← g4]
          congr 2
          omega
  case done =>
    intro c um hh tk hfacts hinv F6 N6
    dsimp only [kstB] at F6
    try clear F5 N5 hR
    obtain ⟨vv, row, nn, res, rt⟩ := c
    obtain ⟨g1, g2, g3, g4⟩ := hinv
    dsimp only at g1 g2 g3 g4 N6 F6 ⊢
    have e : levS a b mc = res := by
      unfold levS
      rw [if_neg (by omega), g3]
    rw [e] at hret
    k_steps
    exact hret _ _ _ _ F6 (cb_drop N6 (fun p hp => .tail _ hp))
end
end Mine

namespace Mine
open PySem PySem.W PySem.Calls PyProof.Rows
set_option maxRecDepth 100000
set_option maxHeartbeats 4000000
variable {w : World} {p : Program} {loose : List Str} {mean : ExcName → Option Value} {mg mb : Str → Option Value} {news : List (Addr × Obj)}
section
local macro_rules | `(tactic| walk_at "execs cons If") => `(tactic| ((with_reducible show wpAny _ _ (execs (Stmt.If (PySem.Expr.Compare (PySem.Expr.BinOp _ _ _ _) _ _ _) _ _ _ :: _) _) _ _ _); refine held ?_))
local macro_rules | `(tactic| walk_at "call ref") => `(tactic| refine held ?_)
local macro_rules | `(tactic| walk_at "exec For") => `(tactic| refine held ?_)
local macro_rules | `(tactic| walk_at "exec For Name Call cons nil") => `(tactic| refine held ?_)
local macro_rules | `(tactic| walk_at "InvEndN") => `(tactic| refine held ?_)
local macro_rules | `(tactic| walk_at "getItem ref int") => `(tactic| refine held ?_)
local macro_rules | `(tactic| walk_at "setItem ref int") => `(tactic| refine held ?_)
theorem lev_rest (a b : Str) (mc : Int) (ta tb v : Tok) (la : a.length ≤ 20) (lb : b.length ≤ 20) (dp un : Nat) (gd : Option (List Code)) (cn : Str) (cs : Scope) (ad : Addr) (ccd : Value) (cl : List (Str × Addr)) (outer : List Env) (base g' : Heap) (L L' : Addr) (m' : Str → Option Value) (s : Shared) (qk : Flow → Shared → Prop) (ek : Value → Shared → Prop)
    (B : Below (ktrTop dp un gd cn cs L ad ccd cl outer) base (envX cn cs L ad ccd cl :: outer) g') (X : (K0 w.params).In g') (T : Top p loose mean mg mb g')
    (F : Fr g' L' s.heap (kstB m' [(Str.ofString "b", .str b tb), (Str.ofString "a", .str a ta), (Str.ofString "max_cost", .int mc v)])) (N : News g' L' s.heap news) (hk : cs.kind = .function) (hd : dp + 2 < recursionLimit) (hu : un + 20 < cLine) (hE : PassesOwn (model pw w) ((ktrTop dp un gd cn cs L ad ccd cl outer).deeper (envOf (Str.ofString "_levenshtein_distance") sc12 L' 99 (Value.ref 98))) (envOf (Str.ofString "_levenshtein_distance") sc12 L' 99 (Value.ref 98)) ek)
    (hret : ∀ t h' tk' m2, Fr g' L' h' m2 → News g' L' h' news → qk (.ret (.int (levR a b mc) t)) { s with heap := h', toks := tk' }) :
    wpAny (model pw w) ((ktrTop dp un gd cn cs L ad ccd cl outer).deeper (envOf (Str.ofString "_levenshtein_distance") sc12 L' 99 (Value.ref 98))) (execs (bo12.drop 9) (envOf (Str.ofString "_levenshtein_distance") sc12 L' 99 (Value.ref 98))) qk ek s := by
  obtain ⟨hp, gn, dr, tk, os⟩ := s
  dsimp only [kstB] at F N hret
  w_on
  k_with_none
  delta bo12
  simp only [List.drop_succ_cons, List.drop_zero]
  have hL : ∀ x : Str, x.length = 0 ∨ ¬ (x.length : Int) = 0 := fun x => by omega
  k_steps
  · (with_reducible rename Fr _ _ _ _ => F5); (with_reducible rename News _ _ _ _ => N5)
    try dsimp only at F5 N5
    have F6 := fr_kst (ps := [(Str.ofString "b", .str a ta), (Str.ofString "a", .str b tb), (Str.ofString "max_cost", .int mc v)]) F5 (by simp only [List.forall_mem_cons, List.not_mem_nil, false_implies, implies_true, and_true]; exact ⟨rfl, rfl, rfl⟩)
    refine Held.mk (lev_core b a mc tb ta v lb la dp un gd cn cs ad ccd cl outer base g' L L' _ _ _ _ B X T F6 (cb_drop N5 (fun p hp => .tail _ hp)) hk hd hu hE (fun t h' tk' m2 F7 N7 => ?_))
    have e : levR a b mc = levS b a mc := by
      unfold levR
      rw [if_neg (by omega), if_pos (by omega)]
    rw [e] at hret
    exact hret _ _ _ _ F7 N7
  · have F6 := fr_kst (ps := [(Str.ofString "b", .str b tb), (Str.ofString "a", .str a ta), (Str.ofString "max_cost", .int mc v)]) F (by simp only [List.forall_mem_cons, List.not_mem_nil, false_implies, implies_true, and_true]; exact ⟨rfl, rfl, rfl⟩)
    refine Held.mk (lev_core a b mc ta tb v la lb dp un gd cn cs ad ccd cl outer base g' L L' _ _ _ _ B X T F6 N hk hd hu hE (fun t h' tk' m2 F7 N7 => ?_))
    have e : levR a b mc = levS a b mc := by
      unfold levR
      rw [if_neg (by omega), if_neg (by omega)]
    rw [e] at hret
    exact hret _ _ _ _ F7 N7
  all_goals
    have e : levR a b mc = 2 * ((a.length : Int) + b.length) := by
      unfold levR
      rw [if_pos (by omega)]
    rw [e] at hret
    exact hret _ _ _ _ F N
end
end Mine

namespace Mine
open PySem PySem.W PySem.Calls PyProof.Rows
set_option maxRecDepth 100000
set_option maxHeartbeats 4000000
variable {w : World} {p : Program} {loose : List Str} {mean : ExcName → Option Value} {mg mb : Str → Option Value} {news : List (Addr × Obj)}
noncomputable def Mark0 : Prop := True
section
local macro_rules | `(tactic| walk_at "subscriptTail Name Slice str ref") => `(tactic| first | ((with_reducible rename Mark0 => mk0); refine held ?_) | (exfalso; omega))
local macro_rules | `(tactic| walk_at "execs cons If") => `(tactic| refine held ?_)
local macro_rules | `(tactic| walk_at "call ref") => `(tactic| refine held ?_)
local macro_rules | `(tactic| walk_at "exec For") => `(tactic| refine held ?_)
local macro_rules | `(tactic| walk_at "exec For Name Call cons nil") => `(tactic| refine held ?_)
local macro_rules | `(tactic| walk_at "InvEndN") => `(tactic| refine held ?_)
local macro_rules | `(tactic| walk_at "getItem ref int") => `(tactic| refine held ?_)
local macro_rules | `(tactic| walk_at "setItem ref int") => `(tactic| refine held ?_)
theorem lev_mid (a b : Str) (mc : Int) (post : Int) (ta tb tp v : Tok) (la : a.length ≤ 20) (lb : b.length ≤ 20) (dp un : Nat) (gd : Option (List Code)) (cn : Str) (cs : Scope) (ad : Addr) (ccd : Value) (cl : List (Str × Addr)) (outer : List Env) (base g' : Heap) (L L' : Addr) (m' : Str → Option Value) (s : Shared) (qk : Flow → Shared → Prop) (ek : Value → Shared → Prop)
    (B : Below (ktrTop dp un gd cn cs L ad ccd cl outer) base (envX cn cs L ad ccd cl :: outer) g') (X : (K0 w.params).In g') (T : Top p loose mean mg mb g')
    (F : Fr g' L' s.heap (kstB m' [(Str.ofString "post", .int post tp), (Str.ofString "b", .str b tb), (Str.ofString "a", .str a ta), (Str.ofString "max_cost", .int mc v)])) (N : News g' L' s.heap news) (hk : cs.kind = .function) (hd : dp + 2 < recursionLimit) (hu : un + 20 < cLine) (hE : PassesOwn (model pw w) ((ktrTop dp un gd cn cs L ad ccd cl outer).deeper (envOf (Str.ofString "_levenshtein_distance") sc12 L' 99 (Value.ref 98))) (envOf (Str.ofString "_levenshtein_distance") sc12 L' 99 (Value.ref 98)) ek)
    (k0 : post ≤ 0) (k1 : -post ≤ a.length) (k2 : -post ≤ b.length) (hret : ∀ t h' tk' m2, Fr g' L' h' m2 → News g' L' h' news → qk (.ret (.int (levR ⟨(a.cps.toList.reverse.drop (-post).toNat).reverse.toArray⟩ ⟨(b.cps.toList.reverse.drop (-post).toNat).reverse.toArray⟩ mc) t)) { s with heap := h', toks := tk' }) :
    wpAny (model pw w) ((ktrTop dp un gd cn cs L ad ccd cl outer).deeper (envOf (Str.ofString "_levenshtein_distance") sc12 L' 99 (Value.ref 98))) (execs (bo12.drop 7) (envOf (Str.ofString "_levenshtein_distance") sc12 L' 99 (Value.ref 98))) qk ek s := by
  obtain ⟨hp, gn, dr, tk, os⟩ := s
  dsimp only [kstB] at F N hret
  w_on
  k_with_none
  delta bo12
  simp only [List.drop_succ_cons, List.drop_zero]
  by_cases hz : post = 0
  · subst hz
    have mk0 : Mark0 := trivial
    have ez : ∀ x : Str, (⟨(x.cps.toList.reverse.drop (-(0 : Int)).toNat).reverse.toArray⟩ : Str) = x := fun x => by
      show (⟨(x.cps.toList.reverse.drop 0).reverse.toArray⟩ : Str) = x
      rw [List.drop_zero, List.reverse_reverse]
    rw [ez, ez] at hret
    k_steps
    (with_reducible rename Fr _ _ _ _ => F6); (with_reducible rename News _ _ _ _ => N6)
    refine Held.mk ?_
    with_unfolding_all refine' slice_strN_nn_len F6 N6 ?_
    intro h7 t7 k7 F7 N7 _
    clear F6 N6
    dsimp only
    rw [slice_all]
    k_steps
    (with_reducible rename Fr _ _ _ _ => F8); (with_reducible rename News _ _ _ _ => N8)
    refine Held.mk ?_
    with_unfolding_all refine' slice_strN_nn_len F8 N8 ?_
    intro h9 t9 k9 F9 N9 _
    clear F8 N8
    dsimp only
    rw [slice_all]
    k_steps
    (with_reducible rename Fr _ _ _ _ => FE); (with_reducible rename News _ _ _ _ => NE)
    refine Held.mk (lev_rest a b mc _ _ v la lb dp un gd cn cs ad ccd cl outer base g' L L' _ _ _ _ B X T (fr_kst FE (by simp only [List.forall_mem_cons, List.not_mem_nil, false_implies, implies_true, and_true]; exact ⟨rfl, rfl, rfl⟩)) NE hk hd hu hE (fun t h' tk' m2 F7 N7 => ?_))
    exact hret _ _ _ _ F7 N7
  · have hz2 : post < 0 := by omega
    rw [← slice_neg hz2 (by omega), ← slice_neg hz2 (by omega)] at hret
    have l1 := slice_neg_len (x := a) hz2 (by omega)
    have l2 := slice_neg_len (x := b) hz2 (by omega)
    have l1' : (Txt.slice a none (some post)).length ≤ 20 := by omega
    have l2' : (Txt.slice b none (some post)).length ≤ 20 := by omega
    k_steps
    (with_reducible rename Fr _ _ _ _ => FE); (with_reducible rename News _ _ _ _ => NE)
    refine Held.mk (lev_rest (Txt.slice a none (some post)) (Txt.slice b none (some post)) mc _ _ v l1' l2' dp un gd cn cs ad ccd cl outer base g' L L' _ _ _ _ B X T (fr_kst FE (by simp only [List.forall_mem_cons, List.not_mem_nil, false_implies, implies_true, and_true]; exact ⟨rfl, rfl, rfl⟩)) NE hk hd hu hE (fun t h' tk' m2 F7 N7 => ?_))
    exact hret _ _ _ _ F7 N7
end
end Mine

namespace Mine
open PySem PySem.W PySem.Calls PyProof.Rows
set_option maxRecDepth 100000
set_option maxHeartbeats 4000000
variable {w : World} {p : Program} {loose : List Str} {mean : ExcName → Option Value} {mg mb : Str → Option Value} {news : List (Addr × Obj)}
section
local macro_rules | `(tactic| walk_at "subscriptTail Name Slice str ref") => `(tactic| first | ((with_reducible rename Mark0 => mk0); refine held ?_) | (exfalso; omega))
local macro_rules | `(tactic| walk_at "execs cons Assign cons") => `(tactic| ((with_reducible rename Mark0 => mk0); refine held ?_))
local macro_rules | `(tactic| walk_at "exec While") => `(tactic| refine held ?_)
local macro_rules | `(tactic| walk_at "exec While Compare") => `(tactic| refine held ?_)
local macro_rules | `(tactic| walk_at "exec While BoolOp") => `(tactic| refine held ?_)
local macro_rules | `(tactic| walk_at "last exec While") => `(tactic| refine held ?_)
local macro_rules | `(tactic| walk_at "KswPost") => `(tactic| refine held ?_)
local macro_rules | `(tactic| walk_at "KswEnd") => `(tactic| refine held ?_)
local macro_rules | `(tactic| walk_at "call ref") => `(tactic| refine held ?_)
local macro_rules | `(tactic| walk_at "exec For") => `(tactic| refine held ?_)
local macro_rules | `(tactic| walk_at "exec For Name Call cons nil") => `(tactic| refine held ?_)
local macro_rules | `(tactic| walk_at "InvEndN") => `(tactic| refine held ?_)
theorem c_lev (a b : Str) (mc : Int) (t u v : Tok) (ha : a.length ≤ 20) (hb : b.length ≤ 20) : Cl w p loose mean mg mb 99 news 2 20 [.str a t, .str b u, .int mc v] (fun t => .int (levF a b mc) t) := by
  unfold Cl; w_on; dsimp only [CbRet]
  intro dp un gd cn cs ad ccd cl outer A₀ base h₀ L m s Q E B F X N T hk hd hu hret
  k_with_none
  refine wpAny_call ?_
  k_dflt cell_enter
  k_steps
  · (with_reducible rename (a == b) = true => hab)
    have e : levF a b mc = 0 := by unfold levF; rw [if_pos (eq_of_beq hab)]
    rw [e] at hret
    exact hret _ _ _ (by assumption) (by assumption)
  (with_reducible rename (a == b) = false => hab)
  have hne : a ≠ b := ne_of_beq_false hab
  (with_reducible rename Fr _ _ _ _ => F1); (with_reducible rename News _ _ _ _ => N1)
  dsimp only at F1 N1
  refine' Held.mk (while_cut (σ := Int × Tok) (fun _ => news) (fun c => [(Str.ofString "pre", .int c.1 c.2)]) [] (fun c => 0 ≤ c.1 ∧ StripAt a.cps.toList b.cps.toList c.1.toNat) (fun c => strip a.cps.toList b.cps.toList = (a.cps.toList.drop c.1.toNat, b.cps.toList.drop c.1.toNat)) (fun c => (20 - c.1).toNat) (0, _) F1 N1 ?kk ?pp ?turn ?done)
  case kk =>
    intro p hp
    rcases List.mem_cons.mp hp with rfl | hp
    · rfl
    · cases hp
  case pp => exact ⟨Int.le_refl 0, StripAt.zero _ _⟩
  case turn =>
    intro c u1 h tk hinv F3 N3
    dsimp only [kstB] at F3 ⊢
    clear F1 N1
    obtain ⟨pre, pt⟩ := c
    dsimp only at F3 N3 hinv ⊢
    obtain ⟨g0, sa⟩ := hinv
    have g1 : pre ≤ a.length := by have := sa.1; rw [len_list] at this; omega
    have g2 : pre ≤ b.length := by have := sa.2.1; rw [len_list] at this; omega
    k_steps
    · (with_reducible rename News _ _ _ _ => NE); (with_reducible rename Fr _ _ _ _ => FE)
      obtain ⟨i1, j1⟩ := item_list (x := a) g0 (by omega)
      obtain ⟨i2, j2⟩ := item_list (x := b) g0 (by omega)
      (with_reducible rename (Txt.item a pre == Txt.item b pre) = true => hq)
      rw [j1, j2] at hq
      have hq2 := ones_inj (eq_of_beq hq)
      refine' Held.mk (ksw_end (_, _) FE NE (fun p hp => hp) trivial ?kk ?rr ⟨?_, ?pp⟩ ?mm)
      case kk =>
        intro p hp
        rcases List.mem_cons.mp hp with rfl | hp
        · rfl
        · cases hp
      case rr => ksw_same
      case mm => dsimp only; omega
      case pp =>
        have e : (pre + 1).toNat = pre.toNat + 1 := by omega
        dsimp only
        rw [e]
        exact sa.next i1 i2 hq2
      dsimp only; omega
    all_goals first
      | assumption
      | (refine sa.out ?_; rw [len_list, len_list]; omega)
      | (obtain ⟨i1, j1⟩ := item_list (x := a) g0 (by omega)
         obtain ⟨i2, j2⟩ := item_list (x := b) g0 (by omega)
         (with_reducible rename (Txt.item a pre == Txt.item b pre) = false => hq)
         rw [j1, j2] at hq
         refine sa.ne i1 i2 (fun e => ?_)
         rw [e] at hq
         exact absurd hq (by simp))
  case done =>
    intro c u1 h tk hinv hR F3 N3
    dsimp only [kstB] at F3 ⊢
    clear F1 N1
    obtain ⟨pre, pt⟩ := c
    dsimp only at F3 N3 hinv hR ⊢
    obtain ⟨g0, sa⟩ := hinv
    have g1 : pre ≤ a.length := by have := sa.1; rw [len_list] at this; omega
    have g2 : pre ≤ b.length := by have := sa.2.1; rw [len_list] at this; omega
    k_steps
    (with_reducible rename Fr _ _ _ _ => F4); (with_reducible rename News _ _ _ _ => N4)
    dsimp only at F4 N4
    clear g1 g2
    generalize ea : Txt.slice a (some pre) none = a1 at F4
    generalize eb : Txt.slice b (some pre) none = b1 at F4
    rw [slice_from g0] at ea eb
    have hA : a1.cps.toList = a.cps.toList.drop pre.toNat := by rw [← ea]
    have hB : b1.cps.toList = b.cps.toList.drop pre.toNat := by rw [← eb]
    have la : a1.length ≤ 20 := by rw [← len_list, hA, List.length_drop, len_list]; omega
    have lb : b1.length ≤ 20 := by rw [← len_list, hB, List.length_drop, len_list]; omega
    rw [← hA, ← hB] at hR
    clear ea eb
    refine' Held.mk (while_cut (σ := Int × Tok) (fun _ => news) (fun c => [(Str.ofString "post", .int c.1 c.2)]) [] (fun c => c.1 ≤ 0 ∧ StripAt a1.cps.toList.reverse b1.cps.toList.reverse (-c.1).toNat) (fun c => strip a1.cps.toList.reverse b1.cps.toList.reverse = (a1.cps.toList.reverse.drop (-c.1).toNat, b1.cps.toList.reverse.drop (-c.1).toNat)) (fun c => (20 + c.1).toNat) (0, _) F4 N4 ?kk ?pp ?turn ?done)
    case kk =>
      intro p hp
      rcases List.mem_cons.mp hp with rfl | hp
      · rfl
      · cases hp
    case pp => exact ⟨Int.le_refl 0, StripAt.zero _ _⟩
    case turn =>
      intro c u2 h tk hinv F5 N5
      dsimp only [kstB] at F5 ⊢
      clear F4 N4
      obtain ⟨post, pt2⟩ := c
      dsimp only at F5 N5 hinv ⊢
      obtain ⟨k0, sb⟩ := hinv
      have k1 : -post ≤ a1.length := by have := sb.1; rw [List.length_reverse, len_list] at this; omega
      have k2 : -post ≤ b1.length := by have := sb.2.1; rw [List.length_reverse, len_list] at this; omega
      have q1 : post ≠ 0 → ((Txt.slice a1 none (some post)).length : Int) = a1.length + post := fun h => slice_neg_len (by omega) (by omega)
      have q2 : post ≠ 0 → ((Txt.slice b1 none (some post)).length : Int) = b1.length + post := fun h => slice_neg_len (by omega) (by omega)
      by_cases hz : post = 0
      · subst hz
        have mk0 : Mark0 := trivial
        k_steps
        (with_reducible rename Fr _ _ _ _ => F6); (with_reducible rename News _ _ _ _ => N6)
        refine Held.mk ?_
        with_unfolding_all refine' slice_strN_nn_len F6 N6 ?_
        intro h7 t7 k7 F7 N7 _
        clear F6 N6
        dsimp only
        rw [slice_all]
        k_steps
        · (with_reducible rename Fr _ _ _ _ => F8); (with_reducible rename News _ _ _ _ => N8)
          refine Held.mk ?_
          with_unfolding_all refine' slice_strN_nn_len F8 N8 ?_
          intro h9 t9 k9 F9 N9 _
          clear F8 N8
          dsimp only
          rw [slice_all]
          k_steps
          · (with_reducible rename News _ _ _ _ => NE); (with_reducible rename Fr _ _ _ _ => FE)
            obtain ⟨i1, j1⟩ := item_neg (x := a1) (i := 0 - 1) (by omega) (by omega)
            obtain ⟨i2, j2⟩ := item_neg (x := b1) (i := 0 - 1) (by omega) (by omega)
            (with_reducible rename (Txt.item a1 _ == Txt.item b1 _) = true => hq)
            rw [j1, j2] at hq
            have hq2 := ones_inj (eq_of_beq hq)
            have en : (-(0 - 1) - 1).toNat = (-0).toNat := by omega
            simp only [en] at hq2 i1 i2
            refine' Held.mk (ksw_end (_, _) FE NE (fun p hp => hp) trivial ?kk ?rr ⟨?_, ?pp⟩ ?mm)
            case kk =>
              intro p hp
              rcases List.mem_cons.mp hp with rfl | hp
              · rfl
              · cases hp
            case rr => ksw_same
            case mm => dsimp only; omega
            case pp =>
              have e : (-(0 - 1)).toNat = (-0).toNat + 1 := by omega
              dsimp only
              rw [e]
              exact sb.next i1 i2 hq2
            dsimp only; omega
          all_goals first
            | assumption
            | (refine sb.out ?_; rw [List.length_reverse, List.length_reverse, len_list, len_list]; omega)
            | (obtain ⟨i1, j1⟩ := item_neg (x := a1) (i := 0 - 1) (by omega) (by omega)
               obtain ⟨i2, j2⟩ := item_neg (x := b1) (i := 0 - 1) (by omega) (by omega)
               (with_reducible rename (Txt.item a1 _ == Txt.item b1 _) = false => hq)
               rw [j1, j2] at hq
               have en : (-(0 - 1) - 1).toNat = (-0).toNat := by omega
               simp only [en] at hq i1 i2
               refine sb.ne i1 i2 (fun e => ?_)
               rw [e] at hq
               exact absurd hq (by simp))
        all_goals first
          | assumption
          | (refine sb.out ?_; rw [List.length_reverse, List.length_reverse, len_list, len_list]; omega)
          | (obtain ⟨i1, j1⟩ := item_neg (x := a1) (i := 0 - 1) (by omega) (by omega)
             obtain ⟨i2, j2⟩ := item_neg (x := b1) (i := 0 - 1) (by omega) (by omega)
             (with_reducible rename (Txt.item a1 _ == Txt.item b1 _) = false => hq)
             rw [j1, j2] at hq
             have en : (-(0 - 1) - 1).toNat = (-0).toNat := by omega
             simp only [en] at hq i1 i2
             refine sb.ne i1 i2 (fun e => ?_)
             rw [e] at hq
             exact absurd hq (by simp))
      · k_steps
        · (with_reducible rename News _ _ _ _ => NE); (with_reducible rename Fr _ _ _ _ => FE)
          obtain ⟨i1, j1⟩ := item_neg (x := a1) (i := post - 1) (by omega) (by omega)
          obtain ⟨i2, j2⟩ := item_neg (x := b1) (i := post - 1) (by omega) (by omega)
          (with_reducible rename (Txt.item a1 _ == Txt.item b1 _) = true => hq)
          rw [j1, j2] at hq
          have hq2 := ones_inj (eq_of_beq hq)
          have en : (-(post - 1) - 1).toNat = (-post).toNat := by omega
          simp only [en] at hq2 i1 i2
          refine' Held.mk (ksw_end (_, _) FE NE (fun p hp => hp) trivial ?kk ?rr ⟨?_, ?pp⟩ ?mm)
          case kk =>
            intro p hp
            rcases List.mem_cons.mp hp with rfl | hp
            · rfl
            · cases hp
          case rr => ksw_same
          case mm => dsimp only; omega
          case pp =>
            have e : (-(post - 1)).toNat = (-post).toNat + 1 := by omega
            dsimp only
            rw [e]
            exact sb.next i1 i2 hq2
          dsimp only; omega
        all_goals first
          | assumption
          | (refine sb.out ?_; rw [List.length_reverse, List.length_reverse, len_list, len_list]; omega)
          | (obtain ⟨i1, j1⟩ := item_neg (x := a1) (i := post - 1) (by omega) (by omega)
             obtain ⟨i2, j2⟩ := item_neg (x := b1) (i := post - 1) (by omega) (by omega)
             (with_reducible rename (Txt.item a1 _ == Txt.item b1 _) = false => hq)
             rw [j1, j2] at hq
             have en : (-(post - 1) - 1).toNat = (-post).toNat := by omega
             simp only [en] at hq i1 i2
             refine sb.ne i1 i2 (fun e => ?_)
             rw [e] at hq
             exact absurd hq (by simp))
    case done =>
      intro c u2 h tk hinv hR2 F5 N5
      dsimp only [kstB] at F5 ⊢
      clear F4 N4
      obtain ⟨post, pt2⟩ := c
      dsimp only at F5 N5 hinv hR2 ⊢
      obtain ⟨k0, sb⟩ := hinv
      have k1 : -post ≤ a1.length := by have := sb.1; rw [List.length_reverse, len_list] at this; omega
      have k2 : -post ≤ b1.length := by have := sb.2.1; rw [List.length_reverse, len_list] at this; omega
      have mk0 : Mark0 := trivial
      k_steps
      try dsimp only at F5
      refine Held.mk (lev_mid a1 b1 mc post _ _ _ v la lb dp un gd cn cs ad ccd cl outer base _ L _ _ _ _ _ (by k_asm) (by k_asm) (by k_asm) (fr_kst (ps := [(Str.ofString "post", .int post _), (Str.ofString "b", .str b1 _), (Str.ofString "a", .str a1 _), (Str.ofString "max_cost", .int mc v)]) F5 (by simp only [List.forall_mem_cons, List.not_mem_nil, false_implies, implies_true, and_true]; exact ⟨rfl, rfl, rfl, rfl⟩)) N5 hk hd hu (by passes_own) k0 k1 k2 (fun t h' tk' m2 F7 N7 => ?_))
      have e : levF a b mc = levR ⟨(a1.cps.toList.reverse.drop (-post).toNat).reverse.toArray⟩ ⟨(b1.cps.toList.reverse.drop (-post).toNat).reverse.toArray⟩ mc := by
        unfold levF
        rw [if_neg hne]
        dsimp only
        rw [hR]
        dsimp only
        rw [hR2]
      rw [← e]
      k_steps
      exact hret _ _ _ (by assumption) (by assumption)
end
end Mine

namespace Mine
open PySem PySem.W PySem.Calls PyProof.Rows
set_option maxRecDepth 100000
section
variable {prog : Program} {w : World} {A : Around} {E : Value → Shared → Prop} {s : Shared} {env : Env} {h₀ : Heap} {x : Str} {body : List Stmt} {Q : Flow → Shared → Prop}
/-- the end of a turn of a loop whose state's objects may lie at new addresses -/
noncomputable def MvEnd (h₀ : Heap) (L : Addr) {σ : Type} (Led : σ → List (Addr × Obj)) (ps : σ → List (Str × Value)) (x : Str) (stored : List Str) (m₀ : Str → Option Value) (P : σ → Prop) (I : Addr) (oI : Obj) (s₁ s₂ : Shared) : Prop :=
  ∃ (c : σ) (h' : Heap) (tk : Nat) (m' : Str → Option Value) (news' : List (Addr × Obj)), s₂ = { s₁ with heap := h', toks := tk } ∧ Fr h₀ L h' m' ∧ News h₀ L h' news' ∧ (∀ p ∈ Led c, p ∈ news') ∧ ((I, oI) ∈ news') ∧ (∀ p ∈ Led c, p.1 ≠ I) ∧
    (∀ p ∈ ps c, m' p.1 = some p.2) ∧ (∀ z, z ≠ x → (∀ p ∈ ps c, z ≠ p.1) → stored.contains z = false → m' z = m₀ z) ∧ P c
theorem kmv_range {σ : Type} {r : Addr} {b₀ : Int} {t₀ u₀ v₀ : Tok} {n : Nat} {m₀ : Str → Option Value} (Led : σ → List (Addr × Obj)) (ps : σ → List (Str × Value)) (stored : List Str) (P : Nat → σ → Prop) (c₀ : σ)
    (hh : A.handled = none) (hr : IsRange s.heap r 0 b₀ 1 t₀ u₀ v₀) (hsmall : Builtin.Range.small 0 b₀ 1 = true) (hn : Builtin.Range.rangeSize 0 b₀ 1 = (n : Int)) (F : Fr h₀ env.locals s.heap m₀) (N : News h₀ env.locals s.heap (Led c₀)) (hk : ∀ p ∈ ps c₀, m₀ p.1 = some p.2) (hp : P 0 c₀)
    (turn : ∀ (c : σ) (i : Nat) t (u : Str → Option Value) h tk I oI (R : Flow → Shared → Prop), i < n → P i c → (∀ p ∈ Led c, p.1 ≠ I) →
      Fr h₀ env.locals h (fun y => if y = x then some (.int (i : Int) t) else kstB (fun z => if stored.contains z then u z else m₀ z) (ps c) y) → News h₀ env.locals h ((I, oI) :: Led c) →
      (∀ s₂, MvEnd h₀ env.locals Led ps x stored m₀ (P (i + 1)) I oI { s with heap := h, toks := tk } s₂ → R .next s₂) → (∀ v s₂, Q (.ret v) s₂ → R (.ret v) s₂) →
      wpAny (model prog w) A (execs body env) R E { s with heap := h, toks := tk })
    (done : ∀ (c : σ) (u : Str → Option Value) h tk, P n c → Fr h₀ env.locals h (fun y => if y = x then u y else kstB (fun z => if stored.contains z then u z else m₀ z) (ps c) y) → News h₀ env.locals h (Led c) → Q .next { s with heap := h, toks := tk }) :
    wpAny (model prog w) A (pyIter (.ref r)) (fun it s₂ => LoopAtV prog w A h₀ env x body Q E it s₂) E s := by
  refine wpAny_pyIter_range hr hsmall ?_
  have W : Walks prog w A s.heap.objs.size [s.heap.objs.size] [s.heap.objs.size] n (fun i v => i < n ∧ ∃ t, v = .int (0 + i * 1) t)
      (fun i h => IsRangeIter h s.heap.objs.size (0 + (i : Nat) * 1) ((n : Int) - (i : Nat)) 1) := (Walks.range hh _ 0 1 n).bound
  refine ⟨s.heap.objs.size, _, _, n, _, _, m₀, Led c₀, fun i m nx => ∃ c, nx = Led c ∧ (∀ p ∈ ps c, m p.1 = some p.2) ∧ (∀ z, z ≠ x → (∀ p ∈ ps c, z ≠ p.1) → stored.contains z = false → m z = m₀ z) ∧ P i c, rfl, W, ?_, ?_, ?_, (by show IsRangeIter _ _ _ _ _; rw [hn]; simpa using Heap.get?_push_size _ rfl), F.push _, (fun p hp => ⟨Heap.get?_push_of_some _ (N p hp).1, (N p hp).2⟩), ⟨c₀, rfl, hk, fun _ _ _ _ => rfl, hp⟩, ?_, ?_⟩
  · intro hm
    exact absurd F.ns.lt ((List.mem_singleton.mp hm) ▸ Nat.lt_irrefl _)
  · intro b hb
    rw [List.mem_singleton.mp hb]
    exact next_is_new F
  · intro p hp hI
    exact absurd (Heap.lt_size (N p hp).1) ((List.mem_singleton.mp hI) ▸ Nat.lt_irrefl _)
  · rintro i v m₁ nx s₁ own ⟨h, tk, rfl⟩ hin ⟨_, t, rfl⟩ ⟨c, rfl, h1, h2, hp'⟩ hoff hown hlive hall hst F₁ N₁
    have e1 : 0 + (i : Int) * 1 = (i : Int) := by omega
    rw [e1] at F₁
    have hI : ∃ o, (s.heap.objs.size, o) ∈ own := ⟨_, hall s.heap.objs.size (List.mem_singleton.mpr rfl) (next_is_new F) _ hst⟩
    obtain ⟨oI, hI⟩ := hI
    have ho : ∀ p ∈ own, p = (s.heap.objs.size, oI) := by
      intro p hp
      have e2 := List.mem_singleton.mp (hown p hp)
      have e3 := hlive p hp
      have e4 := hlive _ hI
      dsimp only at e3 e4
      rw [e2, e4] at e3
      obtain ⟨p1, p2⟩ := p
      dsimp only at e2 e3
      rw [e2, Option.some.inj e3]
    have N₂ : News h₀ env.locals h ((s.heap.objs.size, oI) :: Led c) := fun p hp => N₁ p ((List.mem_cons.mp hp).elim (fun e => e ▸ List.mem_append_left _ hI) fun h => List.mem_append_right _ h)
    refine turn c i t m₁ h tk s.heap.objs.size oI _ hin hp' (fun p hp e => hoff p hp (List.mem_singleton.mpr e)) (kst_fr h1 h2 F₁) N₂ ?_ ?_
    · rintro s₂ ⟨c', h', tk', m', news', rfl, F', N', hn', ho', hI', h1', h2', hp''⟩
      refine .next ⟨rfl, h', tk', m', Led c', rfl, F', fun p hp => N' p ((List.mem_append.mp hp).elim (fun h => (ho p h) ▸ ho') (hn' p)), fun p hp hq => hI' p hp (List.mem_singleton.mp hq), c', rfl, h1', h2', hp''⟩
    · exact fun v s₂ q => .ret q
  · rintro h' tk m' news' F' N' _ ⟨c, rfl, h1, h2, hp'⟩
    exact done c m' h' tk hp' (kst_frOut h1 h2 F') N'
end
end Mine

namespace Mine
open PySem PySem.W PySem.Calls PyProof.Rows PyProof.V PySem.Spec
set_option maxRecDepth 100000
theorem kes_canLay : ∀ ns : List Str, ns.all PyData.strOk = true → PyData.canLayAll0 (ns.map PyData.str) = true
  | [], _ => rfl
  | x :: r, h => by
    rw [List.all_cons, Bool.and_eq_true] at h
    simp [PyData.canLayAll0, PyData.canLay0, kes_canLay r h.2, h.1]
theorem kes_depth : ∀ ns : List Str, PyData.depthAll (ns.map PyData.str) = 0
  | [] => rfl
  | _ :: r => by simp [PyData.depthAll, PyData.depth, kes_depth r]
theorem kes_shaped (ns : List Str) (h : ns.all PyData.strOk = true) : SeqAt.shaped (.list (ns.map PyData.str)) = true := by
  simp [SeqAt.shaped, PyData.canLay0, PyData.depth, kes_canLay ns h, kes_depth]
theorem kes_sameAll : ∀ ns ms : List Str, PySem.Spec.sameAll (ns.map PyData.str) (ms.map PyData.str) = decide (ns = ms)
  | [], [] => by simp [PySem.Spec.sameAll]
  | [], _ :: _ => by simp [PySem.Spec.sameAll]
  | _ :: _, [] => by simp [PySem.Spec.sameAll]
  | a :: r, b :: t => by
    simp only [List.map_cons, PySem.Spec.sameAll, PySem.Spec.same, kes_sameAll r t]
    by_cases h : a = b <;> by_cases h' : r = t <;> simp [h, h']
theorem kes_same (ns ms : List Str) : PySem.Spec.same (.list (ns.map PyData.str)) (.list (ms.map PyData.str)) = decide (ns = ms) := by
  simp only [PySem.Spec.same]; exact kes_sameAll ns ms
section
variable {prog : Program} {w : World} {A : Around} {E : Value → Shared → Prop} {s : Shared} {a b : Addr} {xs ys : List Value} {ns ms : List Str} {Q : Value → Shared → Prop}
theorem kes_ne (ha : s.heap.IsList a xs.toArray) (hb : s.heap.IsList b ys.toArray) (hi : StrsAre xs ns) (hj : StrsAre ys ms) (on : ns.all PyData.strOk = true) (om : ms.all PyData.strOk = true) (hu : A.units + 64 < cLine) (h : Q (.bool (!decide (ns = ms))) s) :
    wpAny (model prog w) A (compareOp .NotEq (.ref a) (.ref b)) Q E s :=
  ne_dataH_same (reads_newData ha hi.carried) (reads_newData hb hj.carried) (kes_shaped _ on) (kes_shaped _ om) hu (SeqAt.noMix_of_shape (.list .str) rfl _ _ (list_map_has fun _ => rfl) (list_map_has fun _ => rfl)) (by rw [kes_same]; exact h)
end
end Mine

namespace Mine
open PySem PySem.W PySem.Calls PyProof.Rows
set_option maxRecDepth 100000
set_option maxHeartbeats 4000000
variable {w : World} {p : Program} {loose : List Str} {mean : ExcName → Option Value} {mg mb : Str → Option Value}
structure LastOk (x : Str) : Prop where
  e1 : levF (Txt.slice x none (some 3) ++ Str.ofString "xyaB") (Str.ofString "x" ++ Txt.slice x none (some 3) ++ Str.ofString "zAb") 8 = 8
  e2 : levF (Txt.slice x none (some 3) ++ Str.ofString "xyaB") (Str.ofString "x" ++ Txt.slice x none (some 3) ++ Str.ofString "zAb") 1 = 2
  e3 : levF (Txt.slice x none (some 3)) (Txt.upper (Txt.slice x none (some 3))) 3 = 3
section
local macro_rules | `(tactic| k_in) => `(tactic| first | with_reducible assumption | exact Frag.In.keeps (by with_reducible assumption) (Fr.keep (by with_reducible assumption)))
local macro_rules | `(tactic| walk_at "call ref") => `(tactic| refine held ?_)
local macro_rules | `(tactic| walk_at "compareOp NotEq ref") => `(tactic| refine held ?_)
local macro_rules | `(tactic| walk_at "compareOp NotEq ref ref") => `(tactic| refine held ?_)
theorem law_last (fa : Addr) (cdv : Value) (x : Str) (tw tt : Tok) (hw : x.length = 5) (lo : LastOk x) (hok : PyData.strOk x = true) (o1 o2 o3 o4 o5 o6 o7 : Obj) (d3 : o3.data = .cell (some (.str x tw))) (D6 : Addr) (v6 : List Value) (n6 : Nat)
    (Dl : Addr) (wl : List Value) (nl : Nat) (hl : StrsAre wl [x])
    (g' : Heap) (L' : Addr) (m' : Str → Option Value) (s : Shared) (qk : Flow → Shared → Prop) (ek : Value → Shared → Prop)
    (X : (K0 w.params).In g') (T : Top p loose mean mg mb g')
    (F : Fr g' L' s.heap (kstB m' [(Str.ofString "left", .ref Dl), (Str.ofString "text", .str x tt)]))
    (N : News g' L' s.heap [(Dl, W.listOf wl.toArray nl), (D6, W.listOf v6.toArray n6), (L' + 1 + 1 + 1 + 1 + 1 + 1 + 1, o7), (L' + 1 + 1 + 1 + 1 + 1 + 1, o6), (L' + 1 + 1 + 1 + 1 + 1, o5), (L' + 1 + 1 + 1 + 1, o4), (L' + 1 + 1 + 1, o3), (L' + 1 + 1, o2), (L' + 1, o1)])
    (hE : PassesOwn (model pw w) (callerA.deeper (envOfC (Str.ofString "law") sc21 L' fa cdv)) (envOfC (Str.ofString "law") sc21 L' fa cdv) ek)
    (hret : ∀ h' tk' m2, Fr g' L' h' m2 → qk (.ret (.bool true)) { s with heap := h', toks := tk' }) :
    wpAny (model pw w) (callerA.deeper (envOfC (Str.ofString "law") sc21 L' fa cdv)) (execs (bo21.drop 7) (envOfC (Str.ofString "law") sc21 L' fa cdv)) qk ek s := by
  obtain ⟨hp, gn, dr, tk, os⟩ := s
  dsimp only [kstB] at F N hret
  have B := below_caller g'
  w_on
  k_with_none
  delta bo21
  simp only [List.drop_succ_cons, List.drop_zero]
  k_steps
  (with_reducible rename Fr _ _ _ _ => F2); (with_reducible rename News _ _ _ _ => N2)
  refine Held.mk (kes_ne (ns := [x]) (ms := [x]) (N2.isList (.tail _ (.head _))) (N2.isList (.head _)) hl (.cons _ _ .nil) (by rw [List.all_cons, hok]; rfl) (by rw [List.all_cons, hok]; rfl) (by ke_room) ?_)
  rw [decide_eq_true rfl]
  dsimp only [Bool.not_true]
  have q1 : (Str.ofString "xyaB").length = 4 := rfl
  have q2 : (Str.ofString "x").length = 1 := rfl
  have q3 : (Str.ofString "zAb").length = 3 := rfl
  k_steps
  refine Held.mk ?_
  (with_reducible rename Fr _ _ _ _ => Fq1); (with_reducible rename News _ _ _ _ => Nq1)
  refine' c_lev (Txt.slice x none (some 3) ++ Str.ofString "xyaB") (Str.ofString "x" ++ Txt.slice x none (some 3) ++ Str.ofString "zAb") 8 _ _ _ ?la1 ?lb1 _ _ _ _ _ _ _ _ _ _ _ _ _ _ _ _ _ ?B1 ?F1 ?X1 ?N1 ?T1 ?hk1 ?hd1 ?hu1 ?_
  case la1 => omega
  case lb1 => omega
  case B1 => exact B
  case F1 => exact Fq1
  case X1 => exact X
  case N1 => exact Nq1
  case T1 => exact T
  case hk1 => exact rfl
  case hd1 => decide +kernel
  case hu1 => decide +kernel
  intro ts1 hs1 ks1 Fs1 Ns1
  clear Fq1 Nq1
  rw [lo.e1]
  dsimp only
  k_steps
  refine Held.mk ?_
  (with_reducible rename Fr _ _ _ _ => Fq2); (with_reducible rename News _ _ _ _ => Nq2)
  refine' c_lev (Txt.slice x none (some 3) ++ Str.ofString "xyaB") (Str.ofString "x" ++ Txt.slice x none (some 3) ++ Str.ofString "zAb") 1 _ _ _ ?la2 ?lb2 _ _ _ _ _ _ _ _ _ _ _ _ _ _ _ _ _ ?B2 ?F2 ?X2 ?N2 ?T2 ?hk2 ?hd2 ?hu2 ?_
  case la2 => omega
  case lb2 => omega
  case B2 => exact B
  case F2 => exact Fq2
  case X2 => exact X
  case N2 => exact Nq2
  case T2 => exact T
  case hk2 => exact rfl
  case hd2 => decide +kernel
  case hu2 => decide +kernel
  intro ts2 hs2 ks2 Fs2 Ns2
  clear Fq2 Nq2
  rw [lo.e2]
  dsimp only
  k_steps
  refine Held.mk ?_
  (with_reducible rename Fr _ _ _ _ => Fq3); (with_reducible rename News _ _ _ _ => Nq3)
  refine' c_lev (Txt.slice x none (some 3)) (Txt.upper (Txt.slice x none (some 3))) 3 _ _ _ ?la3 ?lb3 _ _ _ _ _ _ _ _ _ _ _ _ _ _ _ _ _ ?B3 ?F3 ?X3 ?N3 ?T3 ?hk3 ?hd3 ?hu3 ?_
  case la3 => omega
  case lb3 => omega
  case B3 => exact B
  case F3 => exact Fq3
  case X3 => exact X
  case N3 => exact Nq3
  case T3 => exact T
  case hk3 => exact rfl
  case hd3 => decide +kernel
  case hu3 => decide +kernel
  intro ts3 hs3 ks3 Fs3 Ns3
  clear Fq3 Nq3
  rw [lo.e3]
  dsimp only
  k_steps
  refine Held.mk ?_
  (with_reducible rename Fr _ _ _ _ => Fq4); (with_reducible rename News _ _ _ _ => Nq4)
  refine' c_lev x x (-1) _ _ _ ?la4 ?lb4 _ _ _ _ _ _ _ _ _ _ _ _ _ _ _ _ _ ?B4 ?F4 ?X4 ?N4 ?T4 ?hk4 ?hd4 ?hu4 ?_
  case la4 => omega
  case lb4 => omega
  case B4 => exact B
  case F4 => exact Fq4
  case X4 => exact X
  case N4 => exact Nq4
  case T4 => exact T
  case hk4 => exact rfl
  case hd4 => decide +kernel
  case hu4 => decide +kernel
  intro ts4 hs4 ks4 Fs4 Ns4
  clear Fq4 Nq4
  rw [(show levF x x (-1) = 0 from if_pos rfl)]
  dsimp only
  k_steps
  exact hret _ _ _ (by assumption)
end
end Mine

namespace Mine
open PySem PySem.W PySem.Calls PyProof.Rows
set_option maxRecDepth 100000
theorem strs_snoc2 {y : Str} {t : Tok} : ∀ {vs : List Value} {ys : List Str}, StrsAre vs ys → StrsAre (vs ++ [.str y t]) (ys ++ [y])
  | _, _, .nil => .cons y t .nil
  | _, _, .cons z u r => .cons z u (strs_snoc2 r)
theorem strs_at {vs : List Value} {ks : List Str} (hi : StrsAre vs ks) : ∀ (i : Nat) (v : Value), vs[i]? = some v → ∃ k t, ks[i]? = some k ∧ v = .str k t := by
  induction hi with
  | nil => intro i v h; simp at h
  | cons z u r ih =>
    intro i v h
    cases i with
    | zero =>
      simp only [List.getElem?_cons_zero, Option.some.injEq] at h
      exact ⟨z, u, rfl, h.symm⟩
    | succ i =>
      simp only [List.getElem?_cons_succ] at h ⊢
      exact ih i v h
section
variable {prog : Program} {w : World} {A : Around} {h₀ : Heap} {L : Addr} {m : Str → Option Value} {env : Env} {ct elt : PySem.Expr} {x : Str} {scope : Scope} {cl : List (Str × Addr)} {s : Shared} {S : List (Addr × Obj) → Prop} {Fin : List Value → List (Addr × Obj) → Prop} {news : List (Addr × Obj)}
theorem kfs_rest {vs : List Value} {ks : List Str} (G : Str → Bool) (hi : StrsAre vs ks) (hS : S news)
    (turn : ∀ k t I oI C oC D m₂ ys h tk (E' : Value → Shared → Prop), k ∈ ks → LCg.NsObj oC m₂ → m₂ x = some (.str k t) → Fr h₀ L h m → News h₀ L h ((I, oI) :: (C, oC) :: (D, LCg.lst ys) :: news) → LCg.Off3 I C D news → ((@Ne Nat I C) ∧ (@Ne Nat I D) ∧ (@Ne Nat C D)) →
      wpAny (model prog w) A (isTrue ct (compEnvC scope cl C env) (eval ct (compEnvC scope cl C env))) (fun b s' => b = G k ∧ ∃ h' tk', s' = { s with heap := h', toks := tk' } ∧ Fr h₀ L h' m ∧ News h₀ L h' ((I, oI) :: (C, oC) :: (D, LCg.lst ys) :: news)) E' { s with heap := h, toks := tk })
    (pick : ∀ k t I oI C oC D m₂ ys h tk (E' : Value → Shared → Prop) (Q' : Value → Shared → Prop), LCg.NsObj oC m₂ → m₂ x = some (.str k t) → Fr h₀ L h m → News h₀ L h ((I, oI) :: (C, oC) :: (D, LCg.lst ys) :: news) → Q' (.str k t) { s with heap := h, toks := tk } →
      wpAny (model prog w) A (eval elt (compEnvC scope cl C env)) Q' E' { s with heap := h, toks := tk })
    (fin : ∀ ys, StrsAre ys (ks.filter G) → Fin ys news) : LCt.CompRestT prog w A h₀ L m env ct elt x scope cl s S (fun i v => vs.toArray[i]? = some v) Fin vs.toArray.size 0 [] news := by
  have hn : ks.length = vs.toArray.size := by rw [List.size_toArray]; exact hi.length.symm
  have key : ∀ (j i : Nat) (ys : List Value), i + j = vs.toArray.size → StrsAre ys ((ks.take i).filter G) → LCt.CompRestT prog w A h₀ L m env ct elt x scope cl s S (fun i v => vs.toArray[i]? = some v) Fin j i ys news := by
    intro j
    induction j with
    | zero =>
      intro i ys hj hy
      have e : i = ks.length := by omega
      subst e
      rw [List.take_length] at hy
      exact LCt.CompRestT.zero (fin ys hy)
    | succ j ih =>
      intro i ys hj hy
      refine LCt.CompRestT.succ ?_
      intro v I oI C oC D m₂ h tk E' hv hC hx F N off ne
      obtain ⟨k, t, hk, hv'⟩ := strs_at hi i v (by simpa using hv)
      rw [hv'] at hx
      have hs : (ks.take (i + 1)).filter G = (ks.take i).filter G ++ (if G k then [k] else []) := by
        rw [List.take_add_one, hk, List.filter_append]
        cases hg : G k <;> simp [hg]
      refine wpAny_mono (turn k t I oI C oC D m₂ ys h tk E' (List.mem_of_getElem? hk) hC hx F N off ne) (fun b s₂ hq => ?_) fun _ _ e => e
      obtain ⟨rfl, h', tk', rfl, F', N'⟩ := hq
      cases hg : G k with
      | true =>
        simp only [if_true]
        refine pick k t I oI C oC D m₂ ys h' tk' E' _ hC hx F' N' ⟨h', tk', news, rfl, F', N', off, hS, ih (i + 1) _ (by omega) ?_⟩
        rw [hs, hg]
        exact strs_snoc2 hy
      | false =>
        simp only [Bool.false_eq_true, if_false]
        refine ⟨h', tk', news, rfl, F', N', off, hS, ih (i + 1) _ (by omega) ?_⟩
        rw [hs, hg]
        simpa using hy
  exact key _ 0 [] (by omega) (by simp only [List.take_zero, List.filter_nil]; exact .nil)
end
end Mine

namespace Mine
open PySem PySem.W PySem.Calls PyProof.Rows
set_option maxRecDepth 100000
set_option maxHeartbeats 4000000
variable {w : World} {p : Program} {loose : List Str} {mean : ExcName → Option Value} {mg mb : Str → Option Value}
noncomputable def forBody : Stmt → List Stmt
  | .For _ _ b _ _ => b
  | _ => []
noncomputable abbrev boN : List Stmt := by
  refine (fun (a : List Stmt) (_ : a = forBody ((bo21[6]?).getD (.Pass ⟨0, 0, 0, 0⟩))) => a) ?a ?h
  case h => conv => rhs; whnf
theorem told_cut {prog : Program} {w : World} {A : Around} {E : Value → Shared → Prop} {s : Shared} {env : Env} {h₀ : Heap} {L : Addr} {m : Str → Option Value} {st : Stmt} {rest : List Stmt} {Q : Flow → Shared → Prop} (led : Obj → List (Addr × Obj)) (v : Int) (_F : Fr h₀ L s.heap m)
    (h1 : wpAny (model prog w) A (exec st env) (fun fl s' => fl = .next ∧ ∃ h' tk' o' t', s' = { s with heap := h', toks := tk' } ∧ Fr h₀ L h' m ∧ News h₀ L h' (led o') ∧ o'.data = .cell (some (.int v t'))) E s)
    (h2 : ∀ h' tk' o' t', Fr h₀ L h' m → News h₀ L h' (led o') → o'.data = .cell (some (.int v t')) → wpAny (model prog w) A (execs rest env) Q E { s with heap := h', toks := tk' }) :
    wpAny (model prog w) A (execs (st :: rest) env) Q E s := by
  refine wpAny_execs_cons (wpAny_mono h1 (fun fl s' h => ?_) fun _ _ e => e)
  obtain ⟨rfl, h', tk', o', t', rfl, F', N', d'⟩ := h
  exact h2 h' tk' o' t' F' N' d'
noncomputable def toldI (x q : Str) (i b : Int) : Int := if i.fmod 2 = 0 then levF x q b else levF q x b
theorem less_cut {prog : Program} {w : World} {A : Around} {E : Value → Shared → Prop} {s : Shared} {env : Env} {h₀ : Heap} {L : Addr} {m : Str → Option Value} {st : Stmt} {rest : List Stmt} {Q : Flow → Shared → Prop} (X : Str) (led : List (Addr × Obj)) (v : Int) (_F : Fr h₀ L s.heap m)
    (h1 : wpAny (model prog w) A (exec st env) (fun fl s' => fl = .next ∧ ∃ h' tk' t', s' = { s with heap := h', toks := tk' } ∧ Fr h₀ L h' (fun y => if y = X then some (.int v t') else m y) ∧ News h₀ L h' led) E s)
    (h2 : ∀ h' tk' t', Fr h₀ L h' (fun y => if y = X then some (.int v t') else m y) → News h₀ L h' led → wpAny (model prog w) A (execs rest env) Q E { s with heap := h', toks := tk' }) :
    wpAny (model prog w) A (execs (st :: rest) env) Q E s := by
  refine wpAny_execs_cons (wpAny_mono h1 (fun fl s' h => ?_) fun _ _ e => e)
  obtain ⟨rfl, h', tk', t', rfl, F', N'⟩ := h
  exact h2 h' tk' t' F' N'
noncomputable def askS (z : Str) (g : Int) : Str := Txt.join (Str.ofString "") ((rangeKs 0 3).map fun k => if (g.fdiv (2 ^ k.toNat)).fmod 2 = 1 then Txt.upper (Txt.item z k) else Txt.item z k)
noncomputable def bdI (g : Int) : Int := 4 + g.fdiv 4 + (g.fdiv 2).fmod 2 + g.fmod 2
noncomputable def lessS (x : Str) : List Str := (rangeKs 0 4).map fun k => Txt.slice x none (some k) ++ Txt.slice x (some (k + 2)) none
noncomputable def lessI (x z : Str) : Int := if (lessS x).any (fun y => y == z) = true then 4 else 3
structure TurnOk (x z : Str) (i g : Int) : Prop where
  c1 : (((eats x.cps.toList (KStt.codes z)).isSome == true) == (toldI x (askS z g) i (bdI g) == bdI g) && (((eats x.cps.toList (KStt.codes z)).isSome == false) == decide (bdI g < toldI x (askS z g) i (bdI g)) && ((strIn x z == true) == ([Txt.slice x none (some 3), Txt.slice x (some 1) (some 4), Txt.slice x (some 2) none].any fun y => y == z) && (strIn x z == false) == !([Txt.slice x none (some 3), Txt.slice x (some 1) (some 4), Txt.slice x (some 2) none].any fun y => y == z)))) = true
  c2 : levF x z 2 = lessI x z
  okz : PyData.strOk z = true
  asc : x.cps.all (· < 128) = true
  q : (askS z g).length ≤ 20
  qs : (((rangeKs 0 3).map fun k => if (g.fdiv (2 ^ k.toNat)).fmod 2 = 1 then Txt.upper (Txt.item z k) else Txt.item z k).map (·.length)).sum + ((rangeKs 0 3).map fun k => if (g.fdiv (2 ^ k.toNat)).fmod 2 = 1 then Txt.upper (Txt.item z k) else Txt.item z k).length * (Str.ofString "").length ≤ 16777216
section
local macro_rules | `(tactic| walk_at "call ref") => `(tactic| refine held ?_)
local macro_rules | `(tactic| walk_at "eval ListComp") => `(tactic| refine held ?_)
local macro_rules | `(tactic| walk_at "exec Assign cons ListComp") => `(tactic| refine held ?_)
local macro_rules | `(tactic| walk_at "call builtin:str.join") => `(tactic| refine held ?_)
local macro_rules | `(tactic| walk_at "execs cons If") => `(tactic| refine held ?_)
local macro_rules | `(tactic| walk_at "execs cons Assign cons") => `(tactic| ((with_reducible rename Mark0 => mk0); refine held ?_))
local macro_rules | `(tactic| walk_at "CompSrcT") => `(tactic| refine held ?_)
local macro_rules | `(tactic| walk_at "CompSrc") => `(tactic| refine held ?_)
local macro_rules | `(tactic| lcg_off) => `(tactic| (simp only [LCg.Off3, and_true]; assumption))
theorem law_tail2 (fa : Addr) (cdv : Value) (x z : Str) (yl : List Str) (tt tz tw : Tok) (hz : z.length = 3) (hw : x.length = 5) (hll : yl.length ≤ 1000) (c2 : levF x z 2 = lessI x z ∧ PyData.strOk z = true) (b tv : Int) (t6 t7 : Tok)
    (o1 o2 o3 p4 p5 p6 p7 oI : Obj) (D6 D I : Addr) (d3 : o3.data = .cell (some (.str x tw))) (d4 : p4.data = .cell (some (.str z tz))) (d6 : p6.data = .cell (some (.int b t6))) (d7 : p7.data = .cell (some (.int tv t7)))
    (v6 : List Value) (n6 : Nat) (wl : List Value) (nl : Nat) (hl : StrsAre wl yl)
    (g' : Heap) (L' : Addr) (m' : Str → Option Value) (s : Shared) (R : Flow → Shared → Prop) (ek : Value → Shared → Prop)
    (X : (K0 w.params).In g') (T : Top p loose mean mg mb g') (ha : @LT.lt Nat _ (L' + 1 + 1 + 1 + 1 + 1 + 1 + 1) D6) (hb : (@Ne Nat D D6) ∧ (@Ne Nat D (L' + 1 + 1 + 1 + 1 + 1 + 1 + 1)) ∧ (@Ne Nat D (L' + 1 + 1 + 1 + 1 + 1 + 1)) ∧ (@Ne Nat D (L' + 1 + 1 + 1 + 1 + 1)) ∧ (@Ne Nat D (L' + 1 + 1 + 1 + 1)) ∧ (@Ne Nat D (L' + 1 + 1 + 1)) ∧ (@Ne Nat D (L' + 1 + 1)) ∧ (@Ne Nat D (L' + 1)))
    (hoff : (@Ne Nat D I) ∧ (@Ne Nat D6 I) ∧ (@Ne Nat (L' + 1 + 1 + 1 + 1 + 1 + 1 + 1) I) ∧ (@Ne Nat (L' + 1 + 1 + 1 + 1 + 1 + 1) I) ∧ (@Ne Nat (L' + 1 + 1 + 1 + 1 + 1) I) ∧ (@Ne Nat (L' + 1 + 1 + 1 + 1) I) ∧ (@Ne Nat (L' + 1 + 1 + 1) I) ∧ (@Ne Nat (L' + 1 + 1) I) ∧ (@Ne Nat (L' + 1) I))
    (F : Fr g' L' s.heap (kstB m' [(Str.ofString "left", .ref D), (Str.ofString "text", .str x tt)]))
    (N : News g' L' s.heap [(I, oI), (D, W.listOf wl.toArray nl), (D6, W.listOf v6.toArray n6), (L' + 1 + 1 + 1 + 1 + 1 + 1 + 1, p7), (L' + 1 + 1 + 1 + 1 + 1 + 1, p6), (L' + 1 + 1 + 1 + 1 + 1, p5), (L' + 1 + 1 + 1 + 1, p4), (L' + 1 + 1 + 1, o3), (L' + 1 + 1, o2), (L' + 1, o1)])
    (hE : PassesOwn (model pw w) (callerA.deeper (envOfC (Str.ofString "law") sc21 L' fa cdv)) (envOfC (Str.ofString "law") sc21 L' fa cdv) ek)
    (hnext : ∀ D' wl' nl' h' tk' m3, Fr g' L' h' m3 → News g' L' h' [(I, oI), (D', W.listOf wl'.toArray nl'), (D6, W.listOf v6.toArray n6), (L' + 1 + 1 + 1 + 1 + 1 + 1 + 1, p7), (L' + 1 + 1 + 1 + 1 + 1 + 1, p6), (L' + 1 + 1 + 1 + 1 + 1, p5), (L' + 1 + 1 + 1 + 1, p4), (L' + 1 + 1 + 1, o3), (L' + 1 + 1, o2), (L' + 1, o1)] →
      StrsAre wl' (yl.filter fun o => scat z o == (tv == b)) → (@Ne Nat D' I) → (@Ne Nat D' D6) ∧ (@Ne Nat D' (L' + 1 + 1 + 1 + 1 + 1 + 1 + 1)) ∧ (@Ne Nat D' (L' + 1 + 1 + 1 + 1 + 1 + 1)) ∧ (@Ne Nat D' (L' + 1 + 1 + 1 + 1 + 1)) ∧ (@Ne Nat D' (L' + 1 + 1 + 1 + 1)) ∧ (@Ne Nat D' (L' + 1 + 1 + 1)) ∧ (@Ne Nat D' (L' + 1 + 1)) ∧ (@Ne Nat D' (L' + 1)) →
      m3 (Str.ofString "left") = some (.ref D') → (∀ y, y ≠ Str.ofString "left" → y ≠ Str.ofString "less" → m3 y = kstB m' [(Str.ofString "left", .ref D), (Str.ofString "text", .str x tt)] y) → R .next { s with heap := h', toks := tk' })
    : wpAny (model pw w) (callerA.deeper (envOfC (Str.ofString "law") sc21 L' fa cdv)) (execs (boN.drop 9) (envOfC (Str.ofString "law") sc21 L' fa cdv)) R ek s := by
  obtain ⟨hp, gn, dr, tk, os⟩ := s
  dsimp only [kstB] at F N hnext
  have B := below_caller g'
  w_on
  k_with_none
  delta boN
  simp only [List.drop_succ_cons, List.drop_zero]
  refine less_cut (Str.ofString "less") [(I, oI), (D, W.listOf wl.toArray nl), (D6, W.listOf v6.toArray n6), (L' + 1 + 1 + 1 + 1 + 1 + 1 + 1, p7), (L' + 1 + 1 + 1 + 1 + 1 + 1, p6), (L' + 1 + 1 + 1 + 1 + 1, p5), (L' + 1 + 1 + 1 + 1, p4), (L' + 1 + 1 + 1, o3), (L' + 1 + 1, o2), (L' + 1, o1)] (lessI x z) F ?_ ?_
  · k_steps
    (with_reducible rename Fr _ _ _ _ => F1)
    refine Held.mk (LCg.ListComp_U (F₀ := F1) (by with_unfolding_all rfl) (by decide) (by rfl) (by decide) (by rfl) ?_)
    k_steps
    (with_reducible rename Fr _ _ _ _ => F2); (with_reducible rename News _ _ _ _ => N2); (with_reducible rename IsRange _ _ _ _ _ _ _ _ => hR)
    dsimp only at F2 N2 hR ⊢
    refine Held.mk (LCg.CompSrc.range (n := 4) (by rfl) F2 N2 hR (by decide) (by decide) (by size_fits) ?_)
    intro gg
    refine' kct_range (fun k => Txt.slice x none (some k) ++ Txt.slice x (some (k + 2)) none) (fun k' t' I' oI' C' oC' D' m2 ys' h' tk' E' hlo' hhi' hC' hx' F' N' off' ne' => ?_) ?_
    · try clear F1
      clear F2 N2 hR
      try simp only [LCg.Off3, and_true] at off'
      try ((show KPfMark → _); intro hMark')
      k_steps
    · intro ys hys _
      try clear F1
      have hst := CarriedAll.strsOf hys
      clear hys
      (try clear F2 N2 hR)
      k_steps
      · rw [show lessI x z = 4 from if_pos (by assumption)]
        assumption
      · exact cb_drop (by assumption) (fun p hp => .tail _ hp)
      · rw [show lessI x z = 3 from if_neg (ne_true_of_eq_false (by assumption))]
        assumption
      · exact cb_drop (by assumption) (fun p hp => .tail _ hp)
  · intro h8 tk8 t8 F10 N10
    clear F N
    k_steps
    refine Held.mk (wpAny_execs_cons ?_)
    k_steps
    refine Held.mk ?_
    (with_reducible rename Fr _ _ _ _ => Fq5); (with_reducible rename News _ _ _ _ => Nq5)
    refine' c_lev x z 2 _ _ _ ?la5 ?lb5 _ _ _ _ _ _ _ _ _ _ _ _ _ _ _ _ _ ?B5 ?F5 ?X5 ?N5 ?T5 ?hk5 ?hd5 ?hu5 ?_
    case la5 => omega
    case lb5 => omega
    case B5 => exact B
    case F5 => exact Fq5
    case X5 => exact X
    case N5 => exact Nq5
    case T5 => exact T
    case hk5 => exact rfl
    case hd5 => decide +kernel
    case hu5 => decide +kernel
    intro ts5 hs5 ks5 Fs5 Ns5
    clear Fq5 Nq5
    rw [c2.1]
    dsimp only
    k_steps
    · rename lessI x z ≠ lessI x z => hc
      exact absurd rfl hc
    (with_reducible rename Fr _ _ _ _ => F6); (with_reducible rename News _ _ _ _ => N6)
    refine Held.mk (LCt.Assign_ListComp_T (F₀ := F6) (by rfl) (by with_unfolding_all rfl) (by with_unfolding_all rfl) (by decide) (by rfl) (by decide) (by rfl) (by rfl) (by rfl) ?_)
    k_steps
    (with_reducible rename Fr _ _ _ _ => F7); (with_reducible rename News _ _ _ _ => N7)
    have hsz : wl.toArray.size ≤ sizeLine := by
      rw [List.size_toArray, hl.length, PySem.sizeLine_eq]; omega
    refine Held.mk (LCt.CompSrcT.ledger (by rfl) F7 N7 (.tail _ (.head _)) hsz ?_)
    intro gg
    refine' kfs_rest (fun o => scat z o == (tv == b)) hl (.inr ⟨_, .tail _ (.head _), rfl, _, rfl⟩) (fun k' t' I' oI' C' oC' D' m2 ys' h' tk' E' hkm hC' hx' F' N' off' ne' => ?_) (fun k' t' I' oI' C' oC' D' m2 ys' h' tk' E' Q' hC' hx' F' N' hQ => ?_) ?_
    · clear F7 N7
      try clear F6 N6
      try simp only [LCg.Off3, and_true] at off'
      k_steps
      refine Held.mk ?_
      (with_reducible rename Fr _ _ _ _ => Fq6); (with_reducible rename News _ _ _ _ => Nq6)
      refine' c_scat z k' _ _ hz _ _ _ _ _ _ _ _ _ _ _ _ _ _ _ _ _ ?B6 ?F6 ?X6 ?N6 ?T6 ?hk6 ?hd6 ?hu6 ?_
      case B6 => exact B
      case F6 => exact Fq6
      case X6 => exact X
      case N6 => exact Nq6
      case T6 => exact T
      case hk6 => exact rfl
      case hd6 => decide +kernel
      case hu6 => decide +kernel
      intro ts6 hs6 ks6 Fs6 Ns6
      clear Fq6 Nq6
      dsimp only
      k_steps
      · assumption
      · assumption
    · clear F7 N7
      try clear F6 N6
      k_steps
      exact hQ
    · intro ys hys
      clear F7 N7
      try clear F6 N6
      k_steps
      (with_reducible rename Fr _ _ _ _ => F8); (with_reducible rename News _ _ _ _ => N8)
      (with_reducible rename _ ∧ _ ∧ _ ∧ _ ∧ _ ∧ _ ∧ _ ∧ _ ∧ _ ∧ _ => oo)
      refine' hnext _ ys ys.length _ _ _ F8 (cb_drop N8 ?sub)  hys (Ne.symm oo.1) ⟨Ne.symm oo.2.2.1, Ne.symm oo.2.2.2.1, Ne.symm oo.2.2.2.2.1, Ne.symm oo.2.2.2.2.2.1, Ne.symm oo.2.2.2.2.2.2.1, Ne.symm oo.2.2.2.2.2.2.2.1, Ne.symm oo.2.2.2.2.2.2.2.2.1, Ne.symm oo.2.2.2.2.2.2.2.2.2⟩ rfl ?same
      case sub => exact fun p hp => (List.mem_cons.mp hp).elim (fun e => e ▸ .tail _ (.head _)) fun h => (List.mem_cons.mp h).elim (fun e => e ▸ .head _) fun h => .tail _ (.tail _ (.tail _ h))
      case same =>
        intro y h1 h2
        simp only [if_neg h1, if_neg h2]
end
end Mine

namespace Mine
open PySem PySem.W PySem.Calls PyProof.Rows
set_option maxRecDepth 100000
set_option maxHeartbeats 4000000
variable {w : World} {p : Program} {loose : List Str} {mean : ExcName → Option Value} {mg mb : Str → Option Value}
section
local macro_rules | `(tactic| walk_at "call ref") => `(tactic| refine held ?_)
local macro_rules | `(tactic| walk_at "eval ListComp") => `(tactic| refine held ?_)
local macro_rules | `(tactic| walk_at "exec Assign cons ListComp") => `(tactic| refine held ?_)
local macro_rules | `(tactic| walk_at "call builtin:str.join") => `(tactic| refine held ?_)
local macro_rules | `(tactic| walk_at "execs cons If") => `(tactic| refine held ?_)
local macro_rules | `(tactic| walk_at "execs cons Assign cons") => `(tactic| ((with_reducible rename Mark0 => mk0); refine held ?_))
local macro_rules | `(tactic| walk_at "CompSrcT") => `(tactic| refine held ?_)
local macro_rules | `(tactic| walk_at "CompSrc") => `(tactic| refine held ?_)
local macro_rules | `(tactic| lcg_off) => `(tactic| (simp only [LCg.Off3, and_true]; assumption))
theorem law_tail (fa : Addr) (cdv : Value) (x z : Str) (i g : Int) (t tt tz tg tw : Tok) (hz : z.length = 3) (hw : x.length = 5) (g0 : 0 ≤ g ∧ g < 8) (i0 : 0 ≤ i ∧ i < 8) (to : TurnOk x z i g)
    (o1 o2 o3 p4 p5 p6 p7 oI : Obj) (D6 D I : Addr) (d3 : o3.data = .cell (some (.str x tw))) (d4 : p4.data = .cell (some (.str z tz))) (d5 : p5.data = .cell (some (.int g tg))) (u6 u7 : Option Value) (d6 : p6.data = .cell u6) (d7 : p7.data = .cell u7)
    (v6 : List Value) (n6 : Nat) (wl : List Value) (nl : Nat) (yl : List Str) (hl : StrsAre wl yl) (hll : yl.length ≤ 1000)
    (g' : Heap) (L' : Addr) (m' : Str → Option Value) (s : Shared) (R : Flow → Shared → Prop) (ek : Value → Shared → Prop)
    (X : (K0 w.params).In g') (T : Top p loose mean mg mb g') (ha : @LT.lt Nat _ (L' + 1 + 1 + 1 + 1 + 1 + 1 + 1) D6) (hb : (@Ne Nat D D6) ∧ (@Ne Nat D (L' + 1 + 1 + 1 + 1 + 1 + 1 + 1)) ∧ (@Ne Nat D (L' + 1 + 1 + 1 + 1 + 1 + 1)) ∧ (@Ne Nat D (L' + 1 + 1 + 1 + 1 + 1)) ∧ (@Ne Nat D (L' + 1 + 1 + 1 + 1)) ∧ (@Ne Nat D (L' + 1 + 1 + 1)) ∧ (@Ne Nat D (L' + 1 + 1)) ∧ (@Ne Nat D (L' + 1)))
    (hoff : (@Ne Nat D I) ∧ (@Ne Nat D6 I) ∧ (@Ne Nat (L' + 1 + 1 + 1 + 1 + 1 + 1 + 1) I) ∧ (@Ne Nat (L' + 1 + 1 + 1 + 1 + 1 + 1) I) ∧ (@Ne Nat (L' + 1 + 1 + 1 + 1 + 1) I) ∧ (@Ne Nat (L' + 1 + 1 + 1 + 1) I) ∧ (@Ne Nat (L' + 1 + 1 + 1) I) ∧ (@Ne Nat (L' + 1 + 1) I) ∧ (@Ne Nat (L' + 1) I))
    (F : Fr g' L' s.heap (kstB m' [(Str.ofString "number", .int i t), (Str.ofString "left", .ref D), (Str.ofString "text", .str x tt)]))
    (N : News g' L' s.heap [(I, oI), (D, W.listOf wl.toArray nl), (D6, W.listOf v6.toArray n6), (L' + 1 + 1 + 1 + 1 + 1 + 1 + 1, p7), (L' + 1 + 1 + 1 + 1 + 1 + 1, p6), (L' + 1 + 1 + 1 + 1 + 1, p5), (L' + 1 + 1 + 1 + 1, p4), (L' + 1 + 1 + 1, o3), (L' + 1 + 1, o2), (L' + 1, o1)])
    (hE : PassesOwn (model pw w) (callerA.deeper (envOfC (Str.ofString "law") sc21 L' fa cdv)) (envOfC (Str.ofString "law") sc21 L' fa cdv) ek)
    (hnext : ∀ D' wl' nl' o6' o7' h' tk' m3, Fr g' L' h' m3 → News g' L' h' [(I, oI), (D', W.listOf wl'.toArray nl'), (D6, W.listOf v6.toArray n6), (L' + 1 + 1 + 1 + 1 + 1 + 1 + 1, o7'), (L' + 1 + 1 + 1 + 1 + 1 + 1, o6'), (L' + 1 + 1 + 1 + 1 + 1, p5), (L' + 1 + 1 + 1 + 1, p4), (L' + 1 + 1 + 1, o3), (L' + 1 + 1, o2), (L' + 1, o1)] →
      (∃ v, o6'.data = .cell v) → (∃ v, o7'.data = .cell v) → StrsAre wl' (yl.filter fun o => scat z o == (toldI x (askS z g) i (bdI g) == bdI g)) → (@Ne Nat D' I) → (@Ne Nat D' D6) ∧ (@Ne Nat D' (L' + 1 + 1 + 1 + 1 + 1 + 1 + 1)) ∧ (@Ne Nat D' (L' + 1 + 1 + 1 + 1 + 1 + 1)) ∧ (@Ne Nat D' (L' + 1 + 1 + 1 + 1 + 1)) ∧ (@Ne Nat D' (L' + 1 + 1 + 1 + 1)) ∧ (@Ne Nat D' (L' + 1 + 1 + 1)) ∧ (@Ne Nat D' (L' + 1 + 1)) ∧ (@Ne Nat D' (L' + 1)) →
      m3 (Str.ofString "left") = some (.ref D') → (∀ y, y ≠ Str.ofString "left" → [Str.ofString "asked", Str.ofString "said", Str.ofString "whole", Str.ofString "found", Str.ofString "less"].contains y = false → m3 y = kstB m' [(Str.ofString "number", .int i t), (Str.ofString "left", .ref D), (Str.ofString "text", .str x tt)] y) → R .next { s with heap := h', toks := tk' })
    : wpAny (model pw w) (callerA.deeper (envOfC (Str.ofString "law") sc21 L' fa cdv)) (execs (boN.drop 2) (envOfC (Str.ofString "law") sc21 L' fa cdv)) R ek s := by
  obtain ⟨hp, gn, dr, tk, os⟩ := s
  dsimp only [kstB] at F N hnext
  have B := below_caller g'
  w_on
  k_with_none
  delta boN
  simp only [List.drop_succ_cons, List.drop_zero]
  k_steps
  (with_reducible rename Fr _ _ _ _ => F1)
  refine Held.mk (LCg.ListComp_U (F₀ := F1) (by with_unfolding_all rfl) (by decide) (by rfl) (by decide) (by rfl) ?_)
  k_steps
  (with_reducible rename Fr _ _ _ _ => F2); (with_reducible rename News _ _ _ _ => N2); (with_reducible rename IsRange _ _ _ _ _ _ _ _ => hR)
  dsimp only at F2 N2 hR ⊢
  refine Held.mk (LCg.CompSrc.range (n := 3) (by rfl) F2 N2 hR (by decide) (by decide) (by size_fits) ?_)
  intro gg
  refine' kct_range (fun k => if (g.fdiv (2 ^ k.toNat)).fmod 2 = 1 then Txt.upper (Txt.item z k) else Txt.item z k) (fun k' t' I' oI' C' oC' D' m2 ys' h' tk' E' hlo' hhi' hC' hx' F' N' off' ne' => ?_) ?_
  · try clear F1
    clear F2 N2 hR
    try simp only [LCg.Off3, and_true] at off'
    try ((show KPfMark → _); intro hMark')
    k_steps
  · intro ys hys _
    try clear F1
    have hst := CarriedAll.strsOf hys
    clear hys
    (try clear F2 N2 hR)
    k_steps
    (with_reducible rename Fr _ _ _ _ => F3); (with_reducible rename News _ _ _ _ => N3)
    try dsimp only at F3 N3 ⊢
    refine Held.mk (join_list (N3.isList (.head _)) (by simpa using hst) to.qs (fun t' tk => ?_))
    rw [show Txt.join (Str.ofString "") ((rangeKs 0 3).map fun k => if (g.fdiv (2 ^ k.toNat)).fmod 2 = 1 then Txt.upper (Txt.item z k) else Txt.item z k) = askS z g from rfl]
    have fm : ∀ (z b : Int), 0 < b → 0 ≤ z.fmod b ∧ z.fmod b < b := fun z b hb => ⟨Int.fmod_nonneg_of_pos _ hb, Int.fmod_lt_of_pos _ hb⟩
    have m1 := fm (g.fdiv 2) 2 (by decide)
    have m2 := fm g 2 (by decide)
    have m3 := fm i 2 (by decide)
    clear fm
    have hq := to.q
    revert hq
    generalize hqe : askS z g = q
    intro hq
    k_steps
    (with_reducible rename Fr _ _ _ _ => F4); (with_reducible rename News _ _ _ _ => N4)
    rename Obj => o6'
    rename o6'.data = _ => db
    dsimp only at F4 N4 db ⊢
    generalize hbe : 4 + g.fdiv 4 + (g.fdiv 2).fmod 2 + g.fmod 2 = b at db
    refine Held.mk (told_cut (fun o => [(I, oI), (D, W.listOf wl.toArray nl), (D6, W.listOf v6.toArray n6), (L' + 1 + 1 + 1 + 1 + 1 + 1 + 1, o), (L' + 1 + 1 + 1 + 1 + 1 + 1, o6'), (L' + 1 + 1 + 1 + 1 + 1, p5), (L' + 1 + 1 + 1 + 1, p4), (L' + 1 + 1 + 1, o3), (L' + 1 + 1, o2), (L' + 1, o1)]) (toldI x q i b) F4 ?_ ?_)
    · k_steps
      · refine Held.mk ?_
        (with_reducible rename Fr _ _ _ _ => Fq1); (with_reducible rename News _ _ _ _ => Nq1)
        refine' c_lev x q b _ _ _ ?la1 ?lb1 _ _ _ _ _ _ _ _ _ _ _ _ _ _ _ _ _ ?B1 ?F1 ?X1 ?N1 ?T1 ?hk1 ?hd1 ?hu1 ?_
        case la1 => omega
        case lb1 => omega
        case B1 => exact B
        case F1 => exact Fq1
        case X1 => exact X
        case N1 => exact Nq1
        case T1 => exact T
        case hk1 => exact rfl
        case hd1 => decide +kernel
        case hu1 => decide +kernel
        intro ts1 hs1 ks1 Fs1 Ns1
        clear Fq1 Nq1
        rw [show levF x q b = toldI x q i b from (if_pos (by assumption)).symm]
        dsimp only

        k_steps
        · assumption
        · exact cb_drop (by assumption) (fun p hp => .tail _ hp)
      · refine Held.mk ?_
        (with_reducible rename Fr _ _ _ _ => Fq2); (with_reducible rename News _ _ _ _ => Nq2)
        refine' c_lev q x b _ _ _ ?la2 ?lb2 _ _ _ _ _ _ _ _ _ _ _ _ _ _ _ _ _ ?B2 ?F2 ?X2 ?N2 ?T2 ?hk2 ?hd2 ?hu2 ?_
        case la2 => omega
        case lb2 => omega
        case B2 => exact B
        case F2 => exact Fq2
        case X2 => exact X
        case N2 => exact Nq2
        case T2 => exact T
        case hk2 => exact rfl
        case hd2 => decide +kernel
        case hu2 => decide +kernel
        intro ts2 hs2 ks2 Fs2 Ns2
        clear Fq2 Nq2
        rw [show levF q x b = toldI x q i b from (if_neg (by assumption)).symm]
        dsimp only

        k_steps
        · assumption
        · exact cb_drop (by assumption) (fun p hp => .tail _ hp)
    · intro h7 tk7 o7' t7 F7 N7 d7'
      clear F4 N4
      try clear d7
      k_steps
      refine Held.mk ?_
      (with_reducible rename Fr _ _ _ _ => Fq3); (with_reducible rename News _ _ _ _ => Nq3)
      refine' c_eaten x z _ _ to.asc _ _ _ _ _ _ _ _ _ _ _ _ _ _ _ _ _ ?B3 ?F3 ?X3 ?N3 ?T3 ?hk3 ?hd3 ?hu3 ?_
      case B3 => exact B
      case F3 => exact Fq3
      case X3 => exact X
      case N3 => exact Nq3
      case T3 => exact T
      case hk3 => exact rfl
      case hd3 => decide +kernel
      case hu3 => decide +kernel
      intro ts3 hs3 ks3 Fs3 Ns3
      clear Fq3 Nq3
      dsimp only
      generalize hsa : (eats x.cps.toList (KStt.codes z)).isSome = sa
      k_steps
      refine Held.mk ?_
      (with_reducible rename Fr _ _ _ _ => Fq4); (with_reducible rename News _ _ _ _ => Nq4)
      refine' c_cont x z _ _ _ _ _ _ _ _ _ _ _ _ _ _ _ _ _ _ _ ?B4 ?F4 ?X4 ?N4 ?T4 ?hk4 ?hd4 ?hu4 ?_
      case B4 => exact B
      case F4 => exact Fq4
      case X4 => exact X
      case N4 => exact Nq4
      case T4 => exact T
      case hk4 => exact rfl
      case hd4 => decide +kernel
      case hu4 => decide +kernel
      intro ts4 hs4 ks4 Fs4 Ns4
      clear Fq4 Nq4
      dsimp only
      generalize hwh : strIn x z = wh
      k_steps
      (with_reducible rename Fr _ _ _ _ => F8); (with_reducible rename News _ _ _ _ => N8)
      generalize hfd : ([Txt.slice x none (some 3), Txt.slice x (some 1) (some 4), Txt.slice x (some 2) none].any fun x => x == z) = fd at F8
      generalize htv : toldI x q i b = tv at d7'
      have mk0 : Mark0 := trivial
      refine Held.mk (wpAny_execs_cons ?_)
      k_steps
      rotate_left
      · exfalso
        have hc := to.c1
        rw [hqe] at hc
        unfold bdI at hc
        rw [hbe, htv, hsa, hwh, hfd] at hc
        rename _ = false => hc2
        rw [hc] at hc2
        exact absurd hc2 (by decide)
      (with_reducible rename Fr _ _ _ _ => F9); (with_reducible rename News _ _ _ _ => N9)
      refine Held.mk (law_tail2 fa cdv x z yl tt tz tw hz hw hll ⟨to.c2, to.okz⟩ b tv _ _ o1 o2 o3 p4 p5 o6' o7' oI D6 D I d3 d4 db d7' v6 n6 wl nl hl g' L' _ _ R ek X T ha hb hoff (fr_kst (ps := [(Str.ofString "left", .ref D), (Str.ofString "text", .str x tt)]) F9 (by simp only [List.forall_mem_cons, List.not_mem_nil, false_implies, implies_true, and_true]; exact ⟨rfl, rfl⟩)) (cb_drop N9 (fun p hp => .tail _ (.tail _ (.tail _ hp)))) hE (fun D' wl' nl' h' tk' m3 F10 N10 hl10 n1 n2 hm1 hm2 => ?_))
      have e : (tv == b) = (toldI x (askS z g) i (bdI g) == bdI g) := by
        rw [hqe]
        unfold bdI
        rw [hbe, htv]
      rw [e] at hl10
      refine hnext D' wl' nl' o6' o7' h' tk' m3 F10 N10 ⟨_, db⟩ ⟨_, d7'⟩ hl10 n1 n2 hm1 (fun y y1 y2 => ?_)
      simp only [List.contains_cons, List.contains_nil, Bool.or_false, Bool.or_eq_false_iff, beq_eq_false_iff_ne, ne_eq] at y2
      rw [hm2 y y1 y2.2.2.2.2]
      simp only [kstB, if_neg y1, if_neg y2.1, if_neg y2.2.1, if_neg y2.2.2.1, if_neg y2.2.2.2.1]
      by_cases yt : y = Str.ofString "text"
      · subst yt; rfl
      · simp only [if_neg yt]
end
end Mine

namespace Mine
open PySem PySem.W PySem.Calls PyProof.Rows
set_option maxRecDepth 100000
set_option maxHeartbeats 4000000
variable {w : World} {p : Program} {loose : List Str} {mean : ExcName → Option Value} {mg mb : Str → Option Value}
structure NSt where
  D : Addr
  wl : List Value
  nl : Nat
  yl : List Str
  o4 : Obj
  o5 : Obj
  o6 : Obj
  o7 : Obj
structure NOk (L' D6 : Addr) (lf : Nat → List Str) (i : Nat) (c : NSt) : Prop where
  hl : StrsAre c.wl c.yl
  hy : c.yl = lf i
  hD : (@Ne Nat c.D D6) ∧ (@Ne Nat c.D (L' + 1 + 1 + 1 + 1 + 1 + 1 + 1)) ∧ (@Ne Nat c.D (L' + 1 + 1 + 1 + 1 + 1 + 1)) ∧ (@Ne Nat c.D (L' + 1 + 1 + 1 + 1 + 1)) ∧ (@Ne Nat c.D (L' + 1 + 1 + 1 + 1)) ∧ (@Ne Nat c.D (L' + 1 + 1 + 1)) ∧ (@Ne Nat c.D (L' + 1 + 1)) ∧ (@Ne Nat c.D (L' + 1))
  h4 : ∃ v, c.o4.data = .cell v
  h5 : ∃ v, c.o5.data = .cell v
  h6 : ∃ v, c.o6.data = .cell v
  h7 : ∃ v, c.o7.data = .cell v
noncomputable def ltS (f : Str) (i : Int) : Str := Txt.item f (i.fdiv 4) ++ Txt.item f ((i.fdiv 2).fmod 2) ++ Txt.item f (i.fmod 2)
section
local macro_rules | `(tactic| walk_at "call ref") => `(tactic| refine held ?_)
local macro_rules | `(tactic| walk_at "exec For") => `(tactic| refine held ?_)
local macro_rules | `(tactic| walk_at "exec For Name Call cons nil") => `(tactic| refine held ?_)
local macro_rules | `(tactic| walk_at "pyIter ref") => `(tactic| refine held ?_)
local macro_rules | `(tactic| walk_at "eval ListComp") => `(tactic| refine held ?_)
local macro_rules | `(tactic| walk_at "exec Assign cons ListComp") => `(tactic| refine held ?_)
local macro_rules | `(tactic| walk_at "execs cons Assign cons") => `(tactic| ((with_reducible rename Mark0 => mk0); refine held ?_))
theorem law_core (fa : Addr) (cdv : Value) (f x : Str) (tf tw tt : Tok) (hf : f.length = 2) (hw : x.length = 5) (lo : LastOk x) (hok : PyData.strOk x = true) (lf : Nat → List Str) (hlf : lf 8 = [x]) (hlen : ∀ i, (lf i).length ≤ 32) (ds : List Int) (hto : ∀ i : Nat, i < 8 → TurnOk x (ltS f i) i (((i : Int) + (ds.getD 5 0).fdiv 4).fmod 8)) (hst : ∀ i : Nat, i < 8 → (lf i).filter (fun o => scat (ltS f i) o == (toldI x (askS (ltS f i) (((i : Int) + (ds.getD 5 0).fdiv 4).fmod 8)) i (bdI (((i : Int) + (ds.getD 5 0).fdiv 4).fmod 8)) == bdI (((i : Int) + (ds.getD 5 0).fdiv 4).fmod 8))) = lf (i + 1))
    (o1 o2 o3 o4 o5 o6 o7 : Obj) (D6 : Addr) (d1 : o1.data = .cell (some (.ref D6))) (d2 : o2.data = .cell (some (.str f tf))) (d3 : o3.data = .cell (some (.str x tw))) (d4 : ∃ v, o4.data = .cell v) (d5 : ∃ v, o5.data = .cell v) (d6 : ∃ v, o6.data = .cell v) (d7 : ∃ v, o7.data = .cell v)
    (v6 : List Value) (n6 : Nat) (i6 : IntsAre v6 ds) (l6 : ds.length = 6) (hb6 : 0 ≤ ds.getD 5 0 ∧ ds.getD 5 0 ≤ 2 ^ 40)
    (Dl : Addr) (wl : List Value) (nl : Nat) (hl : StrsAre wl (lf 0))
    (g' : Heap) (L' : Addr) (m' : Str → Option Value) (s : Shared) (qk : Flow → Shared → Prop) (ek : Value → Shared → Prop)
    (X : (K0 w.params).In g') (T : Top p loose mean mg mb g') (ha : @LT.lt Nat _ (L' + 1 + 1 + 1 + 1 + 1 + 1 + 1) D6) (hb : (@Ne Nat Dl D6) ∧ (@Ne Nat Dl (L' + 1 + 1 + 1 + 1 + 1 + 1 + 1)) ∧ (@Ne Nat Dl (L' + 1 + 1 + 1 + 1 + 1 + 1)) ∧ (@Ne Nat Dl (L' + 1 + 1 + 1 + 1 + 1)) ∧ (@Ne Nat Dl (L' + 1 + 1 + 1 + 1)) ∧ (@Ne Nat Dl (L' + 1 + 1 + 1)) ∧ (@Ne Nat Dl (L' + 1 + 1)) ∧ (@Ne Nat Dl (L' + 1)))
    (F : Fr g' L' s.heap (kstB m' [(Str.ofString "left", .ref Dl), (Str.ofString "text", .str x tt)]))
    (N : News g' L' s.heap [(Dl, W.listOf wl.toArray nl), (D6, W.listOf v6.toArray n6), (L' + 1 + 1 + 1 + 1 + 1 + 1 + 1, o7), (L' + 1 + 1 + 1 + 1 + 1 + 1, o6), (L' + 1 + 1 + 1 + 1 + 1, o5), (L' + 1 + 1 + 1 + 1, o4), (L' + 1 + 1 + 1, o3), (L' + 1 + 1, o2), (L' + 1, o1)])
    (hE : PassesOwn (model pw w) (callerA.deeper (envOfC (Str.ofString "law") sc21 L' fa cdv)) (envOfC (Str.ofString "law") sc21 L' fa cdv) ek)
    (hret : ∀ h' tk' m2, Fr g' L' h' m2 → qk (.ret (.bool true)) { s with heap := h', toks := tk' }) :
    wpAny (model pw w) (callerA.deeper (envOfC (Str.ofString "law") sc21 L' fa cdv)) (execs (bo21.drop 6) (envOfC (Str.ofString "law") sc21 L' fa cdv)) qk ek s := by
  obtain ⟨hp, gn, dr, tk, os⟩ := s
  dsimp only [kstB] at F N hret
  have B := below_caller g'
  w_on
  k_with_none
  delta bo21
  simp only [List.drop_succ_cons, List.drop_zero]
  k_steps
  (with_reducible rename Fr _ _ _ _ => F4); (with_reducible rename News _ _ _ _ => N4)
  refine Held.mk (For_invVF F4 rfl rfl ?_ (hE := hE))
  k_steps
  (with_reducible rename IsRange _ _ _ _ _ _ _ _ => hR); (with_reducible rename Fr _ _ _ _ => F5); (with_reducible rename News _ _ _ _ => N5)
  dsimp only at hR F5 N5 ⊢
  try clear F4 N4
  refine' Held.mk (kmv_range (n := 8) (fun c : NSt => [(c.D, W.listOf c.wl.toArray c.nl), (D6, W.listOf v6.toArray n6), (L' + 1 + 1 + 1 + 1 + 1 + 1 + 1, c.o7), (L' + 1 + 1 + 1 + 1 + 1 + 1, c.o6), (L' + 1 + 1 + 1 + 1 + 1, c.o5), (L' + 1 + 1 + 1 + 1, c.o4), (L' + 1 + 1 + 1, o3), (L' + 1 + 1, o2), (L' + 1, o1)]) (fun c => [(Str.ofString "left", .ref c.D)]) [Str.ofString "asked", Str.ofString "said", Str.ofString "whole", Str.ofString "found", Str.ofString "less"] (NOk L' D6 lf) ⟨Dl, wl, nl, lf 0, o4, o5, o6, o7⟩ rfl hR (by decide) (by decide) F5 N5 ?kk0 ⟨hl, rfl, hb, d4, d5, d6, d7⟩ ?turn ?done)
  case kk0 =>
    intro p hp
    rcases List.mem_cons.mp hp with rfl | hp
    · rfl
    · cases hp
  case turn =>
    rintro ⟨D, wl2, nl2, yl, p4, p5, p6, p7⟩ i t um hh tk I oI R hi8 ⟨hl2, hy2, hD2, ⟨v4, e4⟩, ⟨v5, e5⟩, ⟨v6', e6⟩, ⟨v7, e7⟩⟩ hoff F6 N6 hnext hretR
    dsimp only [kstB] at F6 hl2 hy2 hD2 e4 e5 e6 e7 N6 hoff
    simp only [List.forall_mem_cons, List.not_mem_nil, false_implies, implies_true, and_true] at hoff
    clear F5 N5 hR hret d4 d5 d6 d7
    have hoff2 : (@Ne Nat D I) ∧ (@Ne Nat D6 I) ∧ (@Ne Nat (L' + 1 + 1 + 1 + 1 + 1 + 1 + 1) I) ∧ (@Ne Nat (L' + 1 + 1 + 1 + 1 + 1 + 1) I) ∧ (@Ne Nat (L' + 1 + 1 + 1 + 1 + 1) I) ∧ (@Ne Nat (L' + 1 + 1 + 1 + 1) I) ∧ (@Ne Nat (L' + 1 + 1 + 1) I) ∧ (@Ne Nat (L' + 1 + 1) I) ∧ (@Ne Nat (L' + 1) I) := hoff
    clear hoff
    have fm : ∀ (z b : Int), 0 < b → 0 ≤ z.fmod b ∧ z.fmod b < b := fun z b hb => ⟨Int.fmod_nonneg_of_pos _ hb, Int.fmod_lt_of_pos _ hb⟩
    have m1 := fm ((i : Int).fdiv 2) 2 (by decide)
    have m2 := fm (i : Int) 2 (by decide)
    have m3 := fm ((i : Int) + (ds.getD 5 0).fdiv 4) 8 (by decide)
    clear fm
    have mk0 : Mark0 := trivial
    refine wpAny_execs_cons ?_
    k_steps
    (with_reducible rename Mark0 => mk1)
    clear mk1
    refine Held.mk (wpAny_execs_cons ?_)
    have mk0 : Mark0 := trivial
    k_steps
    (with_reducible rename Mark0 => mk1)
    clear mk1
    (with_reducible rename Fr _ _ _ _ => F7); (with_reducible rename News _ _ _ _ => N7)
    have hz : (ltS f i).length = 3 := by
      show (Txt.item f ((i : Int).fdiv 4) ++ Txt.item f (((i : Int).fdiv 2).fmod 2) ++ Txt.item f ((i : Int).fmod 2)).length = 3
      omega
    have hln := hlen i
    refine Held.mk (law_tail fa cdv x (ltS f i) i (((i : Int) + (ds.getD 5 0).fdiv 4).fmod 8) t tt _ _ tw hz hw m3 ⟨by omega, by omega⟩ (hto i hi8) o1 o2 o3 _ _ p6 p7 oI D6 D I d3 (by assumption) (by assumption) _ _ e6 e7 v6 n6 wl2 nl2 yl hl2 (by rw [hy2]; omega) g' L' _ _ R ek X T ha hD2 hoff2 (fr_kst (ps := [(Str.ofString "number", .int i t), (Str.ofString "left", .ref D), (Str.ofString "text", .str x tt)]) F7 (by simp only [List.forall_mem_cons, List.not_mem_nil, false_implies, implies_true, and_true]; exact ⟨rfl, rfl, rfl⟩)) N7 hE (fun D' wl' nl' o6' o7' h' tk' m3' F10 N10 e6' e7' hl10 n1 n2 hm1 hm2 => ?_))
    rw [hy2, hst i hi8] at hl10
    refine hnext _ ⟨⟨D', wl', nl', lf (i + 1), _, _, o6', o7'⟩, h', tk', m3', _, rfl, F10, N10, fun p hp => .tail _ hp, .head _, ?nI, ?nP, ?nS, ⟨hl10, rfl, n2, ⟨_, by assumption⟩, ⟨_, by assumption⟩, e6', e7'⟩⟩
    case nI =>
      simp only [List.forall_mem_cons, List.not_mem_nil, false_implies, implies_true, and_true]
      exact ⟨n1, hoff2.2⟩
    case nP =>
      intro p hp
      rcases List.mem_cons.mp hp with rfl | hp
      · exact hm1
      · cases hp
    case nS =>
      intro y y1 y2 y3
      simp only [List.forall_mem_cons, List.not_mem_nil, false_implies, implies_true, and_true] at y2
      rw [hm2 y y2 y3]
      by_cases yt : y = Str.ofString "text"
      · subst yt; rfl
      · simp only [kstB, if_neg y1, if_neg y2, if_neg yt, y3]
        rfl
  case done =>
    rintro ⟨D, wl2, nl2, yl, p4, p5, p6, p7⟩ um hh tk ⟨hl2, hy2, hD2, h4, h5, h6, h7⟩ F6 N6
    dsimp only [kstB] at F6 N6 hl2 hy2
    clear F5 N5 hR
    rw [hy2, hlf] at hl2
    try dsimp only
    exact law_last fa cdv x tw tt hw lo hok o1 o2 o3 p4 p5 p6 p7 d3 D6 v6 n6 D wl2 nl2 hl2 g' L' _ _ qk ek X T (fr_kst (ps := [(Str.ofString "left", .ref D), (Str.ofString "text", .str x tt)]) F6 (by simp only [List.forall_mem_cons, List.not_mem_nil, false_implies, implies_true, and_true]; exact ⟨rfl, rfl⟩)) N6 hE hret
end
end Mine

namespace Mine
open PySem PySem.W PySem.Calls PyProof.Rows
set_option maxRecDepth 100000
theorem compTurn_in (elt t0 i0 t1 i1 : PySem.Expr) (scope : Scope) (pos : Pos) (it acc : Value) (env : Env) :
    compTurn (.ListComp elt [⟨t0, i0, [], 0⟩, ⟨t1, i1, [], 0⟩] scope pos) 1 it acc env = (standAt i1.pos >>= fun _ => pyNext it >>= fun r => match r with
      | none => pure (.done .next)
      | some v => letOwnedTupleGo t1 it v >>= fun _ => assign t1 env v >>= fun _ =>
        (eval elt env >>= fun x => call (.builtin "list.append") [acc, x] >>= fun _ => pure ()) >>= fun _ =>
          again (.compLoop (.ListComp elt [⟨t0, i0, [], 0⟩, ⟨t1, i1, [], 0⟩] scope pos) 1 it acc env)) := by rfl
theorem compTurn_out (elt t0 i0 t1 i1 : PySem.Expr) (scope : Scope) (pos : Pos) (it acc : Value) (env : Env) :
    compTurn (.ListComp elt [⟨t0, i0, [], 0⟩, ⟨t1, i1, [], 0⟩] scope pos) 0 it acc env = (standAt i0.pos >>= fun _ => pyNext it >>= fun r => match r with
      | none => pure (.done .next)
      | some v => letOwnedTupleGo t0 it v >>= fun _ => assign t0 env v >>= fun _ =>
        (eval i1 env >>= fun x => standAt i1.pos >>= fun _ => foldedSetIterable i1 env x >>= fun x => holding [x] (pyIter x) >>= fun j => runOwn (.compStart (.ListComp elt [⟨t0, i0, [], 0⟩, ⟨t1, i1, [], 0⟩] scope pos) 1 j acc env) env >>= fun _ =>
          again (.compLoop (.ListComp elt [⟨t0, i0, [], 0⟩, ⟨t1, i1, [], 0⟩] scope pos) 0 it acc env))) := by rfl
section
variable {prog : Program} {w : World} {A : Around} {R : Result → Shared → Prop} {s : Shared}
theorem comp_start1 {elt t0 i0 t1 i1 scope pos it acc env}
    (h0 : codeAny (model prog w) A (.compLoop (.ListComp elt [⟨t0, i0, [], 0⟩, ⟨t1, i1, [], 0⟩] scope pos) 1 it acc env) R s)
    (h : wpAny (model prog w) A (pyIter it) (fun it' s' => codeAny (model prog w) A (.compLoop (.ListComp elt [⟨t0, i0, [], 0⟩, ⟨t1, i1, [], 0⟩] scope pos) 1 it' acc env) R s')
      (notedBy (model prog w) A env fun x s' => R (.error x) s') s) :
    codeAny (model prog w) A (.compStart (.ListComp elt [⟨t0, i0, [], 0⟩, ⟨t1, i1, [], 0⟩] scope pos) 1 it acc env) R s := by
  refine codeAny_of_tree ?_
  show wpAny _ _ ((compStart (.ListComp elt [⟨t0, i0, [], 0⟩, ⟨t1, i1, [], 0⟩] scope pos) 1 it acc env).onRaise (fun x => do noteFrame x env; standAt theWindowsPlace)) _ _ s
  refine wpAny_notedAt ?_
  unfold compStart
  show wpAny _ _ (ask >>= _) _ _ s
  refine wpAny_bind (wpAny_askSetting (wpAny_ite ?_))
  split
  · first
      | exact wpAny_bind (wpAny_pure (wpAny_pure (And.intro rfl h0)))
      | exact wpAny_pure (And.intro rfl h0)
  · first
      | exact wpAny_bind (wpAny_rule (wpAny_bind (wpAny_standAt (wpAny_bind (wpAny_mono h (fun it' s' h' => wpAny_pure (And.intro rfl h')) fun _ _ x => x)))))
      | (refine wpAny_bind (wpAny_rule ?_); show wpAny _ _ (standAt i1.pos >>= _) _ _ s; exact wpAny_bind (wpAny_standAt (wpAny_bind (wpAny_mono h (fun it' s' h' => wpAny_pure (And.intro rfl h')) fun _ _ x => x))))
theorem comp_start0 {elt t0 i0 t1 i1 scope pos it acc env}
    (h0 : codeAny (model prog w) A (.compLoop (.ListComp elt [⟨t0, i0, [], 0⟩, ⟨t1, i1, [], 0⟩] scope pos) 0 it acc env) R s)
    (h : wpAny (model prog w) A (pyIter it) (fun it' s' => codeAny (model prog w) A (.compLoop (.ListComp elt [⟨t0, i0, [], 0⟩, ⟨t1, i1, [], 0⟩] scope pos) 0 it' acc env) R s')
      (notedBy (model prog w) A env fun x s' => R (.error x) s') s) :
    codeAny (model prog w) A (.compStart (.ListComp elt [⟨t0, i0, [], 0⟩, ⟨t1, i1, [], 0⟩] scope pos) 0 it acc env) R s := codeAny_compStart_list h0 h
theorem comp_loop1 {elt t0 i0 t1 i1 : PySem.Expr} {scope : Scope} {pos : Pos} {it acc : Value} {env : Env} (I : Nat → Shared → Prop)
    (turn : ∀ n s, I n s → ∀ E, wpAny (model prog w) A (pyNext it) (fun r s₁ => match r with
      | none => R (.ok .next) s₁
      | some v => wpAny (model prog w) A (assign t1 env v) (fun _ s₂ => wpAny (model prog w) A (eval elt env) (fun x s₃ =>
          wpAny (model prog w) A (call (.builtin "list.append") [acc, x]) (fun _ s₄ => ∃ m, m < n ∧ I m s₄) E s₃) E s₂) E s₁) E s)
    (n : Nat) (h : I n s) (ht : ∀ v, letOwnedTupleGo t1 it v = pure () := by intro _; rfl) :
    codeAny (model prog w) A (.compLoop (.ListComp elt [⟨t0, i0, [], 0⟩, ⟨t1, i1, [], 0⟩] scope pos) 1 it acc env) R s := by
  refine codeAny_loop rfl I (fun n s hI => ?_) n h
  show wpAny _ _ ((compTurn (.ListComp elt [⟨t0, i0, [], 0⟩, ⟨t1, i1, [], 0⟩] scope pos) 1 it acc env).onRaise (fun x => do noteFrame x env; theTreesLotGoes x)) _ _ s
  refine wpAny_noted ?_
  rw [compTurn_in]
  refine wpAny_bind (wpAny_standAt (wpAny_bind (wpAny_mono (turn n s hI _) (fun r s₁ h₁ => ?_) fun _ _ h' => h')))
  cases r with
  | none => exact wpAny_pure h₁
  | some v =>
    refine wpAny_bind (wpAny_of_eq (ht v) ?_)
    exact wpAny_bind (wpAny_mono h₁ (fun _ s₂ h₂ => wpAny_bind (wpAny_bind (wpAny_mono h₂ (fun x s₃ h₃ => wpAny_bind (wpAny_mono h₃
      (fun _ s₄ h₄ => wpAny_pure (wpAny_pure ⟨rfl, h₄⟩)) fun _ _ h' => h')) fun _ _ h' => h'))) fun _ _ h' => h')
theorem comp_loop0 {elt t0 i0 t1 i1 : PySem.Expr} {scope : Scope} {pos : Pos} {it acc : Value} {env : Env} (I : Nat → Shared → Prop)
    (hs : ∀ x, foldedSetIterable i1 env x = pure x)
    (turn : ∀ n s, I n s → ∀ E, wpAny (model prog w) A (pyNext it) (fun r s₁ => match r with
      | none => R (.ok .next) s₁
      | some v => wpAny (model prog w) A (assign t0 env v) (fun _ s₂ => wpAny (model prog w) A (eval i1 env) (fun x s₃ =>
          wpAny (model prog w) A (pyIter x) (fun j s₄ => codeAny (model prog w) A (.compStart (.ListComp elt [⟨t0, i0, [], 0⟩, ⟨t1, i1, [], 0⟩] scope pos) 1 j acc env) (fun r s₅ => match r with
            | .ok _ => ∃ m, m < n ∧ I m s₅
            | .error _ => False) s₄) E s₃) E s₂) E s₁) E s)
    (n : Nat) (h : I n s) (ht : ∀ v, letOwnedTupleGo t0 it v = pure () := by intro _; rfl) :
    codeAny (model prog w) A (.compLoop (.ListComp elt [⟨t0, i0, [], 0⟩, ⟨t1, i1, [], 0⟩] scope pos) 0 it acc env) R s := by
  refine codeAny_loop rfl I (fun n s hI => ?_) n h
  show wpAny _ A ((compTurn (.ListComp elt [⟨t0, i0, [], 0⟩, ⟨t1, i1, [], 0⟩] scope pos) 0 it acc env).onRaise (fun x => do noteFrame x env; theTreesLotGoes x)) _ _ s
  refine wpAny_noted ?_
  rw [compTurn_out]
  refine wpAny_bind (wpAny_standAt (wpAny_bind (wpAny_mono (turn n s hI _) (fun r s₁ h₁ => ?_) fun _ _ h' => h')))
  cases r with
  | none => exact wpAny_pure h₁
  | some v =>
    refine wpAny_bind (wpAny_of_eq (ht v) ?_)
    refine wpAny_bind (wpAny_mono h₁ (fun _ s₂ h₂ => ?_) fun _ _ h' => h')
    refine wpAny_bind (wpAny_mono h₂ (fun x s₃ h₃ => ?_) fun _ _ h' => h')
    refine wpAny_bind (wpAny_standAt (wpAny_bind (wpAny_of_eq (hs x) ?_)))
    refine wpAny_bind (wpAny_holding (wpAny_mono h₃ (fun j s₄ h₄ => ?_) fun _ _ h' => h'))
    refine wpAny_bind (wpAny_runOwn (codeAny_mono h₄ (fun r s₅ h₅ => ?_)))
    cases r with
    | ok f => exact wpAny_pure ⟨rfl, h₅⟩
    | error e => exact h₅.elim
end
noncomputable def signsOf (f : Str) : List Str := f.cps.toList.map fun c => (⟨#[c]⟩ : Str)
section
open PyProof.Rows.LCg
variable {prog : Program} {w : World} {A : Around} {E : Value → Shared → Prop} {h₀ : Heap} {L : Addr} {m : Str → Option Value} {env : Env}
theorem block_N {elt i0 i1 : PySem.Expr} {x y : Str} {px py : Pos} {scope : Scope} {cl : List (Str × Addr)} {pos : Pos} {s₂ : Shared} {I : Addr} {fp : List Addr} {n : Nat} {St : Nat → Heap → Prop} {news : List (Addr × Obj)} {vs : List Value} {ks : List Str} {f : Str} {tf : Tok}
    {RR : Value → Addr → Result → Shared → Prop}
    (W : Walks prog w A I fp [I] n (fun i v => vs.toArray[i]? = some v) St) (hh : A.handled = none) (hn : ks.length = n) (hi : StrsAre vs ks) (hsz : n * f.cps.size + f.cps.size ≤ sizeLine) (hIo : ∀ i h, St i h → ∃ o, h.get? I = some o)
    (hcell : ∀ y ∈ scope.names, y.2 ≠ .cell) (hkind : scope.kind = .function) (hx : scope.names.lookup x = some .local) (hy : scope.names.lookup y = some .local) (hxy : x ≠ y) (hst : St 0 s₂.heap) (hfp : ∀ b ∈ fp, b < s₂.heap.objs.size)
    (F : Fr h₀ L s₂.heap m) (N : News h₀ L s₂.heap news) (hIL : L ≠ I) (hI₀ : h₀.get? I = none) (off : ∀ p ∈ news, p.1 ≠ I)
    (hs1 : ∀ C x, foldedSetIterable i1 (compEnvC scope cl C env) x = pure x)
    (he1 : ∀ I oI C oC D oD m₂ h tk (E' Q' : Value → Shared → Prop), NsObj oC m₂ → Fr h₀ L h m → News h₀ L h ((I, oI) :: (C, oC) :: (D, oD) :: news) → Q' (.str f tf) { s₂ with heap := h, toks := tk } → wpAny (model prog w) A (eval i1 (compEnvC scope cl C env)) Q' E' { s₂ with heap := h, toks := tk })
    (helt : ∀ a ta b tb I oI C oC D oD m₂ h tk (E' Q' : Value → Shared → Prop), a ∈ ks → b ∈ signsOf f → NsObj oC m₂ → m₂ x = some (.str a ta) → m₂ y = some (.str b tb) → Fr h₀ L h m → News h₀ L h ((I, oI) :: (C, oC) :: (D, oD) :: news) →
      (∀ t' tk', Q' (.str (a ++ b) t') { s₂ with heap := h, toks := tk' }) → wpAny (model prog w) A (eval elt (compEnvC scope cl C env)) Q' E' { s₂ with heap := h, toks := tk })
    (hRR : ∀ D C h tk m' ys, Fr h₀ L h m → News h₀ L h ((D, lst ys) :: news) → Off1 D news → h.Ns C m' → h₀.get? C = none → h₀.get? D = none → C ≠ L → D ≠ L → C ≠ D → (∀ p ∈ news, p.1 ≠ C) → StrsAre ys (ks.flatMap fun a => (signsOf f).map fun b => a ++ b) → RR (.ref D) C (.ok .next) { s₂ with heap := h, toks := tk }) :
    wpAny (model prog w) A (newList []) (fun acc s₃ => wpAny (model prog w) A (newFunctionEnv scope env.globals cl [] env.qual none .none (some env)) (fun cenv s₄ =>
      codeAny (model prog w) A (.compStart (.ListComp elt [⟨.Name x px, i0, [], 0⟩, ⟨.Name y py, i1, [], 0⟩] scope pos) 0 (.ref I) acc { cenv with scope := relabel scope env }) (RR acc cenv.locals) s₄) E s₃) E s₂ := by
  refine wpAny_newObj_type (wpAny_newFunctionEnv hcell (by intro y hy; simp at hy) (fun h₁ hns₁ hsb₁ => ?_) hkind)
  dsimp only at hns₁ hsb₁ ⊢
  generalize hH2 : s₂.heap.push { cls := .type "list", dict := none, data := .seq ([] : List Value).toArray } = H2 at hns₁ hsb₁ ⊢
  have hC : H2.objs.size = s₂.heap.objs.size + 1 := by rw [← hH2, Heap.size_push]
  have hDC : s₂.heap.objs.size ≠ H2.objs.size := by rw [hC]; exact Nat.ne_of_lt (Nat.lt_succ_self _)
  have below : ∀ b, b < s₂.heap.objs.size → b ≠ H2.objs.size ∧ b ≠ s₂.heap.objs.size := fun b hb => ⟨by rw [hC]; exact Nat.ne_of_lt (Nat.lt_succ_of_lt hb), Nat.ne_of_lt hb⟩
  have hDf : s₂.heap.objs.size ∉ fp := fun hm => Nat.lt_irrefl _ (hfp _ hm)
  have hCf : H2.objs.size ∉ fp := fun hm => by have := hfp _ hm; rw [hC] at this; exact Nat.lt_irrefl _ (Nat.lt_of_succ_lt this)
  have hIf : I ∈ fp := W.sub I (List.mem_singleton.mpr rfl)
  have hIlt : I < s₂.heap.objs.size := hfp I hIf
  have old : ∀ b o, s₂.heap.get? b = some o → h₁.get? b = some o := fun b o e => hsb₁.extBut b o (below b (Heap.lt_size e)).1 (Heap.get?_push_of_some _ (hH2 ▸ Heap.get?_push_of_some _ e))
  have hacc : h₁.get? s₂.heap.objs.size = some (lst []) := hsb₁.extBut _ _ hDC (Heap.get?_push_of_some _ (hH2 ▸ Heap.get?_push_size _ rfl))
  have hst₁ : St 0 h₁ := W.frame _ _ _ hst fun b _ o e => old b o e
  have fresh : ∀ a, s₂.heap.objs.size ≤ a → s₂.heap.get? a = none := fun a ha => by
    cases e : s₂.heap.get? a with
    | none => rfl
    | some o' => exact absurd (Heap.lt_size e) (Nat.not_lt.mpr ha)
  have fresh₀ : ∀ a, s₂.heap.objs.size ≤ a → h₀.get? a = none := fun a ha => by
    cases e : h₀.get? a with
    | none => rfl
    | some o' => have := F.keep a o' e; rw [fresh a ha] at this; cases this
  have hD₀ : h₀.get? s₂.heap.objs.size = none := fresh₀ _ (Nat.le_refl _)
  have hC₀ : h₀.get? H2.objs.size = none := fresh₀ _ (by rw [hC]; exact Nat.le_succ _)
  have hLlt : L < s₂.heap.objs.size := F.ns.lt
  have hDL : s₂.heap.objs.size ≠ L := Ne.symm (below L hLlt).2
  have hCL : H2.objs.size ≠ L := Ne.symm (below L hLlt).1
  have hCI : I ≠ H2.objs.size := (below I hIlt).1
  have hDI : I ≠ s₂.heap.objs.size := (below I hIlt).2
  have offN : ∀ p ∈ news, p.1 ≠ I ∧ p.1 ≠ H2.objs.size ∧ p.1 ≠ s₂.heap.objs.size := fun p hp => ⟨off p hp, (below _ (Heap.lt_size (N p hp).1)).1, (below _ (Heap.lt_size (N p hp).1)).2⟩
  have off₀ : Off3 I H2.objs.size s₂.heap.objs.size news := Off3.of offN
  generalize hDn : s₂.heap.objs.size = D at *
  generalize hCn : H2.objs.size = C at *
  let G : Str → List Str := fun a => (signsOf f).map fun b => a ++ b
  have hsl : (signsOf f).length = f.cps.size := by unfold signsOf; simp
  -- the facts of a heap between two steps
  let Good : Heap → Nat → List Value → (Str → Option Value) → Prop := fun h i ys m' => St i h ∧ Fr h₀ L h m ∧ h.Ns C m' ∧ News h₀ L h ((D, lst ys) :: news)
  have butJ : ∀ {h h' : Heap} {i ys m'} {J : Addr}, Good h i ys m' → J ∉ fp → J ≠ L → J ≠ C → J ≠ D → (∀ p ∈ news, p.1 ≠ J) → h₀.get? J = none → (∀ b o, b ∉ [J] → h.get? b = some o → h'.get? b = some o) → Good h' i ys m' := by
    rintro h h' i ys m' J ⟨g1, g2, g3, g4⟩ j1 j2 j3 j4 j5 j6 hk
    refine ⟨W.frame _ _ _ g1 fun b hb o e => hk b o (fun q => j1 (List.mem_singleton.mp q ▸ hb)) e, fr_but g2 hk (Ne.symm j2) j6, g3.at' fun o e => hk _ o (fun q => j3 (List.mem_singleton.mp q).symm) e, news_but g4 hk fun p hp => ?_⟩
    rcases List.mem_cons.mp hp with rfl | hp
    · exact Ne.symm j4
    · exact j5 p hp
  have butC : ∀ {h h' : Heap} {i ys m' m''}, Good h i ys m' → h'.Ns C m'' → Heap.SameBut C h h' → Good h' i ys m'' := by
    rintro h h' i ys m' m'' ⟨g1, g2, g3, g4⟩ hn hs
    refine ⟨W.frame _ _ _ g1 fun b hb o e => hs.extBut b o (fun q => hCf (q ▸ hb)) e, g2.change hs hCL hC₀, hn, fun p hp => ?_⟩
    have z := g4 p hp
    refine ⟨hs.extBut _ _ ?_ z.1, z.2⟩
    rcases List.mem_cons.mp hp with rfl | hp
    · exact hDC
    · exact (offN p hp).2.1
  have led : ∀ {h : Heap} {i ys m'}, Good h i ys m' → ∃ oI oC, NsObj oC m' ∧ News h₀ L h ((I, oI) :: (C, oC) :: (D, lst ys) :: news) := by
    rintro h i ys m' ⟨g1, g2, g3, g4⟩
    obtain ⟨oI, heI⟩ := hIo _ _ g1
    obtain ⟨oC, heC, hoC⟩ := ns_obj g3
    refine ⟨oI, oC, hoC, fun p hp => ?_⟩
    rcases List.mem_cons.mp hp with rfl | hp
    · exact ⟨heI, Ne.symm hIL, hI₀⟩
    · rcases List.mem_cons.mp hp with rfl | hp
      · exact ⟨heC, hCL, hC₀⟩
      · exact g4 p hp
  have butD : ∀ {h h' : Heap} {i ys m'} {v : Value}, Good h i ys m' → Heap.SameBut D h h' → h'.get? D = some (lst (ys ++ [v])) → Good h' i (ys ++ [v]) m' := by
    rintro h h' i ys m' v ⟨g1, g2, g3, g4⟩ hs hD
    refine ⟨W.frame _ _ _ g1 fun b hb o e => hs.extBut b o (fun q => hDf (q ▸ hb)) e, g2.change hs hDL hD₀, g3.sameBut hs (Ne.symm hDC), fun p hp => ?_⟩
    rcases List.mem_cons.mp hp with rfl | hp
    · exact ⟨hD, hDL, hD₀⟩
    · have z := g4 p (.tail _ hp)
      exact ⟨hs.extBut _ _ (offN p hp).2.2 z.1, z.2⟩
  have loop : ∀ s₃ : Shared, s₃ = { s₂ with heap := h₁, toks := s₂.toks + ([] : List (Str × Value)).length } →
      codeAny (model prog w) A (.compLoop (.ListComp elt [⟨.Name x px, i0, [], 0⟩, ⟨.Name y py, i1, [], 0⟩] scope pos) 0 (.ref I) (.ref D) (compEnvC scope cl C env)) (RR (.ref D) C) s₃ := by
    rintro s₃ rfl
    refine comp_loop0
      (fun k s' => ∃ h' tk i ys m', s' = { s₂ with heap := h', toks := tk } ∧ i ≤ n ∧ k = n + 1 - i ∧ StrsAre ys ((ks.take i).flatMap G) ∧ ys.length = i * f.cps.size ∧ Good h' i ys m') (hs1 C) ?_ (n + 1)
      ⟨h₁, _, 0, [], _, rfl, Nat.zero_le _, rfl, by simpa using StrsAre.nil, by simp, hst₁, F.keeps old, hns₁, fun p hp => ?_⟩
    · rintro k s' ⟨h', tk, i, ys, m', rfl, hin, rfl, hys, hyl, g⟩ E'
      by_cases hlt : i < n
      · refine W.item i _ _ _ hlt g.1 fun v h₂ tk₂ hPv hst₂ hk₂ => ?_
        obtain ⟨a, ta, hka, rfl⟩ : ∃ a t, ks[i]? = some a ∧ v = .str a t := by
          obtain ⟨j, e⟩ := StrsAre.item hi i v (by simpa using hPv)
          obtain ⟨t, e1, e2⟩ := e
          exact ⟨_, _, e2, e1⟩
        have g₂ : Good h₂ (i + 1) ys m' := by
          refine ⟨hst₂, fr_but g.2.1 hk₂ hIL hI₀, g.2.2.1.at' fun o e => hk₂ _ o (by simpa using Ne.symm hCI) e, news_but g.2.2.2 hk₂ fun p hp => ?_⟩
          rcases List.mem_cons.mp hp with rfl | hp
          · exact Ne.symm hDI
          · exact off p hp
        dsimp only
        refine wpAny_assign_Name (wpAny_storeName_local (lookup_relabel_local hx) g₂.2.2.1 (fun h₃ hn₃ hs₃ => ?_) (by simp [compEnvC, relabel, hkind]))
        have g₃ := butC g₂ hn₃ hs₃
        obtain ⟨oI, oC, hoC, N₃⟩ := led g₃
        refine he1 I oI C oC D _ _ h₃ _ _ _ hoC g₃.2.1 N₃ ?_
        refine wpAny_pyIter_str fun o St2 hW2 hst2 => ?_
        have W2 := hW2 A hh
        dsimp only at W2 hst2 ⊢
        have hJ₀ : h₀.get? h₃.objs.size = none := next_is_new g₃.2.1
        have hDJ : D < h₃.objs.size := Heap.lt_size (g₃.2.2.2 _ (.head _)).1
        have hJf : h₃.objs.size ∉ fp := fun hm => Nat.lt_irrefl _ (Nat.lt_trans (hfp _ hm) hDJ)
        have hJD : h₃.objs.size ≠ D := Ne.symm (Nat.ne_of_lt hDJ)
        have hJC : h₃.objs.size ≠ C := Ne.symm (Nat.ne_of_lt g₃.2.2.1.lt)
        have hJL : h₃.objs.size ≠ L := Ne.symm (Nat.ne_of_lt g₃.2.1.ns.lt)
        have hJn : ∀ p ∈ news, p.1 ≠ h₃.objs.size := fun p hp => Nat.ne_of_lt (Heap.lt_size (g₃.2.2.2 p (.tail _ hp)).1)
        generalize h₃.objs.size = J at *
        have g₄ : Good (h₃.push o) (i + 1) ys _ := butJ g₃ hJf hJL hJC hJD hJn hJ₀ fun b o' _ e => Heap.get?_push_of_some _ e
        generalize h₃.push o = h₄ at *
        have hak : a ∈ ks := List.mem_of_getElem? hka
        have inner : ∀ tkk, codeAny (model prog w) A (.compLoop (.ListComp elt [⟨.Name x px, i0, [], 0⟩, ⟨.Name y py, i1, [], 0⟩] scope pos) 1 (.ref J) (.ref D) (compEnvC scope cl C env)) (fun r s₅ => match r with
            | .ok _ => ∃ mm, mm < n + 1 - i ∧ ∃ h' tk i ys m', s₅ = { s₂ with heap := h', toks := tk } ∧ i ≤ n ∧ mm = n + 1 - i ∧ StrsAre ys ((ks.take i).flatMap G) ∧ ys.length = i * f.cps.size ∧ Good h' i ys m'
            | .error _ => False) { s₂ with heap := h₄, toks := tkk } := by
          intro tkk
          refine comp_loop1 (fun k1 s' => ∃ h' tk j ys' m'', s' = { s₂ with heap := h', toks := tk } ∧ j ≤ f.cps.size ∧ k1 = f.cps.size + 1 - j ∧ StrsAre ys' ((ks.take i).flatMap G ++ (G a).take j) ∧ ys'.length = i * f.cps.size + j ∧ Good h' (i + 1) ys' m'' ∧ St2 j h' ∧ m'' x = some (.str a ta)) ?_ (f.cps.size + 1)
            ⟨h₄, tkk, 0, ys, _, rfl, Nat.zero_le _, rfl, by simpa using hys, by rw [hyl]; rfl, g₄, hst2, by simp⟩
          rintro k1 s' ⟨h5, tk5, j, ys', m'', rfl, hj, rfl, hys', hyl', g5, st5, hm5⟩ E''
          by_cases hjl : j < f.cps.size
          · refine W2.item j _ _ _ hjl st5 fun v h6 tk6 hPv st6 hk6 => ?_
            obtain ⟨c, u, hc, rfl⟩ := hPv
            have g6 := butJ g5 hJf hJL hJC hJD hJn hJ₀ hk6
            dsimp only
            refine wpAny_assign_Name (wpAny_storeName_local (lookup_relabel_local hy) g6.2.2.1 (fun h7 hn7 hs7 => ?_) (by simp [compEnvC, relabel, hkind]))
            have g7 := butC g6 hn7 hs7
            have st7 : St2 (j + 1) h7 := W2.frame _ _ _ st6 fun b hb o' e => hs7.extBut b o' (fun q => hJC ((List.mem_singleton.mp hb).symm.trans q)) e
            obtain ⟨oI, oC, hoC, N7⟩ := led g7
            have hcs : (⟨#[c]⟩ : Str) ∈ signsOf f := by
              unfold signsOf
              refine List.mem_map.mpr ⟨c, ?_, rfl⟩
              rw [Array.mem_toList_iff]
              exact Array.mem_of_getElem? hc
            refine helt a ta ⟨#[c]⟩ u I oI C oC D _ _ h7 _ _ _ hak hcs hoC (by simp [hxy, hm5]) (by simp) g7.2.1 N7 fun t' tk' => ?_
            have hle : ys'.length ≤ sizeLine := by
              rw [hyl']
              have h1 : i * f.cps.size ≤ n * f.cps.size := Nat.mul_le_mul_right _ hin
              omega
            refine append_at (hsz := by show ys'.toArray.size ≤ sizeLine; rw [List.size_toArray]; exact hle) (g7.2.2.2 _ (.head _)).1 fun h8 hs8 hD8 => ?_
            refine ⟨f.cps.size + 1 - (j + 1), by omega, h8, tk', j + 1, ys' ++ [.str (a ++ ⟨#[c]⟩) t'], _, rfl, hjl, rfl, ?_, by rw [List.length_append, List.length_singleton, hyl']; rfl, butD g7 hs8 (hD8.trans (congrArg some (lst_snoc ys' _))), ?_, by simp [hxy, hm5]⟩
            · have e : (G a)[j]? = some (a ++ ⟨#[c]⟩) := by
                show ((signsOf f).map fun b => a ++ b)[j]? = _
                unfold signsOf
                rw [List.getElem?_map, List.getElem?_map, Array.getElem?_toList, hc]
                rfl
              rw [List.take_add_one, e, ← List.append_assoc]
              exact hys'.append' (.cons _ _ .nil)
            · exact W2.frame _ _ _ st7 fun b hb o' e => hs8.extBut b o' (fun q => hJD ((List.mem_singleton.mp hb).symm.trans q)) e
          · obtain rfl : j = f.cps.size := Nat.le_antisymm hj (Nat.not_lt.mp hjl)
            refine W2.done _ _ _ st5 fun h6 tk6 hk6 => ?_
            have g6 := butJ g5 hJf hJL hJC hJD hJn hJ₀ hk6
            refine ⟨n + 1 - (i + 1), by omega, h6, tk6, i + 1, ys', _, rfl, hlt, rfl, ?_, ?_, g6⟩
            · rw [List.take_add_one, hka, List.flatMap_append]
              have e : (G a).take f.cps.size = G a := List.take_of_length_le (by show ((signsOf f).map _).length ≤ _; rw [List.length_map, hsl]; exact Nat.le_refl _)
              rw [e] at hys'
              simpa using hys'
            · rw [hyl', Nat.succ_mul]
        exact comp_start1 (inner _) (W2.self 0 _ _ _ hst2 (inner _))
      · obtain rfl : i = n := Nat.le_antisymm hin (Nat.not_lt.mp hlt)
        refine W.done _ _ _ g.1 fun h₂ tk₂ hk₂ => ?_
        have ht : ks.take i = ks := List.take_of_length_le (by rw [hn]; exact Nat.le_refl _)
        rw [ht] at hys
        refine hRR D C h₂ tk₂ _ ys (fr_but g.2.1 hk₂ hIL hI₀) (news_but g.2.2.2 hk₂ fun p hp => ?_) off₀.one (g.2.2.1.at' fun o e => hk₂ _ o (by simpa using Ne.symm hCI) e) hC₀ hD₀ hCL hDL (Ne.symm hDC) (fun p hp => (offN p hp).2.1) hys
        rcases List.mem_cons.mp hp with rfl | hp
        · exact Ne.symm hDI
        · exact off p hp
    · rcases List.mem_cons.mp hp with rfl | hp
      · exact ⟨hacc, hDL, hD₀⟩
      · exact ⟨old _ _ (N p hp).1, (N p hp).2⟩
  exact comp_start0 (loop _ rfl) (W.self 0 _ _ _ hst₁ (loop _ rfl))
theorem Assign_nest {elt i0 i1 : PySem.Expr} {x y z : Str} {px py pz : Pos} {scope : Scope} {cl : List (Str × Addr)} {pos spos : Pos} {s : Shared} {Q : Flow → Shared → Prop} {ax : Addr} {kk : Nat} {news : List (Addr × Obj)} {vs : List Value} {ks : List Str} {f : Str} {tf : Tok}
    (F₀ : Fr h₀ L s.heap m) (hLe : env.locals = L)
    (hsw : swapsWith (.ListComp elt [⟨.Name x px, i0, [], 0⟩, ⟨.Name y py, i1, [], 0⟩] scope pos) (some (.Name z pz)) spos.line env = pure true)
    (hclos : closureFor scope env = pure cl) (hcell : ∀ z ∈ scope.names, z.2 ≠ .cell) (hkind : scope.kind = .function)
    (hnames : ∀ z ∈ scope.names, z.2 = .local → scope.names.lookup z.1 = some .local) (hx : scope.names.lookup x = some .local) (hy : scope.names.lookup y = some .local) (hxy : x ≠ y)
    (hz : env.kindOf z = some .local) (hp : (env.scope.kind == .class || (env.scope.kind == .module && env.locals != env.globals)) = false)
    (hh : A.handled = none) (N : News h₀ L s.heap news) (hm : (ax, W.listOf vs.toArray kk) ∈ news) (hi : StrsAre vs ks) (hsz : vs.length * f.cps.size + f.cps.size ≤ sizeLine)
    (he0 : ∀ Q' : Value → Shared → Prop, Q' (.ref ax) s → wpAny (model prog w) A (eval i0 env) Q' E s)
    (hs0 : ∀ x, foldedSetIterable i0 env x = pure x) (hs1 : ∀ C x, foldedSetIterable i1 (compEnvC scope cl C env) x = pure x)
    (he1 : ∀ g I oI C oC D oD m₂ h tk (E' Q' : Value → Shared → Prop), NsObj oC m₂ → Fr h₀ L h m → News h₀ L h ((I, oI) :: (C, oC) :: (D, oD) :: news) → Q' (.str f tf) { s with heap := h, toks := tk } → g = s → wpAny (model prog w) A (eval i1 (compEnvC scope cl C env)) Q' E' { s with heap := h, toks := tk })
    (helt : ∀ a ta b tb I oI C oC D oD m₂ h tk (E' Q' : Value → Shared → Prop), a ∈ ks → b ∈ signsOf f → NsObj oC m₂ → m₂ x = some (.str a ta) → m₂ y = some (.str b tb) → Fr h₀ L h m → News h₀ L h ((I, oI) :: (C, oC) :: (D, oD) :: news) →
      (∀ t' tk', Q' (.str (a ++ b) t') { s with heap := h, toks := tk' }) → wpAny (model prog w) A (eval elt (compEnvC scope cl C env)) Q' E' { s with heap := h, toks := tk })
    (fin : ∀ D ys h tk, Fr h₀ L h (fun v => if v = z then some (.ref D) else m v) → News h₀ L h ((D, lst ys) :: news) → Off1 D news → StrsAre ys (ks.flatMap fun a => (signsOf f).map fun b => a ++ b) → Q .next { s with heap := h, toks := tk }) :
    wpAny (model prog w) A (exec (.Assign [.Name z pz] (.ListComp elt [⟨.Name x px, i0, [], 0⟩, ⟨.Name y py, i1, [], 0⟩] scope pos) spos) env) Q E s := by
  subst hLe
  rw [exec_Assign_Name_used _ _ _ _ hsw]
  refine wpAny_bind (wpAny_standAt (wpAny_bind ?_))
  show wpAny _ A (do let _ ← comprehension (.ListComp elt [⟨.Name x px, i0, [], 0⟩, ⟨.Name y py, i1, [], 0⟩] scope pos) scope env _ (newList []) false (eval i0 env) (some (assign (.Name z pz) env))) _ _ s
  refine wpAny_bind (wpAny_mono (wpAny_comprehension_free (use := some (assign (.Name z pz) env)) (Q := fun _ s' => Q .next s') rfl hs0 hclos hkind hnames
    (he0 _ ?_)) (fun _ s' hq => wpAny_pure (wpAny_pure hq)) fun _ _ e => e)
  have hl : s.heap.IsList ax vs.toArray := PySem.IsL.isList (n := kk) (N _ hm).1
  have hlt : ax < s.heap.objs.size := Heap.lt_size (N _ hm).1
  refine wpAny_pyIter_list hl ?_
  have up : ∀ b o, s.heap.get? b = some o → (s.heap.push { cls := .type "list_iterator", data := .fields #[.ref ax, .int 0 0] }).get? b = some o := fun b o e => Heap.get?_push_of_some _ e
  refine block_N (f := f) (tf := tf) (ks := ks) (vs := vs) (Walks.list hh s.heap.objs.size ax (Nat.ne_of_lt hlt) vs.toArray) hh (by rw [List.size_toArray]; exact hi.length.symm) hi (by rw [List.size_toArray]; exact hsz) (fun i h st => by obtain ⟨o, e, _⟩ := st.1; exact ⟨o, e⟩) hcell hkind hx hy hxy ⟨⟨_, Heap.get?_push_size _ rfl, rfl, rfl⟩, hl.push _⟩ (fun b hb => ?_)
    (F₀.keeps up) (N.grown up) (Nat.ne_of_lt F₀.ns.lt) (next_is_new F₀) (fun p hp => Nat.ne_of_lt (Heap.lt_size (N p hp).1)) hs1 (fun I oI C oC D oD m₂ h tk E' Q' a b c d => he1 s I oI C oC D oD m₂ h tk E' Q' a b c d rfl) helt ?_
  · show b < (s.heap.push _).objs.size
    rw [Heap.size_push]
    rcases List.mem_cons.mp hb with rfl | hb
    · exact Nat.lt_succ_self _
    · rw [List.mem_singleton.mp hb]; exact Nat.lt_succ_of_lt hlt
  · intro D C h' tk m' ys F' N' o1 hn hC₀ hD₀ hCL hDL hCD offC hys
    show wpAny _ A (assign (.Name z pz) env (.ref D)) _ _ _
    refine wpAny_assign_Name (wpAny_storeName_local hz F'.ns (fun h₂ hn₂ hs₂ => ?_) hp)
    have hL₀ : h₀.get? env.locals = none := Heap.get?_none_of_le F'.above
    have F₂ : Fr h₀ env.locals h₂ (fun v => if v = z then some (.ref D) else m v) := ⟨hn₂, fun b o e => hs₂.extBut b o (fun q => by rw [q, hL₀] at e; cases e) (F'.keep b o e), F'.above⟩
    refine ⟨m', hn.sameBut hs₂ hCL, fun h'' hs'' => fin D ys h'' _ (F₂.change hs'' hCL hC₀) (fun p hp => ?_) o1 hys⟩
    have z := N' p hp
    refine ⟨hs''.extBut _ _ ?_ (hs₂.extBut _ _ z.2.1 z.1), z.2⟩
    rcases List.mem_cons.mp hp with rfl | hp
    · exact Ne.symm hCD
    · exact offC p hp
end
end Mine

namespace Mine
open PySem PySem.W PySem.Calls PyProof.Rows
set_option maxRecDepth 100000
set_option maxHeartbeats 4000000
variable {w : World} {p : Program} {loose : List Str} {mean : ExcName → Option Value} {mg mb : Str → Option Value}
noncomputable def famS : List Str := [Str.ofString "hp", Str.ofString "st", Str.ofString "km", Str.ofString "fi"]
noncomputable def wordI (f : Str) (ds : List Int) : Str := Txt.join (Str.ofString "") ((rangeKs 0 5).map fun k => Txt.item f ((ds.getD k.toNat 0).fmod 2))
noncomputable def leftS (f : Str) : Nat → List Str
  | 0 => [Str.ofString ""]
  | n + 1 => (leftS f n).flatMap fun a => (signsOf f).map fun b => a ++ b
theorem str_app (a b : Str) : (a ++ b).length = a.length + b.length := by
  show (a ++ b).cps.size = _
  show (a.cps ++ b.cps).size = _
  rw [Array.size_append]; rfl
theorem signs_len {f b : Str} (h : b ∈ signsOf f) : b.length = 1 := by
  unfold signsOf at h
  obtain ⟨c, _, rfl⟩ := List.mem_map.mp h
  rfl
theorem leftS_len (f : Str) : ∀ (n : Nat) (a : Str), a ∈ leftS f n → a.length = n
  | 0, a, h => by rw [List.mem_singleton.mp h]; decide
  | n + 1, a, h => by
    obtain ⟨y, hy, hz⟩ := List.mem_flatMap.mp h
    obtain ⟨b, hb, rfl⟩ := List.mem_map.mp hz
    rw [str_app, leftS_len f n y hy, signs_len hb]
theorem flat_len {α β : Type} (g : α → List β) (k : Nat) (h : ∀ a, (g a).length = k) : ∀ l : List α, (l.flatMap g).length = l.length * k
  | [] => by simp
  | a :: r => by rw [List.flatMap_cons, List.length_append, h, flat_len g k h r, List.length_cons, Nat.succ_mul, Nat.add_comm]
theorem leftS_count {f : Str} (hf : f.length = 2) : ∀ n, (leftS f n).length = 2 ^ n
  | 0 => rfl
  | n + 1 => by
    have hl : (signsOf f).length = 2 := by unfold signsOf; rw [List.length_map, ← hf]; simp [Str.length]
    rw [leftS, flat_len _ 2 (fun a => by rw [List.length_map, hl]), leftS_count hf n, Nat.pow_succ]
structure LOk (L' D6 : Addr) (f : Str) (i : Nat) (c : Addr × List Value × Nat) : Prop where
  hl : StrsAre c.2.1 (leftS f i)
  hD : (@Ne Nat c.1 D6) ∧ (@Ne Nat c.1 (L' + 1 + 1 + 1 + 1 + 1 + 1 + 1)) ∧ (@Ne Nat c.1 (L' + 1 + 1 + 1 + 1 + 1 + 1)) ∧ (@Ne Nat c.1 (L' + 1 + 1 + 1 + 1 + 1)) ∧ (@Ne Nat c.1 (L' + 1 + 1 + 1 + 1)) ∧ (@Ne Nat c.1 (L' + 1 + 1 + 1)) ∧ (@Ne Nat c.1 (L' + 1 + 1)) ∧ (@Ne Nat c.1 (L' + 1))
structure PlainOk (f x : Str) : Prop where
  x5 : x.length = 5
  xc : ∀ c ∈ x.cps.toList, 97 ≤ c ∧ c ≤ 122
  ok : PyData.strOk x = true
  last : LastOk x
  to : ∀ (i : Nat) (g : Int), i < 8 → 0 ≤ g → g < 8 → TurnOk x (ltS f i) i g
  left : (List.range 8).foldl (fun l (i : Nat) => l.filter fun o => scat (ltS f i) o == (eats x.cps.toList (KStt.codes (ltS f i))).isSome) (leftS f 5) = [x]
theorem word_sum {f : Str} (hf : f.length = 2) (ds : List Int) : ((((rangeKs 0 5).map fun k => Txt.item f ((ds.getD k.toNat 0).fmod 2)).map (·.length)).sum + ((rangeKs 0 5).map fun k => Txt.item f ((ds.getD k.toNat 0).fmod 2)).length * (Str.ofString "").length) ≤ 16777216 := by
  have h : ∀ z : Int, (Txt.item f (z.fmod 2)).length = 1 := by
    intro z
    have h0 := Int.fmod_nonneg_of_pos z (b := 2) (by decide)
    have h1 := Int.fmod_lt_of_pos z (b := 2) (by decide)
    rw [item_eq h0 (by omega)]
    rfl
  have e : (Str.ofString "").length = 0 := by decide
  rw [e]
  simp [rangeKs, List.range, List.range.loop, h]
section
local macro_rules | `(tactic| walk_at "call ref") => `(tactic| refine held ?_)
local macro_rules | `(tactic| walk_at "subscriptTail") => `(tactic| ((with_reducible rename Mark0 => mk0); refine held ?_))
local macro_rules | `(tactic| walk_at "exec For") => `(tactic| refine held ?_)
local macro_rules | `(tactic| walk_at "exec For Name Call cons nil") => `(tactic| refine held ?_)
local macro_rules | `(tactic| walk_at "pyIter ref") => `(tactic| refine held ?_)
local macro_rules | `(tactic| walk_at "eval ListComp") => `(tactic| refine held ?_)
local macro_rules | `(tactic| walk_at "exec Assign cons ListComp") => `(tactic| refine held ?_)
local macro_rules | `(tactic| walk_at "call builtin:str.join") => `(tactic| refine held ?_)
local macro_rules | `(tactic| walk_at "execs cons Assign cons") => `(tactic| ((with_reducible rename Mark0 => mk0); refine held ?_))
local macro_rules | `(tactic| walk_at "CompSrc") => `(tactic| refine held ?_)
noncomputable def toldB (f x : Str) (d : Int) (i : Nat) : Bool := toldI x (askS (ltS f i) (((i : Int) + d.fdiv 4).fmod 8)) i (bdI (((i : Int) + d.fdiv 4).fmod 8)) == bdI (((i : Int) + d.fdiv 4).fmod 8)
noncomputable def lfS (f x : Str) (d : Int) (n : Nat) : List Str := (List.range n).foldl (fun l (i : Nat) => l.filter fun o => scat (ltS f i) o == toldB f x d i) (leftS f 5)
theorem lfS_succ (f x : Str) (d : Int) (n : Nat) : lfS f x d (n + 1) = (lfS f x d n).filter fun o => scat (ltS f n) o == toldB f x d n := by
  unfold lfS
  rw [List.range_succ, List.foldl_append]
  rfl
theorem lfS_len {f : Str} (hf : f.length = 2) (x : Str) (d : Int) : ∀ n, (lfS f x d n).length ≤ 32
  | 0 => by
    show (leftS f 5).length ≤ 32
    rw [leftS_count hf]; decide
  | n + 1 => by
    rw [lfS_succ]
    exact Nat.le_trans (List.length_filter_le _ _) (lfS_len hf x d n)
theorem turn_told {x z : Str} {i g : Int} (t : TurnOk x z i g) : (toldI x (askS z g) i (bdI g) == bdI g) = (eats x.cps.toList (KStt.codes z)).isSome := by
  have h := t.c1
  rw [Bool.and_eq_true] at h
  have h1 := eq_of_beq h.1
  rw [← h1]
  cases (eats x.cps.toList (KStt.codes z)).isSome <;> rfl
theorem great_rng (i : Nat) (d : Int) : 0 ≤ ((i : Int) + d.fdiv 4).fmod 8 ∧ ((i : Int) + d.fdiv 4).fmod 8 < 8 := ⟨Int.fmod_nonneg_of_pos _ (by decide), Int.fmod_lt_of_pos _ (by decide)⟩
theorem lfS_eq {f x : Str} (hp : PlainOk f x) (d : Int) : ∀ n, n ≤ 8 → lfS f x d n = (List.range n).foldl (fun l (i : Nat) => l.filter fun o => scat (ltS f i) o == (eats x.cps.toList (KStt.codes (ltS f i))).isSome) (leftS f 5)
  | 0, _ => rfl
  | n + 1, h => by
    rw [lfS_succ, lfS_eq hp d n (by omega), List.range_succ, List.foldl_append]
    have e : toldB f x d n = (eats x.cps.toList (KStt.codes (ltS f n))).isSome := turn_told (hp.to n _ h (great_rng n d).1 (great_rng n d).2)
    rw [e]
    rfl
theorem law_mid (fa : Addr) (cdv : Value) (f x : Str) (tf tw tt : Tok) (hf : f.length = 2) (hp : PlainOk f x) (ds : List Int)
    (o1 o2 o3 o4 o5 o6 o7 : Obj) (D6 : Addr) (d1 : o1.data = .cell (some (.ref D6))) (d2 : o2.data = .cell (some (.str f tf))) (d3 : o3.data = .cell (some (.str x tw))) (d4 : o4.data = .cell none) (d5 : o5.data = .cell none) (d6 : o6.data = .cell none) (d7 : o7.data = .cell none)
    (v6 : List Value) (n6 : Nat) (i6 : IntsAre v6 ds) (l6 : ds.length = 6) (hb6 : 0 ≤ ds.getD 5 0 ∧ ds.getD 5 0 ≤ 2 ^ 40)
    (g' : Heap) (L' : Addr) (m' : Str → Option Value) (s : Shared) (qk : Flow → Shared → Prop) (ek : Value → Shared → Prop)
    (X : (K0 w.params).In g') (T : Top p loose mean mg mb g') (ha : @LT.lt Nat _ (L' + 1 + 1 + 1 + 1 + 1 + 1 + 1) D6)
    (F : Fr g' L' s.heap (kstB m' [(Str.ofString "text", .str x tt)]))
    (N : News g' L' s.heap [(D6, W.listOf v6.toArray n6), (L' + 1 + 1 + 1 + 1 + 1 + 1 + 1, o7), (L' + 1 + 1 + 1 + 1 + 1 + 1, o6), (L' + 1 + 1 + 1 + 1 + 1, o5), (L' + 1 + 1 + 1 + 1, o4), (L' + 1 + 1 + 1, o3), (L' + 1 + 1, o2), (L' + 1, o1)])
    (hE : PassesOwn (model pw w) (callerA.deeper (envOfC (Str.ofString "law") sc21 L' fa cdv)) (envOfC (Str.ofString "law") sc21 L' fa cdv) ek)
    (hret : ∀ h' tk' m2, Fr g' L' h' m2 → qk (.ret (.bool true)) { s with heap := h', toks := tk' }) :
    wpAny (model pw w) (callerA.deeper (envOfC (Str.ofString "law") sc21 L' fa cdv)) (execs (bo21.drop 4) (envOfC (Str.ofString "law") sc21 L' fa cdv)) qk ek s := by
  obtain ⟨hpp, gn, dr, tk, os⟩ := s
  dsimp only [kstB] at F N hret
  have B := below_caller g'
  w_on
  k_with_none
  delta bo21
  simp only [List.drop_succ_cons, List.drop_zero]
  k_steps
  (with_reducible rename Fr _ _ _ _ => F6)
  refine Held.mk (For_invVF F6 rfl rfl ?_ (hE := hE))
  k_steps
  (with_reducible rename IsRange _ _ _ _ _ _ _ _ => hR); (with_reducible rename Fr _ _ _ _ => F7); (with_reducible rename News _ _ _ _ => N7)
  dsimp only at hR F7 N7 ⊢
  refine' Held.mk (kmv_range (n := 5) (fun c : Addr × List Value × Nat => [(c.1, W.listOf c.2.1.toArray c.2.2), (D6, W.listOf v6.toArray n6), (L' + 1 + 1 + 1 + 1 + 1 + 1 + 1, o7), (L' + 1 + 1 + 1 + 1 + 1 + 1, o6), (L' + 1 + 1 + 1 + 1 + 1, o5), (L' + 1 + 1 + 1 + 1, o4), (L' + 1 + 1 + 1, o3), (L' + 1 + 1, o2), (L' + 1, o1)]) (fun c => [(Str.ofString "left", .ref c.1)]) [] (LOk L' D6 f) (_, [Value.str (Str.ofString "") _], 0) rfl hR (by decide) (by decide) F7 N7 ?kk0 ?p0 ?turn ?done)
  case kk0 =>
    intro p hp
    rcases List.mem_cons.mp hp with rfl | hp
    · rfl
    · cases hp
  case p0 =>
    refine ⟨.cons _ _ .nil, ?_⟩
    dsimp only
    omega
  case turn =>
    rintro ⟨D, wl, nl⟩ i t um hh tk I oI R hi5 ⟨hl2, hD2⟩ hoff F8 N8 hnext hretR
    dsimp only [kstB] at F8 hl2 hD2 N8 hoff
    simp only [List.forall_mem_cons, List.not_mem_nil, false_implies, implies_true, and_true] at hoff
    clear F7 N7 hR hret
    k_steps
    (with_reducible rename Fr _ _ _ _ => F9); (with_reducible rename News _ _ _ _ => N9)
    have hct := leftS_count hf i
    have hwl := hl2.length
    have hle : (2 : Nat) ^ i ≤ 2 ^ 4 := Nat.pow_le_pow_right (by decide) (by omega)
    have hfs : f.cps.size = 2 := hf
    refine' Held.mk (Assign_nest (ks := leftS f i) (f := f) (tf := tf) (vs := wl) F9 (by rfl) (by with_unfolding_all rfl) (by with_unfolding_all rfl) (by decide) (by rfl) (by decide) (by rfl) (by rfl) (by decide) (by rfl) (by rfl) rfl N9 (.tail _ (.head _)) hl2 ?hsz ?e0 (fun _ => rfl) (fun _ _ => rfl) ?e1 ?elt ?fin)
    case hsz =>
      rw [hwl, hct, hfs, PySem.sizeLine_eq]
      omega
    case e0 =>
      intro Q' hQ
      k_steps
      exact hQ
    case e1 =>
      intro g I' oI' C' oC' D' oD' m₂ h tk2 E' Q' hC' Fa Na hQ hg
      clear F9 N9
      try clear F8 N8
      k_steps
      exact hQ
    case elt =>
      intro a ta b tb I' oI' C' oC' D' oD' m₂ h tk2 E' Q' ha' hb' hC' hx1 hx2 Fa Na hQ
      clear F9 N9
      try clear F8 N8
      have la := leftS_len f i a ha'
      have lb := signs_len hb'
      k_steps
      exact hQ _ _
    case fin =>
      intro D' ys h tk2 Fa Na o1' hys
      clear F9 N9
      try clear F8 N8
      k_steps
      simp only [LCg.Off1, and_true] at o1'
      refine hnext _ ⟨(D', ys, ys.length), h, _, _, _, rfl, Fa, Na, fun p hp => (List.mem_cons.mp hp).elim (fun e => e ▸ .head _) fun h => .tail _ (.tail _ (.tail _ h)), .tail _ (.head _), ?nI, ?nP, ?nS, ⟨hys, Ne.symm o1'.2.2.1, Ne.symm o1'.2.2.2.1, Ne.symm o1'.2.2.2.2.1, Ne.symm o1'.2.2.2.2.2.1, Ne.symm o1'.2.2.2.2.2.2.1, Ne.symm o1'.2.2.2.2.2.2.2.1, Ne.symm o1'.2.2.2.2.2.2.2.2.1, Ne.symm o1'.2.2.2.2.2.2.2.2.2⟩⟩
      case nI =>
        simp only [List.forall_mem_cons, List.not_mem_nil, false_implies, implies_true, and_true]
        exact ⟨Ne.symm o1'.1, hoff.2⟩
      case nP =>
        intro p hp
        rcases List.mem_cons.mp hp with rfl | hp
        · rfl
        · cases hp
      case nS =>
        intro y y1 y2 y3
        simp only [List.forall_mem_cons, List.not_mem_nil, false_implies, implies_true, and_true] at y2
        simp [y1, y2]
  case done =>
    rintro ⟨D, wl, nl⟩ um hh tk ⟨hl2, hD2⟩ F8 N8
    dsimp only [kstB] at F8 N8 hl2 hD2
    clear F7 N7 hR
    try dsimp only
    exact law_core fa cdv f x tf tw tt hf hp.x5 hp.last hp.ok (lfS f x (ds.getD 5 0)) ((lfS_eq hp _ 8 (Nat.le_refl _)).trans hp.left) (lfS_len hf x _) ds (fun i hi => hp.to i _ hi (great_rng i _).1 (great_rng i _).2) (fun i hi => (lfS_succ f x (ds.getD 5 0) i).symm) o1 o2 o3 o4 o5 o6 o7 D6 d1 d2 d3 ⟨_, d4⟩ ⟨_, d5⟩ ⟨_, d6⟩ ⟨_, d7⟩ v6 n6 (by assumption) l6 hb6 D wl nl hl2 g' L' _ _ qk ek X T ha hD2 (fr_kst (ps := [(Str.ofString "left", .ref D), (Str.ofString "text", .str x tt)]) F8 (by simp only [List.forall_mem_cons, List.not_mem_nil, false_implies, implies_true, and_true]; exact ⟨rfl, rfl⟩)) N8 hE hret
end
end Mine

namespace Mine
open PySem PySem.W PySem.Calls PyProof.Rows
set_option maxRecDepth 100000
set_option maxHeartbeats 4000000
variable {w : World} {p : Program} {loose : List Str} {mean : ExcName → Option Value} {mg mb : Str → Option Value}
noncomputable def Mark1 : Prop := True
section
local macro_rules | `(tactic| walk_at "call ref") => `(tactic| refine held ?_)
local macro_rules | `(tactic| walk_at "subscriptTail") => `(tactic| ((with_reducible rename Mark0 => mk0); refine held ?_))
local macro_rules | `(tactic| walk_at "exec For") => `(tactic| refine held ?_)
local macro_rules | `(tactic| walk_at "exec For Name Call cons nil") => `(tactic| refine held ?_)
local macro_rules | `(tactic| walk_at "pyIter ref") => `(tactic| refine held ?_)
local macro_rules | `(tactic| walk_at "eval ListComp") => `(tactic| refine held ?_)
local macro_rules | `(tactic| walk_at "exec Assign cons ListComp") => `(tactic| refine held ?_)
local macro_rules | `(tactic| walk_at "call builtin:str.join") => `(tactic| refine held ?_)
local macro_rules | `(tactic| walk_at "execs cons Assign cons") => `(tactic| ((with_reducible rename Mark1 => mk0); refine held ?_))
local macro_rules | `(tactic| walk_at "CompSrc") => `(tactic| refine held ?_)
local macro_rules | `(tactic| walk_at "a count of its own") => `(tactic| skip)
local macro_rules | `(tactic| lcg_off) => `(tactic| (simp only [LCg.Off3, and_true]; assumption))
theorem law_body (hpl : ∀ f ∈ famS, ∀ ds : List Int, PlainOk f (wordI f ds)) (fa : Addr) (cdv : Value) (l : Addr) (vs : List Value) (ns : List Int) (hi : IntsAre vs ns) (hn : ns.length ≤ 1000)
    (o1 o2 o3 o4 o5 o6 o7 : Obj) (d1 : o1.data = .cell none) (d2 : o2.data = .cell none) (d3 : o3.data = .cell none) (d4 : o4.data = .cell none) (d5 : o5.data = .cell none) (d6 : o6.data = .cell none) (d7 : o7.data = .cell none)
    (g' : Heap) (L' : Addr) (s : Shared) (qk : Flow → Shared → Prop) (ek : Value → Shared → Prop)
    (X : (K0 w.params).In g') (T : Top p loose mean mg mb g') (hl : g'.IsList l vs.toArray)
    (F : Fr g' L' s.heap (fun y => if y = Str.ofString "script" then some (.ref l) else none))
    (N : News g' L' s.heap [(L' + 1 + 1 + 1 + 1 + 1 + 1 + 1, o7), (L' + 1 + 1 + 1 + 1 + 1 + 1, o6), (L' + 1 + 1 + 1 + 1 + 1, o5), (L' + 1 + 1 + 1 + 1, o4), (L' + 1 + 1 + 1, o3), (L' + 1 + 1, o2), (L' + 1, o1)])
    (hE : PassesOwn (model pw w) (callerA.deeper (envOfC (Str.ofString "law") sc21 L' fa cdv)) (envOfC (Str.ofString "law") sc21 L' fa cdv) ek)
    (hret : ∀ h' tk' m2, Fr g' L' h' m2 → qk (.ret (.bool true)) { s with heap := h', toks := tk' }) :
    wpAny (model pw w) (callerA.deeper (envOfC (Str.ofString "law") sc21 L' fa cdv)) (execs bo21 (envOfC (Str.ofString "law") sc21 L' fa cdv)) qk ek s := by
  obtain ⟨hp, gn, dr, tk, os⟩ := s
  dsimp only at F N hret
  have B := below_caller g'
  have hfit := hi.length
  w_on
  k_with_none
  delta bo21
  k_steps
  (with_reducible rename Fr _ _ _ _ => Fq0); (with_reducible rename News _ _ _ _ => Nq0)
  refine Held.mk ?_
  refine' c_draws l vs ns hi hn _ _ _ _ _ _ _ _ _ _ _ _ _ _ _ _ _ ?B0 ?F0 ?X0 ?N0 ?T0 ?hk0 ?hl0 ?hd0 ?hu0 ?_
  case B0 => exact B
  case F0 => exact Fq0
  case X0 => exact X
  case N0 => exact Nq0
  case T0 => exact T
  case hk0 => exact rfl
  case hl0 => exact hl
  case hd0 => decide +kernel
  case hu0 => decide +kernel
  intro D6 v6 ds n6 h1 tk1 i6 l6 b6 hlt F1 N1
  clear Fq0 Nq0
  replace hlt := allLt_of hlt
  simp only [AllLt, and_true] at hlt
  dsimp only
  have fm : ∀ (z b : Int), 0 < b → 0 ≤ z.fmod b ∧ z.fmod b < b := fun z b hb => ⟨Int.fmod_nonneg_of_pos _ hb, Int.fmod_lt_of_pos _ hb⟩
  have m1 := fm (ds.getD (Int.toNat 5) 0) 4 (by decide)
  have mk0 : Mark0 := trivial
  k_steps
  (with_reducible rename Mark0 => mk1)
  clear mk1
  (with_reducible rename Fr _ _ _ _ => F2); (with_reducible rename News _ _ _ _ => N2)
  refine Held.mk (KTb.item_list (ws := famS) (N2.isList (.head _)) (.cons _ _ (.cons _ _ (.cons _ _ (.cons _ _ .nil)))) m1.1 (by show _ < (4 : Int); exact m1.2) (by have := m1.2; omega) (fun tf hlt2 => ?_))
  have hfm : famS.getD ((ds.getD (Int.toNat 5) 0).fmod 4).toNat Str.empty ∈ famS := by
    rw [List.getD_eq_getElem?_getD, List.getElem?_eq_getElem hlt2]
    exact List.getElem_mem _
  have hf2 : ∀ f ∈ famS, f.length = 2 := by decide
  have hf := hf2 _ hfm
  clear hf2
  generalize hfe : famS.getD ((ds.getD (Int.toNat 5) 0).fmod 4).toNat Str.empty = f at hfm hf ⊢
  k_steps
  (with_reducible rename Fr _ _ _ _ => F3)
  refine Held.mk (LCg.ListComp_U (F₀ := F3) (by with_unfolding_all rfl) (by decide) (by rfl) (by decide) (by rfl) ?_)
  k_steps
  (with_reducible rename Fr _ _ _ _ => F4); (with_reducible rename News _ _ _ _ => N4); (with_reducible rename IsRange _ _ _ _ _ _ _ _ => hR)
  dsimp only at F4 N4 hR ⊢
  refine Held.mk (LCg.CompSrc.range (n := 5) (by rfl) F4 N4 hR (by decide) (by decide) (by size_fits) ?_)
  intro gg
  refine' kct_range (fun k => Txt.item f ((ds.getD k.toNat 0).fmod 2)) (fun k' t' I' oI' C' oC' D' m2 ys' h' tk' E' hlo' hhi' hC' hx' F' N' off' ne' => ?_) ?_
  · try clear F3
    clear F4 N4 hR
    try simp only [LCg.Off3, and_true] at off'
    try ((show KPfMark → _); intro hMark')
    have m2' := fm (ds.getD k'.toNat 0) 2 (by decide)
    k_steps
  · intro ys hys _
    try clear F3
    have hst := CarriedAll.strsOf hys
    clear hys
    (try clear F4 N4 hR)
    k_steps
    (with_reducible rename Fr _ _ _ _ => F3); (with_reducible rename News _ _ _ _ => N3)
    try dsimp only at F3 N3 ⊢
    refine Held.mk (join_list (N3.isList (.head _)) (by simpa using hst) (word_sum hf ds) (fun t' tk => ?_))
    have hp := hpl f hfm ds
    rw [show Txt.join (Str.ofString "") ((rangeKs 0 5).map fun k => Txt.item f ((ds.getD k.toNat 0).fmod 2)) = wordI f ds from rfl]
    revert hp
    generalize wordI f ds = x
    intro hp
    have x5 := hp.x5
    k_steps
    (with_reducible rename Fr _ _ _ _ => Fq1); (with_reducible rename News _ _ _ _ => Nq1)
    refine Held.mk ?_
    refine' c_typed x _ D6 v6 ds n6 hp.x5 hp.xc ?hD1 (by assumption) l6 b6 _ _ _ _ _ _ _ _ _ _ _ _ _ _ _ _ _ ?B1 ?F1 ?X1 ?N1 ?T1 ?hk1 ?hd1 ?hu1 ?_
    case B1 => exact B
    case F1 => exact Fq1
    case X1 => exact X
    case N1 => exact Nq1
    case T1 => exact T
    case hD1 => k_mem
    case hk1 => exact rfl
    case hd1 => decide +kernel
    case hu1 => decide +kernel
    intro tx tt1 h2 tk2 tl tok tjo F5 N5
    clear Fq1 Nq1
    dsimp only
    k_steps
    refine Held.mk ?_
    (with_reducible rename Fr _ _ _ _ => Fq2); (with_reducible rename News _ _ _ _ => Nq2)
    refine' c_prep tx _ (by omega) tok _ _ _ _ _ _ _ _ _ _ _ _ _ _ _ _ _ ?B2 ?F2 ?X2 ?N2 ?T2 ?hk2 ?hd2 ?hu2 ?_
    case B2 => exact B
    case F2 => exact Fq2
    case X2 => exact X
    case N2 => exact Nq2
    case T2 => exact T
    case hk2 => exact rfl
    case hd2 => decide +kernel
    case hu2 => decide +kernel
    intro ts2 hs2 ks2 Fs2 Ns2
    clear Fq2 Nq2
    dsimp only
    rw [tjo]
    have mk0 : Mark1 := trivial
    k_steps
    (with_reducible rename Fr _ _ _ _ => F6); (with_reducible rename News _ _ _ _ => N6)
    refine Held.mk (law_mid fa cdv f x tf _ _ hf hp ds _ _ _ o4 o5 o6 o7 D6 (by assumption) (by assumption) (by assumption) d4 d5 d6 d7 v6 n6 (by assumption) l6 ?b5 g' L' _ _ qk ek X T hlt.1 (fr_kst (ps := [(Str.ofString "text", .str x _)]) F6 (by simp only [List.forall_mem_cons, List.not_mem_nil, false_implies, implies_true, and_true]; exact rfl)) (cb_drop N6 (fun p hp => .tail _ (.tail _ hp))) hE hret)
    refine b6 _ ?_
    rw [List.getD_eq_getElem?_getD, List.getElem?_eq_getElem (by omega)]
    exact List.getElem_mem _
end
end Mine

namespace Mine
open PySem PySem.W PySem.Calls PyProof.Rows PySem.Builtin PySem.Builtin.Str
set_option maxRecDepth 100000
noncomputable def lowN (a : Nat) : Nat := if Nat.ble 65 a && Nat.ble a 90 then a + 32 else a
noncomputable def subN (a b : Nat) : Nat := bif Nat.beq a b then 0 else bif Nat.beq (lowN a) (lowN b) then 1 else 2
noncomputable def minN (a b : Nat) : Nat := bif Nat.ble a b then a else b
noncomputable def inN (bc : Nat) : List Nat → List Nat → Nat → Nat → Nat → List Nat × Nat × Nat
  | ch :: a, d :: row, dist, res, mn =>
    let r := minN (minN res d + 2) (dist + subN bc ch)
    let q := inN bc a row d r (minN mn r)
    (r :: q.1, q.2)
  | _, _, _, res, mn => ([], res, mn)
noncomputable def outN (a : List Nat) (mc : Nat) : List Nat → Nat → List Nat → Nat → Nat
  | [], _, _, res => res
  | bc :: b, k, row, _ =>
    let q := inN bc a row (k * 2) (k * 2) 9223372036854775807
    bif Nat.ble q.2.2 mc then outN a mc b (k + 1) q.1 q.2.1 else mc + 1
noncomputable def rowN : Nat → Nat → List Nat
  | 0, _ => []
  | n + 1, k => (2 + k * 2) :: rowN n (k + 1)
noncomputable def sN (a b : List Nat) (mc : Nat) : Nat := bif Nat.ble ((b.length - a.length) * 2) mc then outN a mc b 0 (rowN a.length 0) 0 else mc + 1
noncomputable def rN (a b : List Nat) (mc : Nat) : Nat := bif Nat.beq a.length 0 || Nat.beq b.length 0 then 2 * (a.length + b.length) else bif Nat.blt b.length a.length then sN b a mc else sN a b mc
noncomputable def stripN : List Nat → List Nat → List Nat × List Nat
  | a :: r, b :: s => bif Nat.beq a b then stripN r s else (a :: r, b :: s)
  | x, y => (x, y)
noncomputable def eqN : List Nat → List Nat → Bool
  | [], [] => true
  | a :: r, b :: s => Nat.beq a b && eqN r s
  | _, _ => false
noncomputable def levN (a b : List Nat) (mc : Nat) : Nat :=
  bif eqN a b then 0 else
  let q := stripN a b
  let r := stripN q.1.reverse q.2.reverse
  rN r.1.reverse r.2.reverse mc
theorem low_all : (List.range 128).all (fun a => Txt.lower ⟨#[a]⟩ == ⟨#[lowN a]⟩) = true := by decide +kernel
theorem low_eq {a : Nat} (h : a < 128) : Txt.lower ⟨#[a]⟩ = ⟨#[lowN a]⟩ := eq_of_beq (List.all_eq_true.mp low_all a (List.mem_range.mpr h))
theorem cond_beq (a b : Nat) {α : Type} (x y : α) : (bif Nat.beq a b then x else y) = if a = b then x else y := by
  by_cases h : a = b
  · rw [if_pos h, show Nat.beq a b = true from Nat.beq_eq ▸ h]; rfl
  · rw [if_neg h]; cases e : Nat.beq a b with
    | true => exact absurd (Nat.eq_of_beq_eq_true e) h
    | false => rfl
theorem cond_ble (a b : Nat) {α : Type} (x y : α) : (bif Nat.ble a b then x else y) = if a ≤ b then x else y := by
  by_cases h : a ≤ b
  · rw [if_pos h, Nat.ble_eq_true_of_le h]; rfl
  · rw [if_neg h]; cases e : Nat.ble a b with
    | true => exact absurd (Nat.le_of_ble_eq_true e) h
    | false => rfl
theorem sub_eq {a b : Nat} (ha : a < 128) (hb : b < 128) : subCost ⟨#[a]⟩ ⟨#[b]⟩ = (subN a b : Int) := by
  unfold subCost subN
  rw [low_eq ha, low_eq hb, cond_beq, cond_beq]
  by_cases h : a = b
  · subst h; rw [if_pos rfl, if_pos rfl]; rfl
  · rw [if_neg (fun e => h (one_inj e)), if_neg h]
    by_cases g : lowN a = lowN b
    · rw [if_pos (by rw [g]), if_pos g]; rfl
    · rw [if_neg (fun e => g (one_inj e)), if_neg g]; rfl
theorem min_eq (a b : Nat) : ((minN a b : Nat) : Int) = min (a : Int) (b : Int) := by
  unfold minN
  rw [cond_ble]
  split <;> omega
theorem item_split {a : Str} {p q : List Nat} {c : Nat} (h : a.cps.toList = p ++ c :: q) : Txt.item a (p.length : Int) = ⟨#[c]⟩ := by
  have hl : a.length = p.length + (q.length + 1) := by
    have := congrArg List.length h
    simp only [List.length_append, List.length_cons] at this
    rw [← this]; simp [Str.length]
  rw [item_eq (by omega) (by omega)]
  congr 2
  have e : a.cps.getD p.length 0 = a.cps.toList.getD p.length 0 := by simp [List.getD_eq_getElem?_getD, Array.getD_eq_getD_getElem?]
  rw [Int.toNat_natCast, e, h]
  simp [List.getD_eq_getElem?_getD]
theorem in_eq (a : Str) (bc : Nat) (hbc : bc < 128) : ∀ (q p : List Nat) (rp : List Int) (rq : List Nat) (dist res mn : Nat), a.cps.toList = p ++ q → rp.length = p.length → rq.length = q.length → (∀ c ∈ q, c < 128) →
    ∃ d' : Int, (rangeKs (p.length : Int) q.length).foldl (inStep a ⟨#[bc]⟩) ⟨rp ++ rq.map (fun n : Nat => (n : Int)), dist, res, mn⟩ = ⟨rp ++ (inN bc q rq dist res mn).1.map (fun n : Nat => (n : Int)), d', ((inN bc q rq dist res mn).2.1 : Nat), ((inN bc q rq dist res mn).2.2 : Nat)⟩
  | [], p, rp, rq, dist, res, mn, _, _, h3, _ => by
    cases rq with
    | cons x r => simp at h3
    | nil => exact ⟨dist, rfl⟩
  | c :: q, p, rp, rq, dist, res, mn, h1, h2, h3, h4 => by
    cases rq with
    | nil => simp at h3
    | cons d row =>
      rw [List.length_cons, kll_cons, List.foldl_cons]
      have hs : inStep a ⟨#[bc]⟩ ⟨rp ++ (d :: row).map (fun n : Nat => (n : Int)), dist, res, mn⟩ (p.length : Int) =
          ⟨(rp ++ [((minN (minN res d + 2) (dist + subN bc c) : Nat) : Int)]) ++ row.map (fun n : Nat => (n : Int)), d, ((minN (minN res d + 2) (dist + subN bc c) : Nat) : Int), ((minN mn (minN (minN res d + 2) (dist + subN bc c)) : Nat) : Int)⟩ := by
        unfold inStep
        dsimp only
        rw [item_split h1, sub_eq hbc (h4 c (.head _))]
        have e1 : (rp ++ (d :: row).map (fun n : Nat => (n : Int))).getD ((p.length : Int)).toNat 0 = (d : Int) := by
          rw [Int.toNat_natCast, ← h2]
          simp [List.getD_eq_getElem?_getD]
        rw [e1]
        have e2 : min (min (res : Int) (d : Int) + 2) ((dist : Int) + (subN bc c : Int)) = ((minN (minN res d + 2) (dist + subN bc c) : Nat) : Int) := by
          rw [min_eq, Int.natCast_add, Int.natCast_add, min_eq]; rfl
        rw [e2]
        generalize minN (minN res d + 2) (dist + subN bc c) = r
        have e3 : (rp ++ (d :: row).map (fun n : Nat => (n : Int))).set ((p.length : Int)).toNat (r : Int) = (rp ++ [(r : Int)]) ++ row.map (fun n : Nat => (n : Int)) := by
          rw [Int.toNat_natCast, ← h2]
          simp
        rw [e3]
        have e4 : (if (r : Int) < (mn : Int) then (r : Int) else (mn : Int)) = ((minN mn r : Nat) : Int) := by
          rw [min_eq]; split <;> omega
        rw [e4]
      rw [hs]
      have hp : ((p.length : Int) + 1) = (((p ++ [c]).length : Nat) : Int) := by simp
      rw [hp]
      obtain ⟨d', hd⟩ := in_eq a bc hbc q (p ++ [c]) (rp ++ [((minN (minN res d + 2) (dist + subN bc c) : Nat) : Int)]) row d (minN (minN res d + 2) (dist + subN bc c)) (minN mn (minN (minN res d + 2) (dist + subN bc c))) (by rw [h1]; simp) (by simp [h2]) (by simpa using h3) (fun x hx => h4 x (.tail _ hx))
      refine ⟨d', hd.trans ?_⟩
      rw [inN]
      simp
theorem in_len (bc : Nat) : ∀ (q row : List Nat) (dist res mn : Nat), row.length = q.length → (inN bc q row dist res mn).1.length = q.length
  | [], row, _, _, _, _ => by cases row <;> rfl
  | c :: q, [], _, _, _, h => by simp at h
  | c :: q, d :: row, dist, res, mn, h => by
    rw [inN]
    simp only [List.length_cons]
    rw [in_len bc q row _ _ _ (by simpa using h)]
noncomputable def endO (mc : Int) : Option (List Int × Int) → Int
  | none => mc + 1
  | some q => q.2
theorem out_none2 (a b : Str) (mc : Int) : ∀ (t : List Int), t.foldl (outStep a b mc) none = none
  | [] => rfl
  | x :: t => by rw [List.foldl_cons]; exact out_none2 a b mc t
theorem out_eq (a b : Str) (mc : Nat) (ha : ∀ c ∈ a.cps.toList, c < 128) : ∀ (q p : List Nat) (row : List Nat) (res : Nat), b.cps.toList = p ++ q → row.length = a.cps.toList.length → (∀ c ∈ q, c < 128) →
    endO mc ((rangeKs (p.length : Int) q.length).foldl (outStep a b mc) (some (row.map (fun n : Nat => (n : Int)), (res : Int)))) = ((outN a.cps.toList mc q p.length row res : Nat) : Int)
  | [], p, row, res, _, _, _ => rfl
  | c :: q, p, row, res, h1, h2, h3 => by
    rw [List.length_cons, kll_cons, List.foldl_cons]
    have hl : a.cps.toList.length = a.length := by simp [Str.length]
    obtain ⟨d', hi⟩ := in_eq a c (h3 c (.head _)) a.cps.toList [] [] row (p.length * 2) (p.length * 2) 9223372036854775807 rfl rfl h2 ha
    have hs : outStep a b mc (some (row.map (fun n : Nat => (n : Int)), (res : Int))) (p.length : Int) =
        if (mc : Int) < ((inN c a.cps.toList row (p.length * 2) (p.length * 2) 9223372036854775807).2.2 : Nat) then none else some ((inN c a.cps.toList row (p.length * 2) (p.length * 2) 9223372036854775807).1.map (fun n : Nat => (n : Int)), (((inN c a.cps.toList row (p.length * 2) (p.length * 2) 9223372036854775807).2.1 : Nat) : Int)) := by
      unfold outStep
      rw [Option.bind_some]
      dsimp only
      rw [item_split h1]
      unfold inR
      rw [← hl]
      have e0 : ((p.length : Int) * 2) = ((p.length * 2 : Nat) : Int) := by omega
      rw [e0]
      have hi' : (rangeKs 0 a.cps.toList.length).foldl (inStep a ⟨#[c]⟩) ⟨row.map (fun n : Nat => (n : Int)), ((p.length * 2 : Nat) : Int), ((p.length * 2 : Nat) : Int), 9223372036854775807⟩ = _ := hi
      rw [hi']
      rfl
    rw [hs, outN]
    rw [cond_ble]
    generalize hq : inN c a.cps.toList row (p.length * 2) (p.length * 2) 9223372036854775807 = r at *
    by_cases hm : r.2.2 ≤ mc
    · rw [if_neg (by omega), if_pos hm]
      have hp : ((p.length : Int) + 1) = (((p ++ [c]).length : Nat) : Int) := by simp
      rw [hp]
      have := out_eq a b mc ha q (p ++ [c]) r.1 r.2.1 (by rw [h1]; simp) (by rw [← hq, in_len _ _ _ _ _ _ h2]) (fun x hx => h3 x (.tail _ hx))
      rw [this]
      simp
    · rw [if_pos (by omega), if_neg hm, out_none2]
      rfl
theorem row_eq : ∀ (n k : Nat), (rangeKs (k : Int) n).map (fun i => 2 + i * 2) = (rowN n k).map (fun n : Nat => (n : Int))
  | 0, _ => rfl
  | n + 1, k => by
    rw [kll_cons, List.map_cons, rowN, List.map_cons]
    have e : ((k : Int) + 1) = ((k + 1 : Nat) : Int) := by omega
    rw [e, row_eq n (k + 1)]
    congr 1
theorem row_len : ∀ (n k : Nat), (rowN n k).length = n
  | 0, _ => rfl
  | n + 1, k => by rw [rowN, List.length_cons, row_len n (k + 1)]
theorem s_eq (a b : Str) (mc : Nat) (ha : ∀ c ∈ a.cps.toList, c < 128) (hb : ∀ c ∈ b.cps.toList, c < 128) : levS a b mc = ((sN a.cps.toList b.cps.toList mc : Nat) : Int) := by
  have hl : a.cps.toList.length = a.length := by simp [Str.length]
  have hk : b.cps.toList.length = b.length := by simp [Str.length]
  unfold levS sN
  rw [cond_ble]
  by_cases h : ((b.length : Int) - a.length) * 2 > mc
  · rw [if_pos h, if_neg (by omega)]; rfl
  · rw [if_neg h, if_pos (by omega)]
    have := out_eq a b mc ha b.cps.toList [] (rowN a.cps.toList.length 0) 0 rfl (row_len _ _) hb
    rw [hk, ← row_eq, hl] at this
    rw [hl]
    refine Eq.trans ?_ this
    unfold outR endO
    rfl
theorem r_eq (a b : Str) (mc : Nat) (ha : ∀ c ∈ a.cps.toList, c < 128) (hb : ∀ c ∈ b.cps.toList, c < 128) : levR a b mc = ((rN a.cps.toList b.cps.toList mc : Nat) : Int) := by
  have hl : a.cps.toList.length = a.length := by simp [Str.length]
  have hk : b.cps.toList.length = b.length := by simp [Str.length]
  unfold levR rN
  rw [hl, hk]
  by_cases h0 : a.length = 0 ∨ b.length = 0
  · rw [if_pos h0]
    have e : (Nat.beq a.length 0 || Nat.beq b.length 0) = true := by
      rcases h0 with h | h <;> rw [h] <;> simp
    rw [e]
    show _ = ((2 * (a.length + b.length) : Nat) : Int)
    omega
  · rw [if_neg h0]
    have e : (Nat.beq a.length 0 || Nat.beq b.length 0) = false := by
      rw [Bool.or_eq_false_iff]
      constructor
      · cases e : Nat.beq a.length 0 with
        | true => exact absurd (.inl (Nat.eq_of_beq_eq_true e)) h0
        | false => rfl
      · cases e : Nat.beq b.length 0 with
        | true => exact absurd (.inr (Nat.eq_of_beq_eq_true e)) h0
        | false => rfl
    rw [e]
    show _ = ((bif Nat.blt b.length a.length then _ else _ : Nat) : Int)
    unfold Nat.blt
    rw [cond_ble]
    by_cases h : b.length < a.length
    · rw [if_pos h, if_pos (show b.length.succ ≤ a.length from h)]; exact s_eq b a mc hb ha
    · rw [if_neg h, if_neg (by omega)]; exact s_eq a b mc ha hb
theorem strip_eq : ∀ a b : List Nat, strip a b = stripN a b
  | [], _ => by unfold strip stripN; rfl
  | _ :: _, [] => by unfold strip stripN; rfl
  | a :: r, b :: s => by
    rw [strip, stripN, cond_beq, strip_eq r s]
theorem eqN_iff : ∀ a b : List Nat, eqN a b = decide (a = b)
  | [], [] => rfl
  | [], _ :: _ => rfl
  | _ :: _, [] => rfl
  | a :: r, b :: s => by
    rw [eqN, eqN_iff r s]
    by_cases h : a = b
    · subst h; simp
    · have : Nat.beq a b = false := by
        cases e : Nat.beq a b with
        | true => exact absurd (Nat.eq_of_beq_eq_true e) h
        | false => rfl
      rw [this]; simp [h]
theorem strip_sub : ∀ (a b : List Nat), (∀ c ∈ (strip a b).1, c ∈ a) ∧ (∀ c ∈ (strip a b).2, c ∈ b)
  | [], _ => by unfold strip; exact ⟨fun _ h => h, fun _ h => h⟩
  | _ :: _, [] => by unfold strip; exact ⟨fun _ h => h, fun _ h => h⟩
  | a :: r, b :: s => by
    rw [strip]
    split
    · exact ⟨fun c h => .tail _ ((strip_sub r s).1 c h), fun c h => .tail _ ((strip_sub r s).2 c h)⟩
    · exact ⟨fun _ h => h, fun _ h => h⟩
theorem lev_eq (a b : Str) (mc : Nat) (ha : ∀ c ∈ a.cps.toList, c < 128) (hb : ∀ c ∈ b.cps.toList, c < 128) : levF a b mc = ((levN a.cps.toList b.cps.toList mc : Nat) : Int) := by
  unfold levF levN
  rw [eqN_iff]
  by_cases h : a = b
  · subst h; rw [if_pos rfl, decide_eq_true rfl]; rfl
  · have h' : ¬ a.cps.toList = b.cps.toList := by
      intro e
      apply h
      cases a; cases b
      simp only [Str.mk.injEq]
      exact Array.toList_inj.mp e
    rw [if_neg h, decide_eq_false h']
    dsimp only [cond_false]
    rw [← strip_eq, ← strip_eq]
    refine r_eq _ _ mc ?_ ?_
    · intro c hc
      have q1 := List.mem_reverse.mp hc
      have q2 := (strip_sub _ _).1 c q1
      exact ha c ((strip_sub _ _).1 c (List.mem_reverse.mp q2))
    · intro c hc
      have q1 := List.mem_reverse.mp hc
      have q2 := (strip_sub _ _).2 c q1
      exact hb c ((strip_sub _ _).2 c (List.mem_reverse.mp q2))
end Mine

namespace Mine
open PySem PySem.W PySem.Calls PyProof.Rows PySem.Builtin PySem.Builtin.Str
set_option maxRecDepth 100000
noncomputable def famsN : List (List Nat) := [[104, 112], [115, 116], [107, 109], [102, 105]]
noncomputable def wordsN (f : List Nat) : Nat → List (List Nat)
  | 0 => [[]]
  | n + 1 => (wordsN f n).flatMap fun a => f.map fun b => a ++ [b]
noncomputable def zN (f : List Nat) (i : Nat) : List Nat := [f.getD (i / 4) 0, f.getD (i / 2 % 2) 0, f.getD (i % 2) 0]
noncomputable def upN (c : Nat) : Nat := c - 32
noncomputable def askN (z : List Nat) (g : Nat) : List Nat := match z with
  | [a, b, c] => [bif Nat.beq (g % 2) 1 then upN a else a, bif Nat.beq (g / 2 % 2) 1 then upN b else b, bif Nat.beq (g / 4 % 2) 1 then upN c else c]
  | _ => []
noncomputable def bdN (g : Nat) : Nat := 4 + g / 4 + g / 2 % 2 + g % 2
noncomputable def eatN : List Nat → Nat → Option (List Nat)
  | [], _ => none
  | a :: r, c => bif Nat.beq a c then some r else eatN r c
noncomputable def eatsN (x : List Nat) : List Nat → Bool
  | [] => true
  | c :: cs => match eatN x c with
    | some r => eatsN r cs
    | none => false
noncomputable def chkB (f : List Nat) : Bool := (wordsN f 5).all fun x => (List.range 8).all fun i => let z := zN f i; let sa := eatsN x z; (List.range 8).all fun g => let q := askN z g; let b := bdN g; let t := bif Nat.beq (i % 2) 0 then levN x q b else levN q x b; (sa == Nat.beq t b) && ((!sa) == Nat.blt b t)
noncomputable def toS (l : List Nat) : Str := ⟨l.toArray⟩
noncomputable def chkA (f : List Nat) : Bool := (wordsN f 5).all fun x => let xs := toS x
  PyData.strOk xs && xs.cps.all (· < 128) && (x.all fun c => Nat.ble 97 c && Nat.ble c 122) && Nat.beq x.length 5
  && Nat.beq (levN (Txt.slice xs none (some 3) ++ Str.ofString "xyaB").cps.toList (Str.ofString "x" ++ Txt.slice xs none (some 3) ++ Str.ofString "zAb").cps.toList 8) 8
  && Nat.beq (levN (Txt.slice xs none (some 3) ++ Str.ofString "xyaB").cps.toList (Str.ofString "x" ++ Txt.slice xs none (some 3) ++ Str.ofString "zAb").cps.toList 1) 2
  && Nat.beq (levN (Txt.slice xs none (some 3)).cps.toList (Txt.upper (Txt.slice xs none (some 3))).cps.toList 3) 3
  && ((Txt.slice xs none (some 3) ++ Str.ofString "xyaB").cps.toList.all fun c => Nat.blt c 128) && ((Str.ofString "x" ++ Txt.slice xs none (some 3) ++ Str.ofString "zAb").cps.toList.all fun c => Nat.blt c 128)
  && ((Txt.slice xs none (some 3)).cps.toList.all fun c => Nat.blt c 128) && ((Txt.upper (Txt.slice xs none (some 3))).cps.toList.all fun c => Nat.blt c 128)
noncomputable def chkZ (f : List Nat) : Bool := (wordsN f 5).all fun x => (List.range 8).all fun i => let z := zN f i
  ((levN x z 2 : Nat) : Int) == lessI (toS x) (toS z) && (strIn (toS x) (toS z) == ([Txt.slice (toS x) none (some 3), Txt.slice (toS x) (some 1) (some 4), Txt.slice (toS x) (some 2) none].any fun y => y == toS z))
noncomputable def chkQ (f : List Nat) : Bool := (List.range 8).all fun i => let z := zN f i
  ltS (toS f) i == toS z && PyData.strOk (toS z) && (z.all fun c => Nat.blt c 128) && Nat.beq z.length 3 && (List.range 8).all fun (g : Nat) => askS (toS z) g == toS (askN z g) && ((askN z g).all fun c => Nat.blt c 128) && Nat.beq (askN z g).length 3 && bdI g == (bdN g : Int)
    && decide ((((rangeKs 0 3).map fun k => if ((g : Int).fdiv (2 ^ k.toNat)).fmod 2 = 1 then Txt.upper (Txt.item (toS z) k) else Txt.item (toS z) k).map (·.length)).sum + ((rangeKs 0 3).map fun k => if ((g : Int).fdiv (2 ^ k.toNat)).fmod 2 = 1 then Txt.upper (Txt.item (toS z) k) else Txt.item (toS z) k).length * (Str.ofString "").length ≤ 16777216)
noncomputable def chkL (f : List Nat) : Bool := (wordsN f 5).all fun x => (List.range 8).foldl (fun l (i : Nat) => l.filter fun o => scat (toS (zN f i)) o == eatsN x (zN f i)) (leftS (toS f) 5) == [toS x]
theorem mem_words {f : List Nat} {n : Nat} {a : List Nat} {b : Nat} (ha : a ∈ wordsN f n) (hb : b ∈ f) : a ++ [b] ∈ wordsN f (n + 1) :=
  List.mem_flatMap.mpr ⟨a, ha, List.mem_map.mpr ⟨b, hb, rfl⟩⟩
theorem eat_eq (c : Nat) : ∀ l : List Nat, eat l c = eatN l c
  | [] => rfl
  | a :: r => by rw [eat, eatN, cond_beq, eat_eq c r]
theorem eats_eq (cs : List Nat) : ∀ l : List Nat, (eats l (cs.map fun c : Nat => (c : Int))).isSome = eatsN l cs := by
  induction cs with
  | nil => intro l; rfl
  | cons c r ih =>
    intro l
    unfold eats
    rw [List.map_cons, List.foldl_cons, eatsN]
    rw [Option.bind_some, Int.toNat_natCast, eat_eq]
    cases h : eatN l c with
    | none => rw [eats_none]; rfl
    | some q => exact ih q
theorem c1_of {sa wh fd a b : Bool} (h1 : sa = a) (h2 : (!sa) = b) (h3 : wh = fd) : ((sa == true) == a && ((sa == false) == b && ((wh == true) == fd && (wh == false) == !fd))) = true := by
  subst h1; subst h2; subst h3
  cases sa <;> cases wh <;> rfl
theorem lt_of_all {l : List Nat} (h : (l.all fun c => Nat.blt c 128) = true) : ∀ c ∈ l, c < 128 := fun c hc => Nat.le_of_ble_eq_true (List.all_eq_true.mp h c hc)
theorem toS_list (l : List Nat) : (toS l).cps.toList = l := rfl
theorem int_beq (a b : Nat) : (((a : Int) == (b : Int)) : Bool) = Nat.beq a b := by
  cases h : Nat.beq a b with
  | true => rw [Nat.eq_of_beq_eq_true h]; simp
  | false =>
    rw [beq_eq_false_iff_ne]
    intro e
    have : a = b := by omega
    subst this
    simp at h
theorem int_blt (a b : Nat) : decide ((a : Int) < (b : Int)) = Nat.blt a b := by
  cases h : Nat.blt a b with
  | true => exact decide_eq_true (by have := Nat.le_of_ble_eq_true h; omega)
  | false =>
    refine decide_eq_false fun e => ?_
    have : Nat.blt a b = true := Nat.ble_eq_true_of_le (by omega)
    rw [this] at h
    cases h
theorem plain_of {f : List Nat} (hA : chkA f = true) (hZ : chkZ f = true) (hQ : chkQ f = true) (hL : chkL f = true) (hB : chkB f = true) {x : List Nat} (hx : x ∈ wordsN f 5) : PlainOk (toS f) (toS x) := by
  have a := List.all_eq_true.mp hA x hx
  simp only [Bool.and_eq_true] at a
  obtain ⟨⟨⟨⟨⟨⟨⟨⟨⟨⟨a1, a2⟩, a3⟩, a4⟩, a5⟩, a6⟩, a7⟩, a8⟩, a9⟩, a10⟩, a11⟩ := a
  have xlt : ∀ c ∈ x, 97 ≤ c ∧ c ≤ 122 := fun c hc => by
    have h := List.all_eq_true.mp a3 c hc
    rw [Bool.and_eq_true] at h
    exact ⟨Nat.le_of_ble_eq_true h.1, Nat.le_of_ble_eq_true h.2⟩
  have x128 : ∀ c ∈ (toS x).cps.toList, c < 128 := fun c hc => by have := xlt c hc; omega
  refine ⟨Nat.eq_of_beq_eq_true a4, xlt, a1, ⟨?_, ?_, ?_⟩, ?_, ?_⟩
  · exact (lev_eq _ _ 8 (lt_of_all a8) (lt_of_all a9)).trans (by rw [Nat.eq_of_beq_eq_true a5]; rfl)
  · exact (lev_eq _ _ 1 (lt_of_all a8) (lt_of_all a9)).trans (by rw [Nat.eq_of_beq_eq_true a6]; rfl)
  · exact (lev_eq _ _ 3 (lt_of_all a10) (lt_of_all a11)).trans (by rw [Nat.eq_of_beq_eq_true a7]; rfl)
  · intro i g hi g0 g8
    obtain ⟨gn, rfl⟩ : ∃ gn : Nat, g = (gn : Int) := ⟨g.toNat, by omega⟩
    have hg : gn < 8 := by omega
    have q := List.all_eq_true.mp hQ i (List.mem_range.mpr hi)
    simp only [Bool.and_eq_true] at q
    obtain ⟨⟨⟨⟨q1, q2⟩, q3⟩, q4⟩, q5⟩ := q
    have qg := List.all_eq_true.mp q5 gn (List.mem_range.mpr hg)
    simp only [Bool.and_eq_true] at qg
    obtain ⟨⟨⟨⟨r1, r2⟩, r3⟩, r4⟩, r5⟩ := qg
    have z := List.all_eq_true.mp (List.all_eq_true.mp hZ x hx) i (List.mem_range.mpr hi)
    simp only [Bool.and_eq_true] at z
    obtain ⟨z1, z2⟩ := z
    have b := List.all_eq_true.mp (List.all_eq_true.mp (List.all_eq_true.mp hB x hx) i (List.mem_range.mpr hi)) gn (List.mem_range.mpr hg)
    simp only [Bool.and_eq_true] at b
    obtain ⟨b1, b2⟩ := b
    have e1 := eq_of_beq q1
    rw [e1]
    generalize zN f i = zz at *
    have z128 : ∀ c ∈ (toS zz).cps.toList, c < 128 := lt_of_all q3
    have ea := eq_of_beq r1
    have eb := eq_of_beq r4
    have a128 : ∀ c ∈ (toS (askN zz gn)).cps.toList, c < 128 := lt_of_all r2
    have et : toldI (toS x) (askS (toS zz) gn) i (bdI gn) = ((bif Nat.beq (i % 2) 0 then levN x (askN zz gn) (bdN gn) else levN (askN zz gn) x (bdN gn) : Nat) : Int) := by
      unfold toldI
      rw [ea, eb, cond_beq]
      have ei : ((i : Int).fmod 2 = 0) ↔ i % 2 = 0 := by
        rw [Int.fmod_eq_emod_of_nonneg _ (by decide)]
        omega
      by_cases h : i % 2 = 0
      · rw [if_pos (ei.mpr h), if_pos h]
        exact lev_eq _ _ _ x128 a128
      · rw [if_neg (fun k => h (ei.mp k)), if_neg h]
        exact lev_eq _ _ _ a128 x128
    have es : (eats (toS x).cps.toList (KStt.codes (toS zz))).isSome = eatsN x zz := eats_eq zz x
    refine ⟨?_, ?_, q2, a2, ?_, of_decide_eq_true r5⟩
    · rw [et, eb, es]
      refine c1_of ?_ ?_ ?_
      · rw [int_beq]; exact eq_of_beq b1
      · rw [int_blt]; exact eq_of_beq b2
      · exact eq_of_beq z2
    · exact (lev_eq _ _ 2 x128 z128).trans (eq_of_beq z1)
    · rw [ea]
      show (toS (askN zz gn)).cps.size ≤ 20
      have : (askN zz gn).length = 3 := Nat.eq_of_beq_eq_true r3
      show (askN zz gn).toArray.size ≤ 20
      rw [List.size_toArray, this]
      decide
  · have l := eq_of_beq (List.all_eq_true.mp hL x hx)
    refine Eq.trans ?_ l
    have key : ∀ n, n ≤ 8 → (List.range n).foldl (fun l (i : Nat) => l.filter fun o => scat (ltS (toS f) i) o == (eats (toS x).cps.toList (KStt.codes (ltS (toS f) i))).isSome) (leftS (toS f) 5) = (List.range n).foldl (fun l (i : Nat) => l.filter fun o => scat (toS (zN f i)) o == eatsN x (zN f i)) (leftS (toS f) 5) := by
      intro n
      induction n with
      | zero => intro _; rfl
      | succ n ih =>
        intro hn
        rw [List.range_succ, List.foldl_append, List.foldl_append, ih (by omega)]
        have q := List.all_eq_true.mp hQ n (List.mem_range.mpr hn)
        simp only [Bool.and_eq_true] at q
        have e1 := eq_of_beq q.1.1.1.1
        simp only [List.foldl_cons, List.foldl_nil]
        rw [e1]
        have es : (eats (toS x).cps.toList (KStt.codes (toS (zN f n)))).isSome = eatsN x (zN f n) := eats_eq _ x
        rw [es]
    exact key 8 (Nat.le_refl _)
theorem item_toS {f : List Nat} (hf : f.length = 2) (z : Int) : ∃ c ∈ f, Txt.item (toS f) (z.fmod 2) = ⟨#[c]⟩ := by
  have h0 := Int.fmod_nonneg_of_pos z (b := 2) (by decide)
  have h1 := Int.fmod_lt_of_pos z (b := 2) (by decide)
  have hl : (toS f).length = 2 := by show f.toArray.size = 2; rw [List.size_toArray, hf]
  refine ⟨(toS f).cps.getD (z.fmod 2).toNat 0, ?_, item_eq h0 (by omega)⟩
  have hlt : (z.fmod 2).toNat < f.length := by omega
  have e : (toS f).cps.getD (z.fmod 2).toNat 0 = f[(z.fmod 2).toNat] := by
    show f.toArray.getD _ 0 = _
    simp [hlt]
  rw [e]
  exact List.getElem_mem _
theorem word_toS {f : List Nat} (hf : f.length = 2) (ds : List Int) : ∃ x ∈ wordsN f 5, wordI (toS f) ds = toS x := by
  obtain ⟨c0, h0, e0⟩ := item_toS hf (ds.getD 0 0)
  obtain ⟨c1, h1, e1⟩ := item_toS hf (ds.getD 1 0)
  obtain ⟨c2, h2, e2⟩ := item_toS hf (ds.getD 2 0)
  obtain ⟨c3, h3, e3⟩ := item_toS hf (ds.getD 3 0)
  obtain ⟨c4, h4, e4⟩ := item_toS hf (ds.getD 4 0)
  refine ⟨[c0, c1, c2, c3, c4], ?_, ?_⟩
  · exact mem_words (a := [c0, c1, c2, c3]) (mem_words (a := [c0, c1, c2]) (mem_words (a := [c0, c1]) (mem_words (a := [c0]) (mem_words (a := []) (List.mem_singleton.mpr rfl) h0) h1) h2) h3) h4
  · have e : ((rangeKs 0 5).map fun k => Txt.item (toS f) ((ds.getD k.toNat 0).fmod 2)) = [c0, c1, c2, c3, c4].map fun a => (⟨#[a]⟩ : Str) := by
      show [Txt.item (toS f) ((ds.getD 0 0).fmod 2), Txt.item (toS f) ((ds.getD 1 0).fmod 2), Txt.item (toS f) ((ds.getD 2 0).fmod 2), Txt.item (toS f) ((ds.getD 3 0).fmod 2), Txt.item (toS f) ((ds.getD 4 0).fmod 2)] = _
      rw [e0, e1, e2, e3, e4]
      rfl
    unfold wordI
    rw [e, join_ones]
    rfl
theorem A_0 : chkA [104, 112] = true := by decide +kernel
theorem Z_0 : chkZ [104, 112] = true := by decide +kernel
theorem Q_0 : chkQ [104, 112] = true := by decide +kernel
theorem L_0 : chkL [104, 112] = true := by decide +kernel
theorem B_0 : chkB [104, 112] = true := by decide +kernel
theorem A_1 : chkA [115, 116] = true := by decide +kernel
theorem Z_1 : chkZ [115, 116] = true := by decide +kernel
theorem Q_1 : chkQ [115, 116] = true := by decide +kernel
theorem L_1 : chkL [115, 116] = true := by decide +kernel
theorem B_1 : chkB [115, 116] = true := by decide +kernel
theorem A_2 : chkA [107, 109] = true := by decide +kernel
theorem Z_2 : chkZ [107, 109] = true := by decide +kernel
theorem Q_2 : chkQ [107, 109] = true := by decide +kernel
theorem L_2 : chkL [107, 109] = true := by decide +kernel
theorem B_2 : chkB [107, 109] = true := by decide +kernel
theorem A_3 : chkA [102, 105] = true := by decide +kernel
theorem Z_3 : chkZ [102, 105] = true := by decide +kernel
theorem Q_3 : chkQ [102, 105] = true := by decide +kernel
theorem L_3 : chkL [102, 105] = true := by decide +kernel
theorem B_3 : chkB [102, 105] = true := by decide +kernel
theorem fam_of {f : Str} (h : f ∈ famS) : f = toS [104, 112] ∨ f = toS [115, 116] ∨ f = toS [107, 109] ∨ f = toS [102, 105] := by
  have e : famS = [toS [104, 112], toS [115, 116], toS [107, 109], toS [102, 105]] := by decide +kernel
  rw [e] at h
  simpa using h
theorem plain (f : Str) (hf : f ∈ famS) (ds : List Int) : PlainOk f (wordI f ds) := by
  rcases fam_of hf with rfl | rfl | rfl | rfl
  · obtain ⟨x, hx, e⟩ := word_toS (f := [104, 112]) rfl ds
    rw [e]; exact plain_of A_0 Z_0 Q_0 L_0 B_0 hx
  · obtain ⟨x, hx, e⟩ := word_toS (f := [115, 116]) rfl ds
    rw [e]; exact plain_of A_1 Z_1 Q_1 L_1 B_1 hx
  · obtain ⟨x, hx, e⟩ := word_toS (f := [107, 109]) rfl ds
    rw [e]; exact plain_of A_2 Z_2 Q_2 L_2 B_2 hx
  · obtain ⟨x, hx, e⟩ := word_toS (f := [102, 105]) rfl ds
    rw [e]; exact plain_of A_3 Z_3 Q_3 L_3 B_3 hx
end Mine

namespace Mine
open PySem PySem.W PySem.Calls PyProof.Rows
set_option maxRecDepth 100000
noncomputable abbrev p00 : Pos := ⟨0, 0, 0, 0⟩
noncomputable abbrev topEnv : Env := { scope := pw.main.scope, locals := mainNs, globals := mainNs, cells := [], code := .ref 13, frame := some 14 }
noncomputable abbrev topC : Code := .body (behindTheImports pw) topEnv
noncomputable abbrev annT : Option Value := some (.ref 6)
noncomputable def o3At (P : Params) (v : Value) (n : Nat) : Obj := dictO (en P "__name__" 165 v :: ((mainEs P).drop 1).take (n - 1)) n
noncomputable def o12L : List Value := match o12.data with
  | .fields a => a.toList
  | _ => []
noncomputable def o12At (k : Nat) : Obj := ⟨.none, none, .fields ((o12L.take (3 * k)).toArray), #[]⟩
noncomputable def bootL (P : Params) : List Obj := [boot_o_0 P, boot_o_1 P, o2]
noncomputable def lowL (P : Params) (x3 x12 : Obj) : List Obj := [boot_o_0 P, boot_o_1 P, o2, x3, boot_o_4 P, boot_o_5 P, o6, boot_o_7 P, boot_o_8 P, boot_o_9 P, boot_o_10 P, o11, x12, o13, o14]
noncomputable def upL (P : Params) : List Obj := (objsAll P).drop 15
noncomputable def insAll : Nat → BT → List Obj → BT
  | _, t, [] => t
  | i, t, o :: r => insAll (i + 1) (t.ins i o) r
noncomputable def bootLife (P : Params) : Life := (boot_heap P).life
noncomputable def stT (w : World) (os : OsState) (v : Value) (n k up toks : Nat) : SharedT := ⟨insAll 0 .nil (lowL w.params (o3At w.params v n) (o12At k) ++ (upL w.params).take up), 15 + up, bootLife w.params, #[], boot_drawn, toks, os⟩
noncomputable def Ha (P : Params) : Heap := ⟨(lowL P (boot_o_3 P) (o12At 0)).toArray, bootLife P⟩
theorem t_pre (w : World) (os : OsState) : topGo treeTable pw w 11 annT 12 ⟨boot_heap w.params, #[], boot_drawn, boot_toks, os⟩ (topStub pw) = some (⟨Ha w.params, #[], boot_drawn, 187, os⟩, ⟨denote treeTable topC, topC, p00, [topFrame p00]⟩) := by kernel_rfl
noncomputable def Sb (w : World) (os : OsState) : SharedT := ⟨insAll 0 .nil (lowL w.params (boot_o_3 w.params) (o12At 0)), 15, bootLife w.params, #[], boot_drawn, 187, os⟩
theorem t_block (w : World) (os : OsState) : segRun treeTable pw w 11 annT 1 1 ⟨Ha w.params, #[], boot_drawn, 187, os⟩ (blockOf (behindTheImports pw) topEnv topC p00 [topFrame p00]) = some (.next, (Sb w os).abs, topC, p00) := by kernel_rfl
noncomputable abbrev nmA : Value := .str (Str.ofString "cpy313.stringprep") 197
theorem t_A (w : World) (os : OsState) : segRunT treeTable pw w 11 annT 1 49 (Sb w os) (piecesOf [st 0, st 1, st 2] topEnv topC p00 [topFrame p00]) = some (.next, stT w os nmA 10 1 7 199, topC, ⟨4, 0, 4, 8⟩) := by kernel_rfl
end Mine

namespace Mine
open PySem PySem.W PySem.Calls PyProof.Rows
set_option maxRecDepth 100000
noncomputable def listNewP : { b : Builtin // Builtin.«list.__new__» = b } := by
  refine ⟨?b, ?h⟩
  case h =>
    unfold Builtin.«list.__new__»
    rw [splitQ_eq]
noncomputable def tabQ (id : String) : Option Builtin := match Nat.beq (PySem.code id) (PySem.code "list.__new__") with
  | true => some listNewP.1
  | false => treeTable id
theorem tab_list : treeTable "list.__new__" = some Builtin.«list.__new__» := by kernel_rfl
theorem tabQ_eq : treeTable = tabQ := by
  funext id
  unfold tabQ
  cases h : Nat.beq (PySem.code id) (PySem.code "list.__new__") with
  | false => rfl
  | true =>
    have e : treeTable id = treeTable "list.__new__" := by
      unfold treeTable
      rw [Nat.eq_of_beq_eq_true h]
    rw [e, tab_list]
    exact congrArg some listNewP.2
noncomputable abbrev wB (w : World) (b : Bool) : World := w.withFollow "special-get-raises" b
theorem t_B0 (w : World) (os : OsState) : segRunT tabQ pw (wB w false) 11 annT 1 999 (stT (wB w false) os nmA 10 1 7 199) (piecesOf [st 3] topEnv topC ⟨4, 0, 4, 8⟩ [topFrame p00]) = some (.next, stT (wB w false) os nmA 11 1 18 259, topC, ⟨5, 0, 5, 6⟩) := by kernel_rfl
theorem t_B1 (w : World) (os : OsState) : segRunT tabQ pw (wB w true) 11 annT 1 999 (stT (wB w true) os nmA 10 1 7 199) (piecesOf [st 3] topEnv topC ⟨4, 0, 4, 8⟩ [topFrame p00]) = some (.next, stT (wB w true) os nmA 11 1 18 259, topC, ⟨5, 0, 5, 6⟩) := by kernel_rfl
theorem t_B (w : World) (os : OsState) : segRunT treeTable pw w 11 annT 1 999 (stT w os nmA 10 1 7 199) (piecesOf [st 3] topEnv topC ⟨4, 0, 4, 8⟩ [topFrame p00]) = some (.next, stT w os nmA 11 1 18 259, topC, ⟨5, 0, 5, 6⟩) := by
  rw [tabQ_eq]
  have k : ∀ b, segRunT tabQ pw (wB w b) 11 annT 1 999 (stT (wB w b) os nmA 10 1 7 199) (piecesOf [st 3] topEnv topC ⟨4, 0, 4, 8⟩ [topFrame p00]) = some (.next, stT (wB w b) os nmA 11 1 18 259, topC, ⟨5, 0, 5, 6⟩) := by
    intro b
    cases b
    · exact t_B0 w os
    · exact t_B1 w os
  have := k (w.params.followText "special-get-raises")
  rw [show wB w (w.params.followText "special-get-raises") = w from World.withFollow_self _ _] at this
  exact this
end Mine

namespace Mine
open PySem PySem.W PySem.Calls PyProof.Rows
set_option maxRecDepth 100000
theorem t_C (w : World) (os : OsState) : segRunT treeTable pw w 11 annT 1 30 (stT w os nmA 11 1 18 259) (piecesOf [st 4] topEnv topC ⟨5, 0, 5, 6⟩ [topFrame p00]) = some (.next, stT w os nmA 12 2 25 266, topC, ⟨6, 0, 7, 30⟩) := by kernel_rfl
noncomputable abbrev nmZ : Value := .str (Str.ofString "law_tl0030_01") 2261
theorem t_E (w : World) (os : OsState) : segRunT treeTable pw w 11 annT 1 395 (stT w os nmA 13 2 64 2217) (piecesOf [st 6, st 7, st 8, st 9, st 10, st 11, st 12, st 13, st 14, st 15, st 16, st 17, st 18, st 19, st 20, st 21] topEnv topC ⟨8, 0, 8, 13⟩ [topFrame p00]) = some (.next, stT w os nmZ 27 13 139 2336, topC, ⟨115, 0, 146, 194⟩) := by kernel_rfl
end Mine

namespace Mine
open PySem PySem.W PySem.Calls PyProof.Rows
set_option maxRecDepth 100000
noncomputable abbrev B0 : List Frame := [topFrame p00]
noncomputable abbrev SR (w : World) (n : Nat) (s : Shared) (t : Thread) := segRun treeTable pw w 11 annT 1 n s t
set_option linter.unusedVariables false
noncomputable def Ev {α : Type} (w : World) (x : Sem α) (s : Shared) (a : α) (s' : Shared) (b : Nat) : Prop :=
  ∀ (K : α → Sem Fin) (H : Value → Sem Fin) (gd : Bool → Bool) (lv : List Value → List Value) (pos : Pos), ∃ n, n ≤ b ∧ ∃ pos', ∀ N, SR w (N + n) s ⟨x.wrap K H gd lv, topC, pos, B0⟩ = SR w N s' ⟨K a, topC, pos', B0⟩
section
variable {α β : Type} {w : World} {s s' s'' : Shared} {b b1 b2 : Nat}
theorem Ev.pure (a : α) : Ev w (Pure.pure a) s a s 0 := fun K H gd lv pos => ⟨0, Nat.le_refl _, pos, fun N => rfl⟩
theorem Ev.bind {x : Sem α} {f : α → Sem β} {a : α} {c : β} (h1 : Ev w x s a s' b1) (h2 : Ev w (f a) s' c s'' b2) : Ev w (x >>= f) s c s'' (b1 + b2) := fun K H gd lv pos => by
  obtain ⟨n1, l1, p1, e1⟩ := h1 (fun a => (f a).wrap K H gd lv) H gd lv pos
  obtain ⟨n2, l2, p2, e2⟩ := h2 K H gd lv p1
  refine ⟨n2 + n1, by omega, p2, fun N => ?_⟩
  rw [Sem.bind_eq_wrap', Sem.wrap_wrap, ← Nat.add_assoc]
  exact (e1 (N + n2)).trans (e2 N)
theorem Ev.mono {x : Sem α} {a : α} (h : Ev w x s a s' b1) (l : b1 ≤ b2) : Ev w x s a s' b2 := fun K H gd lv pos => by
  obtain ⟨n1, l1, p1, e1⟩ := h K H gd lv pos
  exact ⟨n1, by omega, p1, e1⟩
theorem Ev.keep {x : Sem α} {a : α} {vs : List Value} (h : Ev w x s a s' b) : Ev w (x.keep vs) s a s' b := fun K H gd lv pos => by
  obtain ⟨n1, l1, p1, e1⟩ := h K H gd (fun l => lv (vs ++ l)) pos
  refine ⟨n1, l1, p1, fun N => ?_⟩
  rw [Sem.keep_eq_wrap, Sem.wrap_wrap]
  exact e1 N
theorem Ev.holding {x : Sem α} {a : α} {vs : List Value} (h : Ev w x s a s' b) : Ev w (PySem.holding vs x) s a s' b := by
  unfold PySem.holding
  split
  · exact h
  · exact h.keep
theorem Ev.onRaise {x : Sem α} {a : α} {g : Value → Sem Unit} (h : Ev w x s a s' b) : Ev w (x.onRaise g) s a s' b := fun K H gd lv pos => by
  obtain ⟨n1, l1, p1, e1⟩ := h K (fun e => ((g e).bind fun _ => (Sem.raise e : Sem α)).wrap K H gd lv) gd lv pos
  refine ⟨n1, l1, p1, fun N => ?_⟩
  rw [Sem.onRaise_eq_wrap, Sem.wrap_wrap]
  exact e1 N
theorem Ev.rule (t : String) : Ev w (PySem.rule t) s () s 1 := fun K H gd lv pos => ⟨1, Nat.le_refl _, pos, fun N => by
  obtain ⟨h, g, d, tk, os⟩ := s
  rfl⟩
theorem Ev.at (q : Pos) : Ev w (standAt q) s () s 1 := fun K H gd lv pos => ⟨1, Nat.le_refl _, q, fun N => by
  obtain ⟨h, g, d, tk, os⟩ := s
  rfl⟩
theorem Ev.fresh : Ev w PySem.fresh s s.toks { s with toks := s.toks + 1 } 1 := fun K H gd lv pos => ⟨1, Nat.le_refl _, pos, fun N => by
  obtain ⟨h, g, d, tk, os⟩ := s
  rfl⟩
theorem Ev.alloc (o : Obj) : Ev w (PySem.alloc o) s s.heap.objs.size { s with heap := s.heap.push o } 1 := fun K H gd lv pos => ⟨1, Nat.le_refl _, pos, fun N => by
  obtain ⟨h, g, d, tk, os⟩ := s
  rfl⟩
theorem sr_step {N : Nat} {s s' : Shared} {t t' : Thread} (h1 : endAt 1 t = none) (h2 : stepOk 11 annT t = true) (h3 : step (denote treeTable) pw w s t = .go s' t') : SR w (N + 1) s t = SR w N s' t' := by
  show segRun _ _ _ _ _ _ (N + 1) _ _ = _
  rw [segRun, h1]
  dsimp only
  rw [h2]
  dsimp only
  rw [h3]
theorem Ev.load {a : Addr} {part : Option Value} {o : Obj} (e : s.heap.get? a = some o) : Ev w (loadPart a part) s o s 1 := fun K H gd lv pos => ⟨1, Nat.le_refl _, pos, fun N => by
  obtain ⟨h, g, d, tk, os⟩ := s
  dsimp only at e
  exact sr_step rfl rfl (by simp only [loadPart, Sem.wrap, step, e])⟩
theorem Ev.update {a : Addr} {part : Option Value} {f : Obj → Obj} {o : Obj} (e : s.heap.get? a = some o) (ha : 11 ≤ a) : Ev w (updatePart a part f) s () { s with heap := s.heap.update a f } 1 := fun K H gd lv pos => ⟨1, Nat.le_refl _, pos, fun N => by
  obtain ⟨h, g, d, tk, os⟩ := s
  dsimp only at e
  have hok : stepOk 11 annT ⟨(updatePart a part f).wrap K H gd lv, topC, pos, B0⟩ = true := by
    show (true && (Nat.ble 11 a || _ || _ || _)) = true
    rw [Nat.ble_eq_true_of_le ha]
    rfl
  exact sr_step rfl hok (by simp only [updatePart, Sem.wrap, step, e, Option.isSome_some, if_true])⟩
theorem hash_b (k : Int) (t : Tok) (b : Bool) (h g d tk os) (K : Int → Sem Fin) (H : Value → Sem Fin) (gd : Bool → Bool) (lv : List Value → List Value) (pos : Pos) (N : Nat) :
    SR (w.withFollow "special-get-raises" b) (N + 5) ⟨h, g, d, tk, os⟩ ⟨(pyHash (.int k t)).wrap K H gd lv, topC, pos, B0⟩ = SR (w.withFollow "special-get-raises" b) N ⟨h, g, d, tk + 1, os⟩ ⟨(pyHashByItsType.reduced (rawHash k)).wrap K H gd lv, topC, pos, B0⟩ := by
  cases b
  · kernel_rfl
  · kernel_rfl
theorem reduced_eq (k : Int) : pyHashByItsType.reduced (rawHash k) = Pure.pure (hashInt k) := by
  have hr := rawHash_range k
  unfold pyHashByItsType.reduced
  show (if (decide (-(2 : Int) ^ 63 ≤ rawHash k) && decide (rawHash k < 2 ^ 63)) = true then _ else _) = _
  rw [if_pos (by rw [decide_eq_true hr.1, decide_eq_true hr.2]; rfl)]
  rfl
theorem Ev.hash (k : Int) (t : Tok) : Ev w (pyHash (.int k t)) s (hashInt k) { s with toks := s.toks + 1 } 5 := fun K H gd lv pos => ⟨5, Nat.le_refl _, pos, fun N => by
  obtain ⟨h, g, d, tk, os⟩ := s
  have e := hash_b (w := w) k t (w.params.followText "special-get-raises") h g d tk os K H gd lv pos N
  rw [World.withFollow_self, reduced_eq] at e
  exact e⟩
end
end Mine

namespace Mine
open PySem PySem.W PySem.Calls PyProof.Rows
set_option maxRecDepth 100000
set_option linter.unusedVariables false
section
variable {α β : Type} {w : World} {s s' s'' : Shared} {b b1 b2 : Nat}
theorem Ev.entries {d : Addr} {part : Option Value} {es : List DictEntry} {n : Nat} (ho : s.heap.get? d = some (dictO es n)) : Ev w (dictEntries d part) s es.toArray s 1 :=
  Ev.bind (b2 := 0) (Ev.load ho) (Ev.pure _)
theorem places_nil {es : List DictEntry} {h : Int} (hno : ∀ e ∈ es, e.hash ≠ h) : placesWithHash es.toArray.size (fun i => es.toArray[i]?.map (·.hash)) h = [] := by
  unfold placesWithHash
  rw [List.filter_eq_nil_iff]
  intro i hi
  simp only [List.getElem?_toArray, beq_iff_eq]
  cases e : es[i]? with
  | none => simp
  | some x =>
    intro q
    simp only [Option.map_some, Option.some.injEq] at q
    exact hno x (List.mem_of_getElem? e) q
theorem Ev.find {d : Addr} {es : List DictEntry} {n : Nat} {k : Int} {t : Tok} {h : Int} (ho : s.heap.get? d = some (dictO es n)) (hno : ∀ e ∈ es, e.hash ≠ h) : Ev w (dictFind d (.int k t) h) s none s 1 := by
  unfold dictFind
  refine Ev.holding (Ev.bind (b2 := 0) (Ev.entries ho) ?_)
  dsimp only
  rw [places_nil hno]
  exact Ev.pure _
theorem Ev.keys {d : Addr} {part : Option Value} {es : List DictEntry} {n : Nat} {e : DictEntry} (ho : s.heap.get? d = some (dictO es n)) (hd : 11 ≤ d) (hsz : es.length < 1000) :
    Ev w (updateDictKeys d (·.push e) part) s () { s with heap := s.heap.update d (Obj.mapDictKeys (·.push e)) } 3 := by
  unfold updateDictKeys
  refine Ev.bind (b1 := 1) (b2 := 2) (Ev.load ho) ?_
  dsimp only
  refine Ev.bind (b1 := 1) (b2 := 1) (Ev.update ho hd) ?_
  unfold lookBehind
  have hg : (s.heap.update d (Obj.mapDictKeys (·.push e))).get? d = some (dictO (es ++ [e]) (n + 1)) := by
    have := Heap.get?_update_self (Obj.mapDictKeys (·.push e)) ho rfl
    rw [this]
    show some (Obj.mapDictKeys _ (dictO es n)) = _
    simp [Obj.mapDictKeys]
  refine Ev.bind (b1 := 1) (b2 := 0) (Ev.load (s := { s with heap := s.heap.update d (Obj.mapDictKeys (·.push e)) }) hg) ?_
  have hp : (dictO (es ++ [e]) (n + 1)).data.pastItsLine = none := by
    refine pastItsLine_dict ?_
    rw [List.size_toArray, List.length_append, List.length_singleton, PySem.sizeLine_eq]
    omega
  rw [hp]
  exact Ev.pure _
theorem Ev.set {d : Addr} {es : List DictEntry} {n : Nat} {k : Int} {t : Tok} {v : Value} (ho : s.heap.get? d = some (dictO es n)) (hd : 11 ≤ d) (hsz : es.length < 1000) (hno : ∀ e ∈ es, e.hash ≠ hashInt k) :
    Ev w (dictSet d (.int k t) v) s () { s with heap := s.heap.update d (Obj.mapDictKeys (·.push ⟨hashInt k, .int k t, v⟩)), toks := s.toks + 1 } 10 := by
  unfold dictSet
  refine Ev.holding (Ev.bind (b1 := 5) (b2 := 5) (Ev.hash k t) ?_)
  unfold dictSetHashed
  refine Ev.holding (Ev.bind (b1 := 1) (b2 := 4) (Ev.find (s := { s with toks := s.toks + 1 }) ho hno) ?_)
  dsimp only
  exact Ev.bind (b1 := 1) (b2 := 3) (Ev.rule _) (Ev.keys (s := { s with toks := s.toks + 1 }) ho hd hsz)
theorem Ev.put {d : Addr} {es : List DictEntry} {n : Nat} {k h : Int} {t : Tok} {v : Value} (ho : s.heap.get? d = some (dictO es n)) (hd : 11 ≤ d) (hsz : es.length < 1000) (hno : ∀ e ∈ es, e.hash ≠ h) :
    Ev w (dictPut d h (.int k t) v) s () { s with heap := s.heap.update d (Obj.mapDictKeys (·.push ⟨h, .int k t, v⟩)) } 4 := by
  unfold dictPut
  refine Ev.bind (b1 := 1) (b2 := 3) (Ev.find ho hno) ?_
  dsimp only
  exact Ev.keys ho hd hsz
end
noncomputable def Hp (l : List Obj) (life : Life) : Heap := ⟨l.toArray, life⟩
theorem Hp_push (l : List Obj) (life : Life) (o : Obj) : (Hp l life).push o = Hp (l ++ [o]) life := by
  show (⟨l.toArray.push o, life⟩ : Heap) = _
  simp [Hp]
theorem Hp_size (l : List Obj) (life : Life) : (Hp l life).objs.size = l.length := by simp [Hp]
theorem modL (f : Obj → Obj) (x : Obj) (post : List Obj) : ∀ pre : List Obj, (pre ++ x :: post).modify pre.length f = pre ++ f x :: post
  | [] => rfl
  | a :: r => congrArg (a :: ·) (modL f x post r)
theorem Hp_upd (pre post : List Obj) (x : Obj) (life : Life) (f : Obj → Obj) : (Hp (pre ++ x :: post) life).update pre.length f = Hp (pre ++ f x :: post) life := by
  show (⟨(pre ++ x :: post).toArray.modify pre.length f, life⟩ : Heap) = _
  unfold Hp
  congr 1
  apply Array.toList_inj.mp
  rw [Array.toList_modify]
  exact modL f x post pre
theorem Hp_get (pre post : List Obj) (es : List DictEntry) (n : Nat) (life : Life) : (Hp (pre ++ dictO es n :: post) life).get? pre.length = some (dictO es n) := by
  refine Heap.get?_some_iff.mpr ⟨?_, rfl⟩
  simp [Hp]
noncomputable def Rel1 (w : World) (it : Sem Value × Sem Value) (kv : Int × Str) : Prop := ∀ s : Shared, Ev w it.1 s (.int kv.1 s.toks) { s with toks := s.toks + 1 } 1 ∧ Ev w it.2 s (.str kv.2 s.toks) { s with toks := s.toks + 1 } 2
inductive RelA (w : World) : List (Sem Value × Sem Value) → List (Int × Str) → Prop
  | nil : RelA w [] []
  | cons {i k is ks} : Rel1 w i k → RelA w is ks → RelA w (i :: is) (k :: ks)
noncomputable abbrev ent (k : Int × Str) (tk : Nat) : DictEntry := ⟨hashInt k.1, .int k.1 tk, .str k.2 (tk + 1)⟩
noncomputable def Asc : Int → List (Int × Str) → Prop
  | _, [] => True
  | m, (k, _) :: r => m < hashInt k ∧ Asc (hashInt k) r
noncomputable def topH : Int → List (Int × Str) → Int
  | m, [] => m
  | _, (k, _) :: r => topH (hashInt k) r
section
variable {w : World}
theorem long_loop {pre : List Obj} {life : Life} {gs : Array GenState} {dr : Drawn} {os : OsState} (h11 : 11 ≤ pre.length) : ∀ {is : List (Sem Value × Sem Value)} {ks : List (Int × Str)}, RelA w is ks → ∀ (es : List DictEntry) (tk : Nat) (m : Int), (∀ e ∈ es, e.hash ≤ m) → Asc m ks → es.length + ks.length < 1000 →
    Ev w (forIn is PUnit.unit fun p _ => do
        let kv ← p.1
        let vv ← holding [kv] p.2
        holding [kv, vv] (dictSet pre.length kv vv)
        pure (ForInStep.yield PUnit.unit)) ⟨Hp (pre ++ [dictO es es.length]) life, gs, dr, tk, os⟩ PUnit.unit
      ⟨Hp (pre ++ [dictO (es ++ pairs3 tk ks) (es ++ pairs3 tk ks).length]) life, gs, dr, tk + 3 * ks.length, os⟩ (13 * ks.length)
  | _, _, .nil, es, tk, m, _, _, _ => by
    rw [List.forIn_nil]
    simp only [pairs3, List.append_nil, List.length_nil, Nat.mul_zero, Nat.add_zero]
    exact Ev.pure _
  | _, _, .cons (i := i) (k := k) (is := is) (ks := ks) hr hR, es, tk, m, hm, ha, hl => by
    rw [List.forIn_cons]
    have h1 := hr ⟨Hp (pre ++ [dictO es es.length]) life, gs, dr, tk, os⟩
    have h2 := hr ⟨Hp (pre ++ [dictO es es.length]) life, gs, dr, tk + 1, os⟩
    have hlk : (k :: ks).length = ks.length + 1 := rfl
    rw [hlk] at hl ⊢
    have hno : ∀ e ∈ es, e.hash ≠ hashInt k.1 := fun e he => by have := hm e he; have := ha.1; omega
    have hset := Ev.set (w := w) (s := ⟨Hp (pre ++ [dictO es es.length]) life, gs, dr, tk + 1 + 1, os⟩) (t := tk) (v := .str k.2 (tk + 1)) (Hp_get pre [] es es.length life) h11 (by omega) hno
    rw [Hp_upd] at hset
    have e1 : Obj.mapDictKeys (fun a : Array DictEntry => a.push (ent k tk)) (dictO es es.length) = dictO (es ++ [ent k tk]) (es ++ [ent k tk]).length := by
      simp [Obj.mapDictKeys]
    rw [e1] at hset
    have ih := long_loop (life := life) (gs := gs) (dr := dr) (os := os) h11 hR (es ++ [ent k tk]) (tk + 3) (hashInt k.1) (fun e he => by
      rcases List.mem_append.mp he with h | h
      · have := hm e h; have := ha.1; omega
      · rw [List.mem_singleton.mp h]; exact Int.le_refl _) ha.2 (by rw [List.length_append, List.length_singleton]; omega)
    have ep : es ++ pairs3 tk (k :: ks) = (es ++ [ent k tk]) ++ pairs3 (tk + 3) ks := by
      rw [List.append_assoc]; rfl
    rw [ep]
    have et : tk + 3 * (ks.length + 1) = tk + 3 + 3 * ks.length := by omega
    rw [et]
    have eb : 13 * (ks.length + 1) = 13 + 13 * ks.length := by omega
    rw [eb]
    exact Ev.bind (b1 := 13) (b2 := 13 * ks.length) (Ev.bind (b1 := 1) (b2 := 12) h1.1 (Ev.bind (b1 := 2) (b2 := 10) (Ev.holding h2.2) (Ev.bind (b1 := 10) (b2 := 0) (Ev.holding hset) (Ev.pure _)))) ih
end
end Mine

namespace Mine
open PySem PySem.W PySem.Calls PyProof.Rows
set_option maxRecDepth 100000
set_option linter.unusedVariables false
section
variable {w : World} {pre : List Obj} {life : Life} {gs : Array GenState} {dr : Drawn} {os : OsState}
theorem sub_long (h11 : 11 ≤ pre.length) {is : List (Sem Value × Sem Value)} {ks : List (Int × Str)} (hR : RelA w is ks) (hl : ¬ is.length ≤ 15) (hk : ks.length < 1000) (tk : Nat) (m : Int) (ha : Asc m ks) :
    Ev w (subDict is) ⟨Hp pre life, gs, dr, tk, os⟩ pre.length ⟨Hp (pre ++ [dictO (pairs3 tk ks) (pairs3 tk ks).length]) life, gs, dr, tk + 3 * ks.length, os⟩ (2 + 13 * ks.length) := by
  unfold subDict
  have hal := Ev.alloc (w := w) (s := ⟨Hp pre life, gs, dr, tk, os⟩) { cls := .type "dict", data := .dict #[] }
  rw [Hp_push] at hal
  have hsz : (⟨Hp pre life, gs, dr, tk, os⟩ : Shared).heap.objs.size = pre.length := Hp_size pre life
  rw [hsz] at hal
  have hlp := long_loop (life := life) (gs := gs) (dr := dr) (os := os) h11 hR [] tk m (fun _ h => nomatch h) ha (by simpa using hk)
  rw [List.nil_append] at hlp
  have eb : 2 + 13 * ks.length = 1 + (1 + 13 * ks.length) := by omega
  rw [eb]
  refine Ev.bind (b1 := 1) (b2 := 1 + 13 * ks.length) hal ?_
  rw [if_neg hl]
  exact Ev.bind (a := ()) (b1 := 1 + 13 * ks.length) (b2 := 0) (Ev.holding (Ev.bind (a := ()) (b1 := 1) (b2 := 13 * ks.length) (Ev.rule _) (Ev.bind (a := PUnit.unit) (b1 := 13 * ks.length) (b2 := 0) hlp (Ev.pure _)))) (Ev.pure _)
theorem sub_dict : isSubtype (.type "dict") (.type "dict") = pure true := by kernel_rfl
theorem iter_dict : typeLookup (.type "dict") "__iter__" = pure (some (.builtin "dict.__iter__")) := by rw [typeLookup_type, builtinLookup_eq_fast]; kernel_rfl
theorem Ev.typeD {s : Shared} {a : Addr} {es : List DictEntry} {n : Nat} (h : s.heap.get? a = some (dictO es n)) : Ev w (typeOf (.ref a)) s (.type "dict") s 1 := by
  show Ev w (loadPart a (some headPart) >>= fun o => Pure.pure o.cls) s _ s 1
  exact Ev.bind (b2 := 0) (Ev.load h) (Ev.pure _)
theorem Ev.isD {s : Shared} {a : Addr} {es : List DictEntry} {n : Nat} (h : s.heap.get? a = some (dictO es n)) : Ev w (isInstance (.ref a) (.type "dict")) s true s 1 := by
  unfold isInstance
  refine Ev.bind (b1 := 1) (b2 := 0) (Ev.typeD h) ?_
  rw [sub_dict]
  exact Ev.pure _
theorem Ev.iterD {s : Shared} {a : Addr} {es : List DictEntry} {n : Nat} (h : s.heap.get? a = some (dictO es n)) : Ev w (specialOf (.ref a) "__iter__") s (some (.builtin "dict.__iter__")) s 1 := by
  unfold specialOf
  refine Ev.bind (b1 := 1) (b2 := 0) (Ev.typeD h) ?_
  rw [iter_dict]
  exact Ev.pure _
theorem Ev.epoch {s : Shared} {a : Addr} {part : Option Value} {es : List DictEntry} {n : Nat} (h : s.heap.get? a = some (dictO es n)) : Ev w (dictEpoch a part) s n s 1 :=
  Ev.bind (b2 := 0) (Ev.load h) (Ev.pure _)
noncomputable def IntE : Int → List DictEntry → Prop
  | _, [] => True
  | m, e :: r => (∃ k t, e.key = .int k t) ∧ m < e.hash ∧ IntE e.hash r
noncomputable def hp (p subs : List Obj) (fs : List DictEntry) (life : Life) (es : List DictEntry) : Heap := Hp (p ++ dictO es es.length :: (subs ++ [dictO fs fs.length])) life
theorem hp_main {p subs : List Obj} {fs es : List DictEntry} : (hp p subs fs life es).get? p.length = some (dictO es es.length) := Hp_get p _ es es.length life
theorem hp_sub {p subs : List Obj} {fs es : List DictEntry} : (hp p subs fs life es).get? (p.length + 1 + subs.length) = some (dictO fs fs.length) := by
  have e : p ++ dictO es es.length :: (subs ++ [dictO fs fs.length]) = (p ++ dictO es es.length :: subs) ++ dictO fs fs.length :: [] := by simp
  have el : p.length + 1 + subs.length = (p ++ dictO es es.length :: subs).length := by simp; omega
  unfold hp
  rw [e, el]
  exact Hp_get _ [] fs fs.length life
theorem merge_loop {p subs : List Obj} {fs : List DictEntry} {tk : Nat} (bd : Nat → PUnit → Sem (ForInStep PUnit))
    (hb : ∀ i e es m, fs[i]? = some e → (∃ k t, e.key = .int k t) → (∀ x ∈ es, x.hash ≤ m) → m < e.hash → es.length < 1000 → Ev w (bd i ⟨⟩) ⟨hp p subs fs life es, gs, dr, tk, os⟩ (ForInStep.yield ⟨⟩) ⟨hp p subs fs life (es ++ [e]), gs, dr, tk, os⟩ 6) :
    ∀ (r f : List DictEntry), fs = f ++ r → ∀ (es : List DictEntry) (m : Int), (∀ x ∈ es, x.hash ≤ m) → IntE m r → es.length + r.length < 1000 →
      Ev w (forIn (List.range' f.length r.length) PUnit.unit bd) ⟨hp p subs fs life es, gs, dr, tk, os⟩ PUnit.unit ⟨hp p subs fs life (es ++ r), gs, dr, tk, os⟩ (6 * r.length)
  | [], f, hf, es, m, h1, h2, h3 => by
    rw [List.append_nil]
    exact Ev.pure _
  | e :: r, f, hf, es, m, h1, h2, h3 => by
    rw [List.length_cons, List.range'_succ, List.forIn_cons]
    rw [List.length_cons] at h3
    have he : fs[f.length]? = some e := by rw [hf]; simp
    have hb1 := hb f.length e es m he h2.1 h1 h2.2.1 (by omega)
    have ih := merge_loop bd hb r (f ++ [e]) (by rw [hf]; simp) (es ++ [e]) e.hash (fun x hx => by
      rcases List.mem_append.mp hx with h | h
      · have := h1 x h; have := h2.2.1; omega
      · rw [List.mem_singleton.mp h]; exact Int.le_refl _) h2.2.2 (by rw [List.length_append, List.length_singleton]; omega)
    rw [List.length_append, List.length_singleton, List.append_assoc] at ih
    have eb : 6 * (r.length + 1) = 6 + 6 * r.length := by omega
    rw [eb]
    exact Ev.bind (b1 := 6) (b2 := 6 * r.length) hb1 ih
theorem Ev.merge {p subs : List Obj} {fs es : List DictEntry} {tk : Nat} {m : Int} (hp11 : 11 ≤ p.length) (hsm : sysModules < p.length) (hne : es ≠ []) (h1 : ∀ x ∈ es, x.hash ≤ m) (h2 : IntE m fs) (h3 : es.length + fs.length < 1000) :
    Ev w (mergeMapping p.length (.ref (p.length + 1 + subs.length)) false) ⟨hp p subs fs life es, gs, dr, tk, os⟩ () ⟨hp p subs fs life (es ++ fs), gs, dr, tk, os⟩ (10 + 6 * fs.length) := by
  have hS : ∀ es, (⟨hp p subs fs life es, gs, dr, tk, os⟩ : Shared).heap.get? (p.length + 1 + subs.length) = some (dictO fs fs.length) := fun es => hp_sub
  have hM : ∀ es, (⟨hp p subs fs life es, gs, dr, tk, os⟩ : Shared).heap.get? p.length = some (dictO es es.length) := fun es => hp_main
  have hlp := merge_loop (w := w) (life := life) (gs := gs) (dr := dr) (os := os) (p := p) (subs := subs) (fs := fs) (tk := tk)
  unfold mergeMapping
  refine Ev.mono (b1 := 1 + (1 + (0 + (1 + (1 + (1 + 6 * fs.length)))))) ?_ (by omega)
  refine Ev.bind (b1 := 1) (b2 := 1 + (0 + (1 + (1 + (1 + 6 * fs.length))))) (Ev.isD (hS es)) ?_
  rw [if_pos rfl]
  refine Ev.bind (b1 := 1) (b2 := 0 + (1 + (1 + (1 + 6 * fs.length)))) (Ev.iterD (hS es)) ?_
  refine Ev.bind (b1 := 0) (b2 := 1 + (1 + (1 + 6 * fs.length))) (Ev.pure _) ?_
  rw [show (some (Value.builtin "dict.__iter__") == some (Value.builtin "dict.__iter__")) = true from by decide]
  dsimp only
  have hns : ¬ ((p.length + 1 + subs.length == sysModules) = true) := by
    intro q
    have q2 : (p.length + 1 + subs.length : Nat) = sysModules := eq_of_beq q
    exact absurd (show (p.length + 1 + subs.length : Nat) < p.length from q2 ▸ hsm) (by omega)
  rw [if_neg hns]
  refine Ev.bind (b1 := 1) (b2 := 1 + (1 + 6 * fs.length)) (Ev.entries (hM es)) ?_
  rw [if_neg (by simpa using hne)]
  refine Ev.bind (b1 := 1) (b2 := 1 + 6 * fs.length) (Ev.entries (hS es)) ?_
  refine Ev.bind (b1 := 1) (b2 := 6 * fs.length) (Ev.epoch (hS es)) ?_
  refine Ev.bind (a := PUnit.unit) (b1 := 6 * fs.length) (b2 := 0) ?_ (Ev.pure _)
  rw [List.size_toArray, List.range_eq_range']
  refine hlp _ ?_ fs [] rfl es m h1 h2 h3
  intro i e es' m' hi hk' hm1 hm2 hl
  refine Ev.bind (b1 := 1) (b2 := 5) (Ev.entries (hS es')) ?_
  rw [List.getElem?_toArray, hi]
  dsimp only
  obtain ⟨k, t, hkt⟩ := hk'
  have hput := Ev.put (w := w) (s := ⟨hp p subs fs life es', gs, dr, tk, os⟩) (v := e.val) (t := t) (k := k) (h := e.hash) (hM es') hp11 hl (fun x hx => by have := hm1 x hx; omega)
  have eq : ((⟨hp p subs fs life es', gs, dr, tk, os⟩ : Shared).heap.update p.length (Obj.mapDictKeys (fun a : Array DictEntry => a.push ⟨e.hash, .int k t, e.val⟩))) = hp p subs fs life (es' ++ [e]) := by
    show (hp p subs fs life es').update _ _ = _
    unfold hp
    rw [Hp_upd]
    obtain ⟨eh, ek, ev⟩ := e
    dsimp only at hkt
    subst hkt
    simp [Obj.mapDictKeys]
  rw [eq] at hput
  refine Ev.bind (s' := ⟨hp p subs fs life (es' ++ [e]), gs, dr, tk, os⟩) (a := ()) (b1 := 4) (b2 := 1) (Ev.holding ?_) ?_
  · rw [hkt]
    exact hput
  · refine Ev.bind (b1 := 1) (b2 := 0) (Ev.epoch (hS _)) ?_
    rw [if_neg (by simp)]
    exact Ev.pure _
end
end Mine

namespace Mine
open PySem PySem.W PySem.Calls PyProof.Rows
set_option maxRecDepth 100000
set_option linter.unusedVariables false
noncomputable def valsP : Nat → List (Int × Str) → List (Value × Value)
  | _, [] => []
  | t, (k, v) :: r => (.int k t, .str v (t + 1)) :: valsP (t + 2) r
section
variable {w : World} {pre : List Obj} {life : Life} {gs : Array GenState} {dr : Drawn} {os : OsState}
theorem Ev.pairs {h : Heap} : ∀ {is : List (Sem Value × Sem Value)} {ks : List (Int × Str)}, RelA w is ks → ∀ tk : Nat, Ev w (evalPairs is) ⟨h, gs, dr, tk, os⟩ (valsP tk ks) ⟨h, gs, dr, tk + 2 * ks.length, os⟩ (3 * ks.length)
  | _, _, .nil, tk => Ev.pure _
  | _, _, .cons (i := i) (k := k) (is := is) (ks := ks) hr hR, tk => by
    unfold evalPairs
    have h1 := hr ⟨h, gs, dr, tk, os⟩
    have h2 := hr ⟨h, gs, dr, tk + 1, os⟩
    have ih := Ev.pairs (h := h) hR (tk + 2)
    have et : tk + 2 * (k :: ks).length = tk + 2 + 2 * ks.length := by rw [List.length_cons]; omega
    have eb : 3 * (k :: ks).length = 1 + (2 + (3 * ks.length + 0)) := by rw [List.length_cons]; omega
    rw [et, eb]
    exact Ev.bind (b1 := 1) h1.1 (Ev.bind (b1 := 2) (Ev.holding h2.2) (Ev.bind (b1 := 3 * ks.length) (b2 := 0) (Ev.holding ih) (Ev.pure _)))
theorem set_loop (h11 : 11 ≤ pre.length) (bd : Value × Value → PUnit → Sem (ForInStep PUnit)) (hbd : ∀ k v, bd (k, v) ⟨⟩ = (dictSet pre.length k v >>= fun _ => Pure.pure (ForInStep.yield PUnit.unit))) : ∀ (ks : List (Int × Str)) (es : List DictEntry) (t tk : Nat) (m : Int), (∀ e ∈ es, e.hash ≤ m) → Asc m ks → es.length + ks.length < 1000 →
    Ev w (forIn (valsP t ks) PUnit.unit bd) ⟨Hp (pre ++ [dictO es es.length]) life, gs, dr, tk, os⟩ PUnit.unit
      ⟨Hp (pre ++ [dictO (es ++ pairs2 t ks) (es ++ pairs2 t ks).length]) life, gs, dr, tk + ks.length, os⟩ (10 * ks.length)
  | [], es, t, tk, m, _, _, _ => by
    simp only [valsP, pairs2, List.append_nil, List.length_nil, Nat.mul_zero, Nat.add_zero]
    exact Ev.pure _
  | k :: ks, es, t, tk, m, hm, ha, hl => by
    have hlk : (k :: ks).length = ks.length + 1 := rfl
    rw [hlk] at hl ⊢
    have hno : ∀ e ∈ es, e.hash ≠ hashInt k.1 := fun e he => by have := hm e he; have := ha.1; omega
    have hset := Ev.set (w := w) (s := ⟨Hp (pre ++ [dictO es es.length]) life, gs, dr, tk, os⟩) (t := t) (v := .str k.2 (t + 1)) (Hp_get pre [] es es.length life) h11 (by omega) hno
    rw [Hp_upd] at hset
    have e1 : Obj.mapDictKeys (fun a : Array DictEntry => a.push (ent k t)) (dictO es es.length) = dictO (es ++ [ent k t]) (es ++ [ent k t]).length := by
      simp [Obj.mapDictKeys]
    rw [e1] at hset
    have ih := set_loop h11 bd hbd ks (es ++ [ent k t]) (t + 2) (tk + 1) (hashInt k.1) (fun e he => by
      rcases List.mem_append.mp he with h | h
      · have := hm e h; have := ha.1; omega
      · rw [List.mem_singleton.mp h]; exact Int.le_refl _) ha.2 (by rw [List.length_append, List.length_singleton]; omega)
    have ep : es ++ pairs2 t (k :: ks) = (es ++ [ent k t]) ++ pairs2 (t + 2) ks := by
      rw [List.append_assoc]; rfl
    rw [ep]
    have et : tk + (ks.length + 1) = tk + 1 + ks.length := by omega
    rw [et]
    have eb : 10 * (ks.length + 1) = 10 + 10 * ks.length := by omega
    rw [eb]
    have ev : valsP t (k :: ks) = (.int k.1 t, .str k.2 (t + 1)) :: valsP (t + 2) ks := rfl
    rw [ev, List.forIn_cons, hbd]
    exact Ev.bind (b1 := 10) (b2 := 10 * ks.length) (Ev.bind (b1 := 10) (b2 := 0) hset (Ev.pure _)) ih
theorem set_loop0 (h11 : 11 ≤ pre.length) (bd : Value × Value → PUnit → Sem (ForInStep PUnit)) (hbd : ∀ k v, bd (k, v) ⟨⟩ = (dictSet pre.length k v >>= fun _ => Pure.pure (ForInStep.yield PUnit.unit))) (ks : List (Int × Str)) (t tk : Nat) (m : Int) (ha : Asc m ks) (hl : ks.length < 1000) :
    Ev w (forIn (valsP t ks) PUnit.unit bd) ⟨Hp (pre ++ [dictO [] 0]) life, gs, dr, tk, os⟩ PUnit.unit
      ⟨Hp (pre ++ [dictO (pairs2 t ks) (pairs2 t ks).length]) life, gs, dr, tk + ks.length, os⟩ (10 * ks.length) := by
  have hlp := set_loop (w := w) (life := life) (gs := gs) (dr := dr) (os := os) h11 bd hbd ks [] t tk m (fun _ h => nomatch h) ha (by simpa using hl)
  rw [List.nil_append] at hlp
  exact hlp
theorem sub_short (h11 : 11 ≤ pre.length) {is : List (Sem Value × Sem Value)} {ks : List (Int × Str)} (hR : RelA w is ks) (hl : is.length ≤ 15) (hk : ks.length < 1000) (tk : Nat) (m : Int) (ha : Asc m ks) :
    Ev w (subDict is) ⟨Hp pre life, gs, dr, tk, os⟩ pre.length ⟨Hp (pre ++ [dictO (pairs2 tk ks) (pairs2 tk ks).length]) life, gs, dr, tk + 2 * ks.length + ks.length, os⟩ (1 + 13 * ks.length) := by
  unfold subDict
  have hal := Ev.alloc (w := w) (s := ⟨Hp pre life, gs, dr, tk, os⟩) { cls := .type "dict", data := .dict #[] }
  rw [Hp_push] at hal
  have hsz : (⟨Hp pre life, gs, dr, tk, os⟩ : Shared).heap.objs.size = pre.length := Hp_size pre life
  rw [hsz] at hal
  have hpr := Ev.pairs (w := w) (gs := gs) (dr := dr) (os := os) (h := Hp (pre ++ [dictO [] 0]) life) hR tk
  refine Ev.bind (b1 := 1) (b2 := 13 * ks.length) hal ?_
  rw [if_pos hl]
  have eb : 13 * ks.length = 3 * ks.length + 10 * ks.length := by omega
  rw [eb]
  refine Ev.bind (s' := ⟨Hp (pre ++ [dictO (pairs2 tk ks) (pairs2 tk ks).length]) life, gs, dr, tk + 2 * ks.length + ks.length, os⟩) (a := ()) (b1 := 3 * ks.length + 10 * ks.length) (b2 := 0) (Ev.holding (Ev.bind (b1 := 3 * ks.length) (b2 := 10 * ks.length) hpr (Ev.holding ?_))) (Ev.pure _)
  refine Ev.bind (a := PUnit.unit) (b1 := 10 * ks.length) (b2 := 0) ?_ (Ev.pure _)
  exact set_loop0 h11 _ (fun k v => rfl) ks tk (tk + 2 * ks.length) m ha hk
theorem pairs3_app : ∀ (a b : List (Int × Str)) (t : Nat), pairs3 t (a ++ b) = pairs3 t a ++ pairs3 (t + 3 * a.length) b
  | [], b, t => by simp [pairs3]
  | (k, v) :: r, b, t => by
    show _ :: pairs3 (t + 3) (r ++ b) = (_ :: pairs3 (t + 3) r) ++ _
    rw [pairs3_app r b (t + 3), List.length_cons]
    have e : t + 3 * (r.length + 1) = t + 3 + 3 * r.length := by omega
    rw [e]
    rfl
theorem pairs3_len : ∀ (a : List (Int × Str)) (t : Nat), (pairs3 t a).length = a.length
  | [], _ => rfl
  | (k, v) :: r, t => by show (pairs3 (t + 3) r).length + 1 = _; rw [pairs3_len r (t + 3)]; rfl
theorem pairs2_len : ∀ (a : List (Int × Str)) (t : Nat), (pairs2 t a).length = a.length
  | [], _ => rfl
  | (k, v) :: r, t => by show (pairs2 (t + 2) r).length + 1 = _; rw [pairs2_len r (t + 2)]; rfl
theorem intE3 : ∀ (a : List (Int × Str)) (t : Nat) (m : Int), Asc m a → IntE m (pairs3 t a)
  | [], _, _, _ => trivial
  | (k, v) :: r, t, m, h => ⟨⟨k, t, rfl⟩, h.1, intE3 r (t + 3) _ h.2⟩
theorem intE2 : ∀ (a : List (Int × Str)) (t : Nat) (m : Int), Asc m a → IntE m (pairs2 t a)
  | [], _, _, _ => trivial
  | (k, v) :: r, t, m, h => ⟨⟨k, t, rfl⟩, h.1, intE2 r (t + 2) _ h.2⟩
theorem top3 : ∀ (a : List (Int × Str)) (t : Nat) (m : Int), Asc m a → ∀ x ∈ pairs3 t a, x.hash ≤ topH m a
  | [], _, _, _, x, hx => nomatch hx
  | (k, v) :: r, t, m, h, x, hx => by
    rcases List.mem_cons.mp hx with rfl | hx
    · exact top_le r _ h.2
    · exact top3 r (t + 3) _ h.2 x hx
where
  top_le : ∀ (r : List (Int × Str)) (m : Int), Asc m r → m ≤ topH m r
    | [], _, _ => Int.le_refl _
    | (k, v) :: r, m, h => by have := top_le r _ h.2; have := h.1; show _ ≤ topH (hashInt k) r; omega
theorem asc_app : ∀ (a b : List (Int × Str)) (m : Int), Asc m (a ++ b) → Asc m a ∧ Asc (topH m a) b
  | [], b, m, h => ⟨trivial, h⟩
  | (k, v) :: r, b, m, h => ⟨⟨h.1, (asc_app r b _ h.2).1⟩, (asc_app r b _ h.2).2⟩
end
end Mine

namespace Mine
open PySem PySem.W PySem.Calls PyProof.Rows
set_option maxRecDepth 100000
set_option linter.unusedVariables false
noncomputable abbrev SP := Sem Value × Sem Value
noncomputable abbrev StD := Option Addr × List SP
noncomputable def mkI (l : List SP) : List (Option (Sem Value) × Sem Value) := l.map fun p => (some p.1, p.2)
noncomputable def subsOf : Nat → List (List SP × List (Int × Str)) → List Obj
  | _, [] => []
  | t, c :: r => dictO (pairs3 t c.2) (pairs3 t c.2).length :: subsOf (t + 51) r
section
variable {w : World} {life : Life} {gs : Array GenState} {dr : Drawn} {os : OsState} {p : List Obj}
variable {bd : Option (Sem Value) × Sem Value → StD → Sem (ForInStep StD)} {flush : List SP → Option Addr → Sem (Option Addr)}
theorem feed (hb1 : ∀ k v mn run, (run ++ [(k, v)]).length ≠ 17 → bd (some k, v) (mn, run) = Pure.pure (ForInStep.yield (mn, run ++ [(k, v)]))) {rest : List (Option (Sem Value) × Sem Value)} {mn : Option Addr} {R : StD} {s s' : Shared} {b : Nat} :
    ∀ (c run : List SP), run.length + c.length < 17 → Ev w (forIn rest (mn, run ++ c) bd) s R s' b → Ev w (forIn (mkI c ++ rest) (mn, run) bd) s R s' b
  | [], run, _, h => by rw [List.append_nil] at h; exact h
  | (k, v) :: c, run, hl, h => by
    rw [List.length_cons] at hl
    show Ev w (forIn ((some k, v) :: (mkI c ++ rest)) (mn, run) bd) s R s' b
    rw [List.forIn_cons, hb1 k v mn run (by rw [List.length_append, List.length_singleton]; omega)]
    refine Ev.mono (b1 := 0 + b) (Ev.bind (b1 := 0) (b2 := b) (Ev.pure _) ?_) (by omega)
    exact feed hb1 c (run ++ [(k, v)]) (by rw [List.length_append, List.length_singleton]; omega) (by rw [List.append_assoc]; exact h)
theorem full (hb1 : ∀ k v mn run, (run ++ [(k, v)]).length ≠ 17 → bd (some k, v) (mn, run) = Pure.pure (ForInStep.yield (mn, run ++ [(k, v)])))
    (hb2 : ∀ k v mn run, (run ++ [(k, v)]).length = 17 → bd (some k, v) (mn, run) = (flush (run ++ [(k, v)]) mn >>= fun mn' => Pure.pure (ForInStep.yield (mn', [])))) {rest : List (Option (Sem Value) × Sem Value)} {mn : Option Addr} {d : Addr} {R : StD} {s s' s'' : Shared} {b1 b2 : Nat}
    (c : List SP) (hc : c.length = 17) (h1 : Ev w (flush c mn) s (some d) s' b1) (h2 : Ev w (forIn rest (some d, []) bd) s' R s'' b2) : Ev w (forIn (mkI c ++ rest) (mn, []) bd) s R s'' (b1 + b2) := by
  have hne : c ≠ [] := by intro e; rw [e] at hc; cases hc
  have ec := List.dropLast_concat_getLast hne
  rcases hx : c.getLast hne with ⟨k, v⟩
  rw [hx] at ec
  have hd : c.dropLast.length = 16 := by rw [List.length_dropLast, hc]
  rw [← ec]
  have em : mkI (c.dropLast ++ [(k, v)]) ++ rest = mkI c.dropLast ++ ((some k, v) :: rest) := by simp [mkI]
  rw [em]
  refine feed hb1 c.dropLast [] (by rw [hd]; decide) ?_
  rw [List.nil_append, List.forIn_cons, hb2 k v mn c.dropLast (by rw [ec, hc]), ec]
  exact Ev.bind (b1 := b1) (b2 := b2) (Ev.bind (b1 := b1) (b2 := 0) h1 (Ev.pure _)) h2
theorem flush2 (hf2 : ∀ c d, c ≠ [] → ∃ g : Addr → Value → Sem Unit, flush c (some d) = (holding [.ref d] (subDict c) >>= fun sub => (holding [.ref d, .ref sub] (mergeMapping d (.ref sub) false)).onRaise (g sub) >>= fun _ => Pure.pure (some d))) (h11 : 11 ≤ p.length)
    {c : List SP} {kc : List (Int × Str)} {es : List DictEntry} {subs : List Obj} {tk t2 : Nat} {m : Int} {fs : List DictEntry} {b1 : Nat} (hne : c ≠ [])
    (hsub : Ev w (subDict c) ⟨Hp (p ++ dictO es es.length :: subs) life, gs, dr, tk, os⟩ (p ++ dictO es es.length :: subs).length ⟨Hp ((p ++ dictO es es.length :: subs) ++ [dictO fs fs.length]) life, gs, dr, t2, os⟩ b1)
    (hesne : es ≠ []) (h1 : ∀ x ∈ es, x.hash ≤ m) (h2 : IntE m fs) (h3 : es.length + fs.length < 1000) :
    Ev w (flush c (some p.length)) ⟨Hp (p ++ dictO es es.length :: subs) life, gs, dr, tk, os⟩ (some p.length) ⟨Hp (p ++ dictO (es ++ fs) (es ++ fs).length :: (subs ++ [dictO fs fs.length])) life, gs, dr, t2, os⟩ (b1 + (10 + 6 * fs.length)) := by
  obtain ⟨g, e⟩ := hf2 c p.length hne
  rw [e]
  have el : (p ++ dictO es es.length :: subs).length = p.length + 1 + subs.length := by simp; omega
  have ea : (p ++ dictO es es.length :: subs) ++ [dictO fs fs.length] = p ++ dictO es es.length :: (subs ++ [dictO fs fs.length]) := by simp
  rw [el, ea] at hsub
  have hm := Ev.merge (w := w) (life := life) (gs := gs) (dr := dr) (os := os) (p := p) (subs := subs) (fs := fs) (es := es) (tk := t2) (m := m) h11 (Nat.lt_of_lt_of_le (by decide) h11) hesne h1 h2 h3
  exact Ev.bind (b1 := b1) (b2 := 10 + 6 * fs.length) (Ev.holding hsub) (Ev.bind (b1 := 10 + 6 * fs.length) (b2 := 0) (Ev.onRaise (Ev.holding hm)) (Ev.pure _))
theorem chunks (hb1 : ∀ k v mn run, (run ++ [(k, v)]).length ≠ 17 → bd (some k, v) (mn, run) = Pure.pure (ForInStep.yield (mn, run ++ [(k, v)])))
    (hb2 : ∀ k v mn run, (run ++ [(k, v)]).length = 17 → bd (some k, v) (mn, run) = (flush (run ++ [(k, v)]) mn >>= fun mn' => Pure.pure (ForInStep.yield (mn', []))))
    (hf2 : ∀ c d, c ≠ [] → ∃ g : Addr → Value → Sem Unit, flush c (some d) = (holding [.ref d] (subDict c) >>= fun sub => (holding [.ref d, .ref sub] (mergeMapping d (.ref sub) false)).onRaise (g sub) >>= fun _ => Pure.pure (some d))) (h11 : 11 ≤ p.length)
    {rest : List (Option (Sem Value) × Sem Value)} {R : StD} {s'' : Shared} {b2 : Nat} :
    ∀ (cs : List (List SP × List (Int × Str))), (∀ c ∈ cs, RelA w c.1 c.2 ∧ c.1.length = 17 ∧ c.2.length = 17) → ∀ (es : List DictEntry) (subs : List Obj) (tk : Nat) (m : Int), (∀ x ∈ es, x.hash ≤ m) → es ≠ [] → Asc m (cs.flatMap (·.2)) → es.length + 17 * cs.length < 990 →
      Ev w (forIn rest (some p.length, []) bd) ⟨Hp (p ++ dictO (es ++ pairs3 tk (cs.flatMap (·.2))) (es ++ pairs3 tk (cs.flatMap (·.2))).length :: (subs ++ subsOf tk cs)) life, gs, dr, tk + 51 * cs.length, os⟩ R s'' b2 →
      Ev w (forIn (mkI (cs.flatMap (·.1)) ++ rest) (some p.length, []) bd) ⟨Hp (p ++ dictO es es.length :: subs) life, gs, dr, tk, os⟩ R s'' (400 * cs.length + b2)
  | [], _, es, subs, tk, m, _, _, _, _, h => by
    simp only [List.flatMap_nil, pairs3, List.append_nil, subsOf, List.length_nil, Nat.mul_zero, Nat.add_zero, Nat.zero_add] at h ⊢
    exact h
  | c :: cs, hc, es, subs, tk, m, h1, hne, ha, hl, h => by
    obtain ⟨hR, l1, l2⟩ := hc c (.head _)
    rw [List.length_cons] at hl
    rw [List.flatMap_cons] at ha
    have ha2 := asc_app _ _ _ ha
    have hcne : c.1 ≠ [] := by intro e; rw [e] at l1; cases l1
    have hpl := pairs3_len c.2 tk
    have hsub := sub_long (w := w) (life := life) (gs := gs) (dr := dr) (os := os) (pre := p ++ dictO es es.length :: subs) (by simp; omega) hR (by rw [l1]; decide) (by rw [l2]; decide) tk m ha2.1
    have hfl := flush2 (w := w) (life := life) (gs := gs) (dr := dr) (os := os) (p := p) (flush := flush) (kc := c.2) hf2 h11 hcne hsub hne h1 (intE3 c.2 tk m ha2.1) (by rw [hpl, l2]; omega)
    rw [hpl, l2] at hfl
    have em : mkI ((c :: cs).flatMap (·.1)) ++ rest = mkI c.1 ++ (mkI (cs.flatMap (·.1)) ++ rest) := by simp [mkI]
    rw [em]
    have e3 : tk + 3 * 17 = tk + 51 := rfl
    rw [e3] at hfl
    have hpos : topH m c.2 = topH m c.2 := rfl
    have ih := chunks hb1 hb2 hf2 h11 cs (fun c' h' => hc c' (.tail _ h')) (es ++ pairs3 tk c.2) (subs ++ [dictO (pairs3 tk c.2) (pairs3 tk c.2).length]) (tk + 51) (topH m c.2) (fun x hx => by
      rcases List.mem_append.mp hx with q | q
      · have := h1 x q; have := top3.top_le c.2 m ha2.1; omega
      · exact top3 c.2 tk m ha2.1 x q) (by simp [hne]) ha2.2 (by rw [List.length_append, hpl, l2]; omega) (by
      have f1 : es ++ pairs3 tk ((c :: cs).flatMap (·.2)) = (es ++ pairs3 tk c.2) ++ pairs3 (tk + 51) (cs.flatMap (·.2)) := by
        rw [List.flatMap_cons, pairs3_app, l2, List.append_assoc]
      have f2 : subs ++ subsOf tk (c :: cs) = (subs ++ [dictO (pairs3 tk c.2) (pairs3 tk c.2).length]) ++ subsOf (tk + 51) cs := by
        rw [List.append_assoc]; rfl
      have f3 : tk + 51 * (c :: cs).length = tk + 51 + 51 * cs.length := by rw [List.length_cons]; omega
      rw [f1, f2, f3] at h
      exact h)
    refine Ev.mono (b1 := (2 + 13 * 17 + (10 + 6 * 17)) + (400 * cs.length + b2)) (full hb1 hb2 c.1 l1 ?_ ih) (by rw [List.length_cons]; omega)
    rw [hpl] at *
    rw [l2] at *
    exact hfl
end
end Mine

namespace Mine
open PySem PySem.W PySem.Calls PyProof.Rows
set_option maxRecDepth 100000
set_option linter.unusedVariables false
noncomputable def flushD (run : List SP) (main : Option Addr) : Sem (Option Addr) := do
  if run.isEmpty then return main
  match main with
  | none => return some (← subDict run)
  | some d =>
    let sub ← holding [.ref d] (subDict run)
    (holding [.ref d, .ref sub] (mergeMapping d (.ref sub) false)).onRaise fun x => do let _ ← holding [.ref d, x] (runValue (.builtin "proto.let_go" {}))
    return some d
theorem flushD_none (c : List SP) (h : c ≠ []) : flushD c none = (subDict c >>= fun a => Pure.pure (some a)) := by
  unfold flushD
  rw [if_neg (by simpa using h)]
theorem flushD_some (c : List SP) (d : Addr) (h : c ≠ []) : ∃ g : Addr → Value → Sem Unit, flushD c (some d) = (holding [.ref d] (subDict c) >>= fun sub => (holding [.ref d, .ref sub] (mergeMapping d (.ref sub) false)).onRaise (g sub) >>= fun _ => Pure.pure (some d)) := by
  refine ⟨fun _ x => do let _ ← holding [.ref d, x] (runValue (.builtin "proto.let_go" {})), ?_⟩
  unfold flushD
  rw [if_neg (by simpa using h)]
section
variable {w : World} {life : Life} {gs : Array GenState} {dr : Drawn} {os : OsState} {p : List Obj}
theorem disp (h11 : 11 ≤ p.length) {i0 il : List SP} {k0 kl : List (Int × Str)} {cs : List (List SP × List (Int × Str))} (r0 : RelA w i0 k0) (l0 : i0.length = 17) (m0 : k0.length = 17) (hc : ∀ c ∈ cs, RelA w c.1 c.2 ∧ c.1.length = 17 ∧ c.2.length = 17) (rl : RelA w il kl) (ll : il.length ≤ 15) (ml : kl.length ≤ 15) (nl : il ≠ [])
    (hlen : 17 + 17 * cs.length < 980) (tk : Nat) (m : Int) (ha : Asc m (k0 ++ (cs.flatMap (·.2) ++ kl))) :
    Ev w (dictDisplay (mkI i0 ++ (mkI (cs.flatMap (·.1)) ++ (mkI il ++ [])))) ⟨Hp p life, gs, dr, tk, os⟩ (.ref p.length)
      ⟨Hp (p ++ dictO ((pairs3 tk k0 ++ pairs3 (tk + 51) (cs.flatMap (·.2))) ++ pairs2 (tk + 51 + 51 * cs.length) kl) ((pairs3 tk k0 ++ pairs3 (tk + 51) (cs.flatMap (·.2))) ++ pairs2 (tk + 51 + 51 * cs.length) kl).length :: (([] ++ subsOf (tk + 51) cs) ++ [dictO (pairs2 (tk + 51 + 51 * cs.length) kl) (pairs2 (tk + 51 + 51 * cs.length) kl).length])) life, gs, dr, tk + 51 + 51 * cs.length + 2 * kl.length + kl.length, os⟩ 30000 := by
  have a1 := asc_app _ _ _ ha
  have a2 := asc_app _ _ _ a1.2
  have n0 : i0 ≠ [] := by intro e; rw [e] at l0; cases l0
  have hp3 := pairs3_len k0 tk
  have hfirst : Ev w (flushD i0 none) ⟨Hp p life, gs, dr, tk, os⟩ (some p.length) ⟨Hp (p ++ dictO (pairs3 tk k0) (pairs3 tk k0).length :: []) life, gs, dr, tk + 51, os⟩ (2 + 13 * 17) := by
    rw [flushD_none i0 n0]
    have := sub_long (w := w) (life := life) (gs := gs) (dr := dr) (os := os) h11 r0 (by rw [l0]; decide) (by rw [m0]; decide) tk m a1.1
    rw [m0] at this
    exact Ev.bind (b1 := 2 + 13 * 17) (b2 := 0) this (Ev.pure _)
  have hE : ∀ x ∈ pairs3 tk k0 ++ pairs3 (tk + 51) (cs.flatMap (·.2)), x.hash ≤ topH (topH m k0) (cs.flatMap (·.2)) := fun x hx => by
    rcases List.mem_append.mp hx with q | q
    · have := top3 k0 tk m a1.1 x q; have := top3.top_le _ _ a2.1; omega
    · exact top3 _ (tk + 51) _ a2.1 x q
  have hlE : (pairs3 tk k0 ++ pairs3 (tk + 51) (cs.flatMap (·.2))).length = 17 + 17 * cs.length := by
    rw [List.length_append, hp3, m0, pairs3_len]
    congr 1
    have : ∀ cs : List (List SP × List (Int × Str)), (∀ c ∈ cs, RelA w c.1 c.2 ∧ c.1.length = 17 ∧ c.2.length = 17) → (cs.flatMap (·.2)).length = 17 * cs.length := by
      intro cs
      induction cs with
      | nil => intro _; rfl
      | cons c r ih =>
        intro h
        rw [List.flatMap_cons, List.length_append, (h c (.head _)).2.2, ih (fun c' h' => h c' (.tail _ h')), List.length_cons]
        omega
    exact this cs hc
  have hne : pairs3 tk k0 ≠ [] := by intro e; rw [e] at hp3; rw [m0] at hp3; cases hp3
  have hlast := flush2 (w := w) (life := life) (gs := gs) (dr := dr) (os := os) (p := p) (flush := flushD) (kc := kl) (m := topH (topH m k0) (cs.flatMap (·.2))) flushD_some h11 nl
    (sub_short (w := w) (life := life) (gs := gs) (dr := dr) (os := os) (pre := p ++ dictO (pairs3 tk k0 ++ pairs3 (tk + 51) (cs.flatMap (·.2))) (pairs3 tk k0 ++ pairs3 (tk + 51) (cs.flatMap (·.2))).length :: ([] ++ subsOf (tk + 51) cs)) (by simp; omega) rl ll (by omega) (tk + 51 + 51 * cs.length) _ a2.2)
    (by simp [hne]) hE (intE2 kl _ _ a2.2) (by rw [hlE, pairs2_len]; omega)
  unfold dictDisplay
  refine Ev.mono (b1 := ((2 + 13 * 17) + (400 * cs.length + 0)) + ((1 + 13 * kl.length + (10 + 6 * (pairs2 (tk + 51 + 51 * cs.length) kl).length)) + 0)) ?_ (by rw [pairs2_len]; omega)
  refine Ev.bind (a := ((some p.length, il) : StD)) (b1 := (2 + 13 * 17) + (400 * cs.length + 0)) (b2 := (1 + 13 * kl.length + (10 + 6 * (pairs2 (tk + 51 + 51 * cs.length) kl).length)) + 0)
    (s' := ⟨Hp (p ++ dictO (pairs3 tk k0 ++ pairs3 (tk + 51) (cs.flatMap (·.2))) (pairs3 tk k0 ++ pairs3 (tk + 51) (cs.flatMap (·.2))).length :: ([] ++ subsOf (tk + 51) cs)) life, gs, dr, tk + 51 + 51 * cs.length, os⟩) ?_ ?_
  · have hb1 : ∀ (bd : Option (Sem Value) × Sem Value → StD → Sem (ForInStep StD)), (∀ k v mn run, bd (some k, v) (mn, run) = if ((run ++ [(k, v)]).length == 17) = true then (flushD (run ++ [(k, v)]) mn >>= fun mn' => Pure.pure (ForInStep.yield (mn', []))) else Pure.pure (ForInStep.yield (mn, run ++ [(k, v)]))) →
        Ev w (forIn (mkI i0 ++ (mkI (cs.flatMap (·.1)) ++ (mkI il ++ []))) ((none, []) : StD) bd) ⟨Hp p life, gs, dr, tk, os⟩ (some p.length, il) ⟨Hp (p ++ dictO (pairs3 tk k0 ++ pairs3 (tk + 51) (cs.flatMap (·.2))) (pairs3 tk k0 ++ pairs3 (tk + 51) (cs.flatMap (·.2))).length :: ([] ++ subsOf (tk + 51) cs)) life, gs, dr, tk + 51 + 51 * cs.length, os⟩ ((2 + 13 * 17) + (400 * cs.length + 0)) := by
      intro bd hbd
      have h1 : ∀ k v mn run, (run ++ [(k, v)]).length ≠ 17 → bd (some k, v) (mn, run) = Pure.pure (ForInStep.yield (mn, run ++ [(k, v)])) := fun k v mn run h => by
        rw [hbd, if_neg (by simpa using h)]
      have h2 : ∀ k v mn run, (run ++ [(k, v)]).length = 17 → bd (some k, v) (mn, run) = (flushD (run ++ [(k, v)]) mn >>= fun mn' => Pure.pure (ForInStep.yield (mn', []))) := fun k v mn run h => by
        rw [hbd, if_pos (by simpa using h)]
      refine full h1 h2 i0 l0 hfirst ?_
      refine chunks h1 h2 flushD_some h11 cs hc (pairs3 tk k0) [] (tk + 51) (topH m k0) (top3 k0 tk m a1.1) hne a2.1 (by rw [hp3, m0]; omega) ?_
      refine feed h1 il [] (by simp; omega) ?_
      exact Ev.pure _
    refine hb1 _ (fun k v mn run => ?_)
    rfl
  · refine Ev.bind (b1 := 1 + 13 * kl.length + (10 + 6 * (pairs2 (tk + 51 + 51 * cs.length) kl).length)) (b2 := 0) hlast ?_
    exact Ev.pure _
end
end Mine

namespace Mine
open PySem PySem.W PySem.Calls PyProof.Rows
set_option maxRecDepth 100000
set_option linter.unusedVariables false
noncomputable def keysO : List (Option PySem.Expr) := match st 5 with
  | .Assign _ (.Dict ks _ _) _ => ks
  | _ => []
noncomputable def valsE : List PySem.Expr := match st 5 with
  | .Assign _ (.Dict _ vs _) _ => vs
  | _ => []
noncomputable def keysE : List PySem.Expr := keysO.filterMap id
theorem keysO_eq : keysO = keysE.map some := by kernel_rfl
noncomputable abbrev pA5 : Pos := match st 5 with
  | .Assign _ _ p => p
  | _ => p00
noncomputable abbrev pD5 : Pos := match st 5 with
  | .Assign _ (.Dict _ _ p) _ => p
  | _ => p00
noncomputable abbrev pN5 : Pos := match st 5 with
  | .Assign [.Name _ p] _ _ => p
  | _ => p00
theorem st5_eq : st 5 = .Assign [.Name (Str.ofString "b3_exceptions") pN5] (.Dict keysO valsE pD5) pA5 := by kernel_rfl
noncomputable def isKC (e : PySem.Expr) (k : Int) : Bool := match e with | .Constant (.int k') _ _ => decide (k' = k) | _ => false
noncomputable def isVC (e : PySem.Expr) (v : Str) : Bool := match e with | .Constant (.str v') _ _ => decide (v' = v) | _ => false
theorem isKC_iff {e : PySem.Expr} {k : Int} (h : isKC e k = true) : ∃ p q, e = .Constant (.int k) p q := by
  unfold isKC at h
  split at h
  · exact ⟨_, _, by rw [of_decide_eq_true h]⟩
  · cases h
theorem isVC_iff {e : PySem.Expr} {v : Str} (h : isVC e v = true) : ∃ p q, e = .Constant (.str v) p q := by
  unfold isVC at h
  split at h
  · exact ⟨_, _, by rw [of_decide_eq_true h]⟩
  · cases h
noncomputable def okKV : List PySem.Expr → List PySem.Expr → List (Int × Str) → Bool
  | [], [], [] => true
  | e :: ks, f :: vs, q :: r => isKC e q.1 && isVC f q.2 && okKV ks vs r
  | _, _, _ => false
theorem b3_ok : okKV keysE valsE b3P = true := by kernel_rfl
noncomputable def semL (ks vs : List PySem.Expr) : List SP := (evalEach ks topEnv).zip ((evalEach vs topEnv).map fun v => do let x ← v; standAt pD5; Pure.pure x)
theorem relA_of {w : World} : ∀ (ks vs : List PySem.Expr) (l : List (Int × Str)), okKV ks vs l = true → RelA w (semL ks vs) l
  | [], [], [], _ => .nil
  | e :: ks, f :: vs, (k, v) :: r, h => by
    simp only [okKV, Bool.and_eq_true] at h
    obtain ⟨⟨h1, h2⟩, h⟩ := h
    obtain ⟨p1, q1, rfl⟩ := isKC_iff h1
    obtain ⟨p2, q2, rfl⟩ := isVC_iff h2
    refine .cons (fun s => ⟨?_, ?_⟩) (relA_of ks vs r h)
    · exact Ev.bind (b1 := 1) (b2 := 0) Ev.fresh (Ev.pure _)
    · exact Ev.bind (b1 := 1) (b2 := 1) (Ev.bind (b1 := 1) (b2 := 0) Ev.fresh (Ev.pure _)) (Ev.bind (b1 := 1) (b2 := 0) (Ev.at _) (Ev.pure _))
theorem evalOpt_some (env : Env) : ∀ ks : List PySem.Expr, evalEachOpt (ks.map some) env = (evalEach ks env).map some
  | [] => rfl
  | k :: r => by
    show evalOpt (some k) env :: evalEachOpt (r.map some) env = _
    rw [evalOpt_some env r]; rfl
theorem zip_mkI : ∀ (a b : List (Sem Value)), (a.map some).zip b = mkI (a.zip b)
  | [], _ => rfl
  | _ :: _, [] => rfl
  | x :: a, y :: b => by
    show (some x, y) :: (a.map some).zip b = _
    rw [zip_mkI a b]; rfl
theorem RelA.take {w : World} : ∀ {is : List SP} {ks : List (Int × Str)} (n : Nat), RelA w is ks → RelA w (is.take n) (ks.take n)
  | _, _, 0, _ => by rw [List.take_zero, List.take_zero]; exact .nil
  | _, _, _ + 1, .nil => .nil
  | _, _, n + 1, .cons h r => .cons h (r.take n)
theorem RelA.drop {w : World} : ∀ {is : List SP} {ks : List (Int × Str)} (n : Nat), RelA w is ks → RelA w (is.drop n) (ks.drop n)
  | _, _, 0, h => h
  | _, _, _ + 1, .nil => .nil
  | _, _, n + 1, .cons h r => r.drop n
theorem RelA.len {w : World} : ∀ {is : List SP} {ks : List (Int × Str)}, RelA w is ks → is.length = ks.length
  | _, _, .nil => rfl
  | _, _, .cons _ r => congrArg (· + 1) r.len
noncomputable def cut17 : Nat → List SP → List (Int × Str) → List (List SP × List (Int × Str))
  | 0, _, _ => []
  | n + 1, is, ks => (is.take 17, ks.take 17) :: cut17 n (is.drop 17) (ks.drop 17)
theorem cut17_1 : ∀ (n : Nat) (is : List SP) (ks : List (Int × Str)), (cut17 n is ks).flatMap (·.1) = is.take (17 * n)
  | 0, _, _ => by simp [cut17]
  | n + 1, is, ks => by
    rw [cut17, List.flatMap_cons, cut17_1 n, Nat.mul_succ, Nat.add_comm (17 * n) 17, List.take_add]
theorem cut17_2 : ∀ (n : Nat) (is : List SP) (ks : List (Int × Str)), (cut17 n is ks).flatMap (·.2) = ks.take (17 * n)
  | 0, _, _ => by simp [cut17]
  | n + 1, is, ks => by
    rw [cut17, List.flatMap_cons, cut17_2 n, Nat.mul_succ, Nat.add_comm (17 * n) 17, List.take_add]
theorem cut17_len : ∀ (n : Nat) (is : List SP) (ks : List (Int × Str)), (cut17 n is ks).length = n
  | 0, _, _ => rfl
  | n + 1, is, ks => congrArg (· + 1) (cut17_len n _ _)
theorem cut17_ok {w : World} : ∀ (n : Nat) (is : List SP) (ks : List (Int × Str)), RelA w is ks → 17 * n ≤ ks.length → ∀ c ∈ cut17 n is ks, RelA w c.1 c.2 ∧ c.1.length = 17 ∧ c.2.length = 17
  | 0, _, _, _, _, c, h => nomatch h
  | n + 1, is, ks, hr, hl, c, h => by
    rcases List.mem_cons.mp h with rfl | h
    · refine ⟨hr.take 17, ?_, ?_⟩
      · rw [List.length_take, hr.len]; omega
      · rw [List.length_take]; omega
    · exact cut17_ok n _ _ (hr.drop 17) (by rw [List.length_drop]; omega) c h
noncomputable def ascB : Int → List (Int × Str) → Bool
  | _, [] => true
  | m, (k, _) :: r => decide (m < hashInt k) && ascB (hashInt k) r
theorem asc_of : ∀ (l : List (Int × Str)) (m : Int), ascB m l = true → Asc m l
  | [], _, _ => trivial
  | (k, v) :: r, m, h => by
    simp only [ascB, Bool.and_eq_true, decide_eq_true_eq] at h
    exact ⟨h.1, asc_of r _ h.2⟩
theorem b3_asc : ascB 0 b3P = true := by decide +kernel
theorem b3_len : b3P.length = 650 := by decide +kernel
end Mine

namespace Mine
open PySem PySem.W PySem.Calls PyProof.Rows
set_option maxRecDepth 100000
set_option linter.unusedVariables false
section
variable {α β : Type} {w : World} {s s' : Shared} {b : Nat}
theorem sr_mono : ∀ (n k : Nat) (s : Shared) (t : Thread) (r : Flow × Shared × Code × Pos), SR w n s t = some r → SR w (n + k) s t = some r
  | 0, _, _, _, _, h => by cases h
  | n + 1, k, s, t, r, h => by
    rw [show n + 1 + k = n + k + 1 by omega]
    change segRun treeTable pw w 11 annT 1 (n + 1) s t = some r at h
    show segRun treeTable pw w 11 annT 1 (n + k + 1) s t = some r
    unfold segRun at h ⊢
    cases he : endAt 1 t with
    | some f => rw [he] at h; exact h
    | none =>
      rw [he] at h
      cases hk : stepOk 11 annT t with
      | false => rw [hk] at h; cases h
      | true =>
        rw [hk] at h
        cases hs : step (denote treeTable) pw w s t with
        | halt o s₂ => rw [hs] at h; cases h
        | go s₂ t₂ => rw [hs] at h; exact sr_mono n k s₂ t₂ r h
theorem run_bind {x : Sem α} {f : α → Sem β} {a : α} (h : Ev w x s a s' b) (K : β → Sem Fin) (H : Value → Sem Fin) (gd : Bool → Bool) (lv : List Value → List Value) (pos : Pos) :
    ∃ n, n ≤ b ∧ ∃ pos', ∀ N, SR w (N + n) s ⟨(x >>= f).wrap K H gd lv, topC, pos, B0⟩ = SR w N s' ⟨(f a).wrap K H gd lv, topC, pos', B0⟩ := by
  obtain ⟨n1, l1, p1, e1⟩ := h (fun a => (f a).wrap K H gd lv) H gd lv pos
  refine ⟨n1, l1, p1, fun N => ?_⟩
  rw [Sem.bind_eq_wrap', Sem.wrap_wrap]
  exact e1 N
end
noncomputable def l40 (w : World) : List Obj := lowL w.params (o3At w.params nmA 12) (o12At 2) ++ (upL w.params).take 25
theorem l40_len (w : World) : (l40 w).length = 40 := rfl
theorem at40 (w : World) (os : OsState) : (stT w os nmA 12 2 25 266).abs = ⟨Hp (l40 w) (bootLife w.params), #[], boot_drawn, 266, os⟩ := by kernel_rfl
theorem items_eq : ((evalEachOpt keysO topEnv).zip ((evalEach valsE topEnv).map fun v => do let x ← v; standAt pD5; Pure.pure x)) =
    mkI ((semL keysE valsE).take 17) ++ (mkI ((cut17 37 ((semL keysE valsE).drop 17) (b3P.drop 17)).flatMap (·.1)) ++ (mkI ((semL keysE valsE).drop 646) ++ [])) := by
  rw [keysO_eq, evalOpt_some, zip_mkI, cut17_1]
  show mkI (semL keysE valsE) = _
  generalize semL keysE valsE = l
  unfold mkI
  rw [List.append_nil, ← List.map_append, ← List.map_append]
  congr 1
  have e : (17 : Nat) * 37 = 629 := rfl
  rw [e]
  have e2 : l.drop 646 = (l.drop 17).drop 629 := by rw [List.drop_drop]
  rw [e2, List.take_append_drop, List.take_append_drop]
theorem disp_D (w : World) (os : OsState) : Ev w (eval (.Dict keysO valsE pD5) topEnv) (stT w os nmA 12 2 25 266).abs (.ref 40) (stT w os nmA 12 2 64 2216).abs 30001 := by
  rw [at40]
  have hr := relA_of (w := w) keysE valsE b3P b3_ok
  have hlen := hr.len
  rw [b3_len] at hlen
  have hd := disp (w := w) (life := bootLife w.params) (gs := #[]) (dr := boot_drawn) (os := os) (p := l40 w) (by rw [l40_len]; decide) (i0 := (semL keysE valsE).take 17) (il := (semL keysE valsE).drop 646) (k0 := b3P.take 17) (kl := b3P.drop 646) (cs := cut17 37 ((semL keysE valsE).drop 17) (b3P.drop 17))
    (hr.take 17) (by rw [List.length_take, hlen]; rfl) (by rw [List.length_take, b3_len]; rfl) (cut17_ok 37 _ _ (hr.drop 17) (by rw [List.length_drop, b3_len]; decide)) (hr.drop 646) (by rw [List.length_drop, hlen]; decide) (by rw [List.length_drop, b3_len]; decide)
    (by intro e; have := congrArg List.length e; rw [List.length_drop, hlen] at this; cases this) (by rw [cut17_len]; decide) 266 0 (by
      rw [cut17_2]
      have e2 : b3P.drop 646 = (b3P.drop 17).drop 629 := by rw [List.drop_drop]
      have e : (17 : Nat) * 37 = 629 := rfl
      rw [e, e2, List.take_append_drop, List.take_append_drop]
      exact asc_of _ _ b3_asc)
  rw [← items_eq] at hd
  have hfin : (stT w os nmA 12 2 64 2216).abs = ⟨Hp (l40 w ++ dictO ((pairs3 266 (b3P.take 17) ++ pairs3 (266 + 51) ((cut17 37 ((semL keysE valsE).drop 17) (b3P.drop 17)).flatMap (·.2))) ++ pairs2 (266 + 51 + 51 * (cut17 37 ((semL keysE valsE).drop 17) (b3P.drop 17)).length) (b3P.drop 646)) ((pairs3 266 (b3P.take 17) ++ pairs3 (266 + 51) ((cut17 37 ((semL keysE valsE).drop 17) (b3P.drop 17)).flatMap (·.2))) ++ pairs2 (266 + 51 + 51 * (cut17 37 ((semL keysE valsE).drop 17) (b3P.drop 17)).length) (b3P.drop 646)).length :: (([] ++ subsOf (266 + 51) (cut17 37 ((semL keysE valsE).drop 17) (b3P.drop 17))) ++ [dictO (pairs2 (266 + 51 + 51 * (cut17 37 ((semL keysE valsE).drop 17) (b3P.drop 17)).length) (b3P.drop 646)) (pairs2 (266 + 51 + 51 * (cut17 37 ((semL keysE valsE).drop 17) (b3P.drop 17)).length) (b3P.drop 646)).length])) (bootLife w.params), #[], boot_drawn, 266 + 51 + 51 * (cut17 37 ((semL keysE valsE).drop 17) (b3P.drop 17)).length + 2 * (b3P.drop 646).length + (b3P.drop 646).length, os⟩ := by
    kernel_rfl
  rw [hfin]
  rw [arm_eval_Dict]
  rw [l40_len] at hd
  exact Ev.bind (b1 := 1) (b2 := 30000) (Ev.at _) hd
end Mine

namespace Mine
open PySem PySem.W PySem.Calls PyProof.Rows
set_option maxRecDepth 100000
set_option linter.unusedVariables false
noncomputable abbrev nmB : Str := Str.ofString "b3_exceptions"
noncomputable def restF (v : Value) : Sem Flow := do
  standAt pN5
  bindName topEnv nmB v
  Pure.pure .next
noncomputable def contD : Flow → Sem Fin := fun f => match f with
  | .next => (execs [] topEnv).wrap doneF deadEnd id id
  | f => doneF f
theorem t_rest (w : World) (os : OsState) (pos : Pos) : segRunT treeTable pw w 11 annT 1 40 (stT w os nmA 12 2 64 2216) ⟨(restF (.ref 40)).wrap contD deadEnd id id, topC, pos, B0⟩ = some (.next, stT w os nmA 13 2 64 2217, topC, ⟨8, 0, 8, 13⟩) := by kernel_rfl
theorem exec5 : exec (.Assign [.Name nmB pN5] (.Dict keysO valsE pD5) pA5) topEnv = (standAt pA5 >>= fun _ => eval (.Dict keysO valsE pD5) topEnv >>= fun v => restF v) := by
  have e : exec (.Assign [.Name nmB pN5] (.Dict keysO valsE pD5) pA5) topEnv = (do
      standAt pA5
      if ← swapsWith (.Dict keysO valsE pD5) (some (.Name nmB pN5)) pA5.line topEnv then
        evalThenUse (.Dict keysO valsE pD5) topEnv (assign (.Name nmB pN5) topEnv)
        return .next
      let v ← eval (.Dict keysO valsE pD5) topEnv
      standAt pN5
      bindName topEnv nmB v
      Pure.pure .next) := rfl
  rw [e]
  rfl
theorem t_D (w : World) (os : OsState) : segRun treeTable pw w 11 annT 1 30100 (stT w os nmA 12 2 25 266).abs (piecesOf [st 5] topEnv topC ⟨6, 0, 7, 30⟩ [topFrame p00]) = some (.next, (stT w os nmA 13 2 64 2217).abs, topC, ⟨8, 0, 8, 13⟩) := by
  have e1 : piecesOf [st 5] topEnv topC ⟨6, 0, 7, 30⟩ [topFrame p00] = ⟨(exec (.Assign [.Name nmB pN5] (.Dict keysO valsE pD5) pA5) topEnv).wrap contD deadEnd id id, topC, ⟨6, 0, 7, 30⟩, B0⟩ := by
    unfold piecesOf
    rw [execs_cons_wrap, st5_eq]
    rfl
  rw [e1, exec5]
  obtain ⟨n1, l1, p1, r1⟩ := run_bind (w := w) (s := (stT w os nmA 12 2 25 266).abs) (f := fun _ => eval (.Dict keysO valsE pD5) topEnv >>= fun v => restF v) (Ev.at pA5) contD deadEnd id id ⟨6, 0, 7, 30⟩
  obtain ⟨n2, l2, p2, r2⟩ := run_bind (f := fun v => restF v) (disp_D w os) contD deadEnd id id p1
  have k := segRun_of (t_rest w os p2)
  have t1 : SR w (40 + n2 + n1) (stT w os nmA 12 2 25 266).abs ⟨(standAt pA5 >>= fun _ => eval (.Dict keysO valsE pD5) topEnv >>= fun v => restF v).wrap contD deadEnd id id, topC, ⟨6, 0, 7, 30⟩, B0⟩ = some (.next, (stT w os nmA 13 2 64 2217).abs, topC, ⟨8, 0, 8, 13⟩) := by
    rw [r1 (40 + n2)]
    exact (r2 40).trans k
  have t2 := sr_mono _ (30100 - (40 + n2 + n1)) _ _ _ t1
  rw [show 40 + n2 + n1 + (30100 - (40 + n2 + n1)) = 30100 by omega] at t2
  exact t2
end Mine

namespace Mine
open PySem PySem.W PySem.Calls PyProof.Rows
set_option maxRecDepth 100000
set_option linter.unusedVariables false
noncomputable def qv : Program := { pw with main := { pw.main with body := [st 1, st 3, st 4, st 6, st 8, st 9, st 10, st 11, st 12, st 14, st 15, st 16, st 17, st 18, st 19, st 20, st 21] } }
noncomputable def asK : List Addr := [2, 3, 6, 15, 17, 18, 20, 21, 29, 33, 35, 36, 38, 39, 40, 79, 81, 82, 84, 85, 86, 88, 89, 91, 92, 93, 95, 96, 98, 99, 100, 102, 103, 105, 106, 107, 109, 110, 112, 113, 114, 116, 117, 119, 120, 121, 123, 124, 126, 127, 128, 130, 131, 133, 134, 135, 137, 138, 140, 141, 142, 144, 145, 147, 148, 149, 152, 153]
theorem asK_eq (P : Params) : asK = (K0 P).map (·.1) := by kernel_rfl
noncomputable abbrev HK : Hook := kHook K0 asK asK_eq
noncomputable abbrev looseK : List Str := [Str.ofString "b1_set", Str.ofString "b3_exceptions"]
noncomputable abbrev XtK : Shared → Bool := fun s => xlAt qv [] s && recOk (RowW.records (OpenRow.toRowW PySem.Challenge.rw_tl0030_01.row)) s
noncomputable def Hz (P : Params) : Heap := absHeap (insAll 0 .nil (lowL P (o3At P nmZ 27) (o12At 13) ++ (upL P).take 139)) 154 (bootLife P)
theorem t_fin (w : World) (os : OsState) : topRun treeTable pw w 11 annT 2 (stT w os nmZ 27 13 139 2336).abs ⟨doneF .next, topC, ⟨115, 0, 146, 194⟩, [topFrame p00]⟩ = some ⟨Hz w.params, #[], boot_drawn, 2336, os⟩ := by kernel_rfl
theorem body_eq : behindTheImports pw = [st 0, st 1, st 2] ++ ([st 3] ++ ([st 4] ++ ([st 5] ++ ([st 6, st 7, st 8, st 9, st 10, st 11, st 12, st 13, st 14, st 15, st 16, st 17, st 18, st 19, st 20, st 21] ++ [])))) := by kernel_rfl
theorem t_run (w : World) (os : OsState) : topRun treeTable pw w 11 annT (12 + (1 + (49 + (999 + (30 + (30100 + (395 + 2))))))) ⟨boot_heap w.params, #[], boot_drawn, boot_toks, os⟩ (topStub pw) = some ⟨Hz w.params, #[], boot_drawn, 2336, os⟩ := by
  refine go_top (t_pre w os) ?_
  refine piece_block (t_block w os) ?_
  rw [body_eq]
  refine piece_app (segRun_of (t_A w os)) ?_
  refine piece_app (segRun_of (t_B w os)) ?_
  refine piece_app (segRun_of (t_C w os)) ?_
  refine piece_app (t_D w os) ?_
  refine piece_app (segRun_of (t_E w os)) ?_
  exact piece_nil (t_fin w os)
theorem t_open : opening pw = plainProg pw.main.scope.names := by kernel_rfl
theorem t_fence (s : Shared) : fenceModules? pw s = some s := by kernel_rfl
theorem t_size (w : World) : ((boot_heap w.params).isNs mainGlobals && (#[] : Array GenState).size == 0, (boot_heap w.params).objs.size, (boot_heap w.params).nsMap mainGlobals "__annotations__") = (true, 11, annT) := by kernel_rfl
theorem t_looks (w : World) : (fun os => ((staticsOk (importedModules pw.main.body) (boot_heap w.params) (Hz w.params) && namesBound pw (Hz w.params) && gensDone ⟨Hz w.params, #[], boot_drawn, 2336, os⟩ && laidKept (boot_heap w.params) (Hz w.params)),
        openSeen qv looseK (importedModules pw.main.body) XtK true ⟨Hz w.params, #[], boot_drawn, 2336, os⟩, HK.obs ⟨Hz w.params, #[], boot_drawn, 2336, os⟩)) = fun _ => (true, openGood qv looseK, HK.val w) := by kernel_rfl
theorem left : LeftO pw qv looseK XtK HK.obs HK.val 40000 :=
  LeftO.of_pieces (H₀ := boot_heap) (H₁ := Hz) (boot_open t_open (by decide) t_fence) t_size t_run (by decide) t_looks
end Mine

namespace Mine
open PySem PySem.W PySem.Calls PyProof.Rows
set_option maxRecDepth 100000
theorem said_law : OpenLaw.wellSaid PySem.Challenge.rw_tl0030_01 = true := by
  unfold OpenLaw.wellSaid OpenRow.wellSaid OpenRow.partSaid looksOpen
  repeat' (with_reducible refine Bool.and_eq_true_iff.mpr ⟨?_, ?_⟩)
  all_goals decide +kernel
end Mine

local macro_rules | `(tactic| k_qdec) => `(tactic| decide +kernel)
set_option maxRecDepth 100000 in
set_option maxHeartbeats 8000000 in
theorem PySem.Challenge.cw_tl0030_01_holds : PySem.Challenge.rw_tl0030_01.Holds := by
  w_on
  refine holds_law Mine.said_law fun said => ?_
  refine holds_open (q := Mine.qv) (loose := Mine.looseK) (Xt := Mine.XtK) (XP := XL Mine.qv []) (Yf := Hook.obs Mine.HK) (Ya := Hook.val Mine.HK) (YP := Hook.says Mine.HK) (N := 40000) Mine.left (Hook.of Mine.HK) (Hook.keeps Mine.HK) (fun s e => xl_of s (Bool.and_eq_true_iff.mp e).1) XL.keeps (by rfl) (by rfl) (by rfl) (fun s e => recFacts_of (Bool.and_eq_true_iff.mp e).2) (by rfl) (by first | assumption | decide +kernel) (by decide +kernel) ⟨rfl, rfl, rfl, rfl, rfl, by decide +kernel⟩ ?hw ?hc
  case hw => w_witness2
  case hc =>
    k_go0
    all_goals try k_fold
    refine' Mine.law_body Mine.plain _ _ _ _ _ ?hi ?hn _ _ _ _ _ _ _ ?d1 ?d2 ?d3 ?d4 ?d5 ?d6 ?d7 _ _ _ _ _ ?X ?T ?hl ?F ?N ?hE ?hr
    case N => assumption
    case X => assumption
    case T => assumption
    case hi => assumption
    case hl => assumption
    case hn => omega
    case F => with_unfolding_all assumption
    case d1 => with_unfolding_all assumption
    case d2 => with_unfolding_all assumption
    case d3 => with_unfolding_all assumption
    case d4 => with_unfolding_all assumption
    case d5 => with_unfolding_all assumption
    case d6 => with_unfolding_all assumption
    case d7 => with_unfolding_all assumption
    case hE => passes_own
    case hr =>
      intro h' tk' m2 F2
      k_steps
      all_goals (try k_data)
