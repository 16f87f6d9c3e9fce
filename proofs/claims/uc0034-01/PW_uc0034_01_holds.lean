import PyProof.Rows.All
import Wide.All
import OpenK.AllK
import Wide.FinOn
import PyProof.IsiPairs
import KE.KLam
import KE.KDictSum
import KE.KSortKey
import Lean
import PySem.Challenge.RW_uc0034_01
set_option Elab.async false
set_option maxRecDepth 100000
set_option linter.all false
noncomputable section
namespace Mine
open PySem PySem.W PySem.Calls PyProof.Rows
noncomputable abbrev pw : Program := PySem.Challenge.pw_uc0034_01
noncomputable def fdAt (i : Nat) : Arguments × List Stmt × Scope := match pw.main.body[i]? with
  | some (.FunctionDef _ a b _ _ _ sc _ _ _) => (a, b, sc)
  | _ => (⟨[], [], none, [], [], none, []⟩, [], ⟨.function, [], false, false, []⟩)
noncomputable def b3Dict : List (Option Expr) × List Expr := match pw.main.body[(3 : Nat)]? with
  | some (.Assign _ (.Dict ks vs _) _) => (ks, vs)
  | _ => ([], [])
noncomputable def b3Pairs : List (Int × Str) := (b3Dict.1.zip b3Dict.2).filterMap fun p => match p with
  | (some (.Constant (.int n) _ _), .Constant (.str x) _ _) => some (n, x)
  | _ => none
noncomputable def b3Tok (n : Nat) : Nat := if n < 646 then 256 + 3 * n else 2194 + 2 * (n - 646)
noncomputable def b3Ents : List DictEntry := b3Pairs.zipIdx.map fun x => ⟨x.1.1, .int x.1.1 (b3Tok x.2), .str x.1.2 (b3Tok x.2 + 1)⟩
noncomputable def ho11 (P : Params) : Obj := ⟨(.type "tuple"), none, (.seq #[] 0), #[]⟩
noncomputable def ho13 (P : Params) : Obj := ⟨(.type "code"), none, (.fields #[(.str (Str.ofString "<module>") 182), (.str (Str.ofString "<module>") 183), (.str (Str.ofString "/claim/cut.py") 184), (.int (1) 0), (.int (0) 0), (.int (0) 0), (.int (0) 0), (.int (0) 0), (.ref 11), (.bool false), (.int (181) 0), (.ref 12), .none, .none, .none, .none, (.int (185) 0), (.int (1) 0), (.str (Str.ofString "/claim/cut.py") 186)]), #[]⟩
noncomputable def ho14 (P : Params) : Obj := ⟨(.type "frame"), none, .plain, #[(some (.ref 13)), (some (.ref 3)), (some (.ref 3)), none, (some (.str (Str.ofString "__main__") 164)), none, (some (.ref 0))]⟩
noncomputable def ho15 (P : Params) : Obj := ⟨(.type "list"), none, (.seq #[(.int (173) 189), (.int (847) 190), (.int (6150) 191), (.int (6155) 192), (.int (6156) 193), (.int (6157) 194), (.int (8203) 195), (.int (8204) 196), (.int (8205) 197), (.int (8288) 198), (.int (65279) 199)] 0), #[]⟩
noncomputable def ho16 (P : Params) : Obj := ⟨(.type "range"), none, (.fields #[(.int (65024) 200), (.int (65040) 201), (.int (1) 202)]), #[]⟩
noncomputable def ho17 (P : Params) : Obj := ⟨(.type "list"), none, (.seq #[(.int (65024) 205), (.int (65025) 206), (.int (65026) 207), (.int (65027) 208), (.int (65028) 209), (.int (65029) 210), (.int (65030) 211), (.int (65031) 212), (.int (65032) 213), (.int (65033) 214), (.int (65034) 215), (.int (65035) 216), (.int (65036) 217), (.int (65037) 218), (.int (65038) 219), (.int (65039) 220)] 18), #[]⟩
noncomputable def ho18 (P : Params) : Obj := ⟨(.type "range_iterator"), none, (.fields #[(.int (65040) 0), (.int (0) 0), (.int (1) 0)]), #[]⟩
noncomputable def ho19 (P : Params) : Obj := ⟨(.type "tuple"), none, (.seq #[] 0), #[]⟩
noncomputable def ho20 (P : Params) : Obj := ⟨(.type "StopIteration"), none, (.fields #[(.ref 19), .none, .none, .none, (.bool false), .none]), #[]⟩
noncomputable def ho21 (P : Params) : Obj := ⟨(.type "list"), none, (.seq #[(.int (173) 189), (.int (847) 190), (.int (6150) 191), (.int (6155) 192), (.int (6156) 193), (.int (6157) 194), (.int (8203) 195), (.int (8204) 196), (.int (8205) 197), (.int (8288) 198), (.int (65279) 199), (.int (65024) 205), (.int (65025) 206), (.int (65026) 207), (.int (65027) 208), (.int (65028) 209), (.int (65029) 210), (.int (65030) 211), (.int (65031) 212), (.int (65032) 213), (.int (65033) 214), (.int (65034) 215), (.int (65035) 216), (.int (65036) 217), (.int (65037) 218), (.int (65038) 219), (.int (65039) 220)] 0), #[]⟩
noncomputable def ho22 (P : Params) : Obj := ⟨(.type "set"), none, (.set #[(65024, (.int (65024) 205)), (65025, (.int (65025) 206)), (65026, (.int (65026) 207)), (65027, (.int (65027) 208)), (65028, (.int (65028) 209)), (65029, (.int (65029) 210)), (6150, (.int (6150) 191)), (65030, (.int (65030) 211)), (65031, (.int (65031) 212)), (65032, (.int (65032) 213)), (65033, (.int (65033) 214)), (6155, (.int (6155) 192)), (6156, (.int (6156) 193)), (6157, (.int (6157) 194)), (8203, (.int (8203) 195)), (8204, (.int (8204) 196)), (8205, (.int (8205) 197)), (65034, (.int (65034) 215)), (65035, (.int (65035) 216)), (65036, (.int (65036) 217)), (65037, (.int (65037) 218)), (65038, (.int (65038) 219)), (65039, (.int (65039) 220)), (173, (.int (173) 189)), (847, (.int (847) 190)), (8288, (.int (8288) 198)), (65279, (.int (65279) 199))] 29 ⟨127, #[0, 1, 2, 3, 4, 5, 6, 7, 8, 9, 10, 11, 12, 13, 14, 15, 16, 17, 18, 19, 20, 21, 22, 45, 79, 96, 127], #[], 0, !P.followText "set-order", 2, true⟩), #[]⟩
noncomputable def ho23 (P : Params) : Obj := ⟨(.type "list_iterator"), none, (.fields #[.none, (.int (27) 0)]), #[]⟩
noncomputable def ho24 (P : Params) : Obj := ⟨(.type "tuple"), none, (.seq #[] 0), #[]⟩
noncomputable def ho25 (P : Params) : Obj := ⟨(.type "StopIteration"), none, (.fields #[(.ref 24), .none, .none, .none, (.bool false), .none]), #[]⟩
noncomputable def ho26 (P : Params) : Obj := ⟨(.type "tuple"), none, (.seq #[] 0), #[]⟩
noncomputable def ho27 (P : Params) : Obj := ⟨.none, none, (.fields #[]), #[]⟩
noncomputable def ho28 (P : Params) : Obj := ⟨(.type "tuple"), none, (.seq #[(.str (Str.ofString "code") 252)] 0), #[]⟩
noncomputable def ho29 (P : Params) : Obj := ⟨(.type "tuple"), none, (.seq #[] 0), #[]⟩
noncomputable def ho30 (P : Params) : Obj := ⟨.none, none, (.func { name := (Str.ofString "in_table_b1"), qualname := (Str.ofString "in_table_b1"), params := (fdAt 2).1, body := .stmts (fdAt 2).2.1, scope := (fdAt 2).2.2, globals := 0, closure := [], defaults := .none, kwdefaults := .none, doc := .none, pyModule := .none, annotations := none, code := .none, closureTuple := .none, builtins := 0 }), #[]⟩
noncomputable def ho31 (P : Params) : Obj := ⟨(.type "code"), none, (.fields #[(.str (Str.ofString "in_table_b1") 249), (.str (Str.ofString "in_table_b1") 250), (.str (Str.ofString "/claim/cut.py") 251), (.int (3) 0), (.int (1) 0), (.int (0) 0), (.int (0) 0), (.int (3) 0), (.ref 26), (.bool true), (.int (181) 0), (.ref 27), .none, (.ref 28), (.ref 29), (.ref 30), (.int (253) 0), (.int (3) 0), (.str (Str.ofString "/claim/cut.py") 254)]), #[]⟩
noncomputable def ho32 (P : Params) : Obj := ⟨(.type "function"), none, (.func { name := (Str.ofString "in_table_b1"), qualname := (Str.ofString "in_table_b1"), params := (fdAt 2).1, body := .stmts (fdAt 2).2.1, scope := (fdAt 2).2.2, globals := 3, closure := [], defaults := .none, kwdefaults := .none, doc := .none, pyModule := (.str (Str.ofString "cpy313.stringprep") 187), annotations := none, code := (.ref 31), closureTuple := .none, builtins := 0 }), #[]⟩
noncomputable def ho72 (P : Params) : Obj := ⟨(.type "tuple"), none, (.seq #[] 0), #[]⟩
noncomputable def ho73 (P : Params) : Obj := ⟨.none, none, (.fields #[]), #[]⟩
noncomputable def ho74 (P : Params) : Obj := ⟨(.type "tuple"), none, (.seq #[(.str (Str.ofString "code") 2210), (.str (Str.ofString "r") 2211)] 0), #[]⟩
noncomputable def ho75 (P : Params) : Obj := ⟨(.type "tuple"), none, (.seq #[] 0), #[]⟩
noncomputable def ho76 (P : Params) : Obj := ⟨.none, none, (.func { name := (Str.ofString "map_table_b3"), qualname := (Str.ofString "map_table_b3"), params := (fdAt 4).1, body := .stmts (fdAt 4).2.1, scope := (fdAt 4).2.2, globals := 0, closure := [], defaults := .none, kwdefaults := .none, doc := .none, pyModule := .none, annotations := none, code := .none, closureTuple := .none, builtins := 0 }), #[]⟩
noncomputable def ho77 (P : Params) : Obj := ⟨(.type "code"), none, (.fields #[(.str (Str.ofString "map_table_b3") 2207), (.str (Str.ofString "map_table_b3") 2208), (.str (Str.ofString "/claim/cut.py") 2209), (.int (6) 0), (.int (1) 0), (.int (0) 0), (.int (0) 0), (.int (3) 0), (.ref 72), (.bool true), (.int (181) 0), (.ref 73), .none, (.ref 74), (.ref 75), (.ref 76), (.int (2212) 0), (.int (6) 0), (.str (Str.ofString "/claim/cut.py") 2213)]), #[]⟩
noncomputable def ho78 (P : Params) : Obj := ⟨(.type "function"), none, (.func { name := (Str.ofString "map_table_b3"), qualname := (Str.ofString "map_table_b3"), params := (fdAt 4).1, body := .stmts (fdAt 4).2.1, scope := (fdAt 4).2.2, globals := 3, closure := [], defaults := .none, kwdefaults := .none, doc := .none, pyModule := (.str (Str.ofString "cpy313.stringprep") 187), annotations := none, code := (.ref 77), closureTuple := .none, builtins := 0 }), #[]⟩
noncomputable def ho79 (P : Params) : Obj := ⟨(.type "tuple"), none, (.seq #[(.int (0) 2217), .none] 0), #[]⟩
noncomputable def ho80 (P : Params) : Obj := ⟨(.type "dict"), none, (.dict #[⟨PyData.keyHash P (Str.ofString "key"), (.str (Str.ofString "key") 2218), .none⟩] 1), #[]⟩
noncomputable def ho81 (P : Params) : Obj := ⟨(.type "tuple"), none, (.seq #[] 0), #[]⟩
noncomputable def ho82 (P : Params) : Obj := ⟨.none, none, (.fields #[]), #[]⟩
noncomputable def ho83 (P : Params) : Obj := ⟨(.type "tuple"), none, (.seq #[(.str (Str.ofString "a") 2222), (.str (Str.ofString "x") 2223), (.str (Str.ofString "lo") 2224), (.str (Str.ofString "hi") 2225), (.str (Str.ofString "key") 2226)] 0), #[]⟩
noncomputable def ho84 (P : Params) : Obj := ⟨(.type "tuple"), none, (.seq #[] 0), #[]⟩
noncomputable def ho85 (P : Params) : Obj := ⟨.none, none, (.func { name := (Str.ofString "insort_right"), qualname := (Str.ofString "insort_right"), params := (fdAt 6).1, body := .stmts (fdAt 6).2.1, scope := (fdAt 6).2.2, globals := 0, closure := [], defaults := .none, kwdefaults := .none, doc := .none, pyModule := .none, annotations := none, code := .none, closureTuple := .none, builtins := 0 }), #[]⟩
noncomputable def ho86 (P : Params) : Obj := ⟨(.type "code"), none, (.fields #[(.str (Str.ofString "insort_right") 2219), (.str (Str.ofString "insort_right") 2220), (.str (Str.ofString "/claim/cut.py") 2221), (.int (12) 0), (.int (4) 0), (.int (0) 0), (.int (1) 0), (.int (3) 0), (.ref 81), (.bool true), (.int (181) 0), (.ref 82), .none, (.ref 83), (.ref 84), (.ref 85), (.int (2227) 0), (.int (12) 0), (.str (Str.ofString "/claim/cut.py") 2228)]), #[]⟩
noncomputable def ho87 (P : Params) : Obj := ⟨(.type "function"), none, (.func { name := (Str.ofString "insort_right"), qualname := (Str.ofString "insort_right"), params := (fdAt 6).1, body := .stmts (fdAt 6).2.1, scope := (fdAt 6).2.2, globals := 3, closure := [], defaults := (.ref 79), kwdefaults := (.ref 80), doc := .none, pyModule := (.str (Str.ofString "cpy313.bisect") 2215), annotations := none, code := (.ref 86), closureTuple := .none, builtins := 0 }), #[]⟩
noncomputable def ho88 (P : Params) : Obj := ⟨(.type "tuple"), none, (.seq #[(.int (0) 2230), .none] 0), #[]⟩
noncomputable def ho89 (P : Params) : Obj := ⟨(.type "dict"), none, (.dict #[⟨PyData.keyHash P (Str.ofString "key"), (.str (Str.ofString "key") 2231), .none⟩] 1), #[]⟩
noncomputable def ho90 (P : Params) : Obj := ⟨(.type "tuple"), none, (.seq #[] 0), #[]⟩
noncomputable def ho91 (P : Params) : Obj := ⟨.none, none, (.fields #[]), #[]⟩
noncomputable def ho92 (P : Params) : Obj := ⟨(.type "tuple"), none, (.seq #[(.str (Str.ofString "a") 2235), (.str (Str.ofString "x") 2236), (.str (Str.ofString "lo") 2237), (.str (Str.ofString "hi") 2238), (.str (Str.ofString "key") 2239), (.str (Str.ofString "mid") 2240)] 0), #[]⟩
noncomputable def ho93 (P : Params) : Obj := ⟨(.type "tuple"), none, (.seq #[] 0), #[]⟩
noncomputable def ho94 (P : Params) : Obj := ⟨.none, none, (.func { name := (Str.ofString "bisect_right"), qualname := (Str.ofString "bisect_right"), params := (fdAt 7).1, body := .stmts (fdAt 7).2.1, scope := (fdAt 7).2.2, globals := 0, closure := [], defaults := .none, kwdefaults := .none, doc := .none, pyModule := .none, annotations := none, code := .none, closureTuple := .none, builtins := 0 }), #[]⟩
noncomputable def ho95 (P : Params) : Obj := ⟨(.type "code"), none, (.fields #[(.str (Str.ofString "bisect_right") 2232), (.str (Str.ofString "bisect_right") 2233), (.str (Str.ofString "/claim/cut.py") 2234), (.int (18) 0), (.int (4) 0), (.int (0) 0), (.int (1) 0), (.int (3) 0), (.ref 90), (.bool true), (.int (181) 0), (.ref 91), .none, (.ref 92), (.ref 93), (.ref 94), (.int (2241) 0), (.int (18) 0), (.str (Str.ofString "/claim/cut.py") 2242)]), #[]⟩
noncomputable def ho96 (P : Params) : Obj := ⟨(.type "function"), none, (.func { name := (Str.ofString "bisect_right"), qualname := (Str.ofString "bisect_right"), params := (fdAt 7).1, body := .stmts (fdAt 7).2.1, scope := (fdAt 7).2.2, globals := 3, closure := [], defaults := (.ref 88), kwdefaults := (.ref 89), doc := .none, pyModule := (.str (Str.ofString "cpy313.bisect") 2215), annotations := none, code := (.ref 95), closureTuple := .none, builtins := 0 }), #[]⟩
noncomputable def ho97 (P : Params) : Obj := ⟨(.type "tuple"), none, (.seq #[(.int (0) 2244), .none] 0), #[]⟩
noncomputable def ho98 (P : Params) : Obj := ⟨(.type "dict"), none, (.dict #[⟨PyData.keyHash P (Str.ofString "key"), (.str (Str.ofString "key") 2245), .none⟩] 1), #[]⟩
noncomputable def ho99 (P : Params) : Obj := ⟨(.type "tuple"), none, (.seq #[] 0), #[]⟩
noncomputable def ho100 (P : Params) : Obj := ⟨.none, none, (.fields #[]), #[]⟩
noncomputable def ho101 (P : Params) : Obj := ⟨(.type "tuple"), none, (.seq #[(.str (Str.ofString "a") 2249), (.str (Str.ofString "x") 2250), (.str (Str.ofString "lo") 2251), (.str (Str.ofString "hi") 2252), (.str (Str.ofString "key") 2253)] 0), #[]⟩
noncomputable def ho102 (P : Params) : Obj := ⟨(.type "tuple"), none, (.seq #[] 0), #[]⟩
noncomputable def ho103 (P : Params) : Obj := ⟨.none, none, (.func { name := (Str.ofString "insort_left"), qualname := (Str.ofString "insort_left"), params := (fdAt 8).1, body := .stmts (fdAt 8).2.1, scope := (fdAt 8).2.2, globals := 0, closure := [], defaults := .none, kwdefaults := .none, doc := .none, pyModule := .none, annotations := none, code := .none, closureTuple := .none, builtins := 0 }), #[]⟩
noncomputable def ho104 (P : Params) : Obj := ⟨(.type "code"), none, (.fields #[(.str (Str.ofString "insort_left") 2246), (.str (Str.ofString "insort_left") 2247), (.str (Str.ofString "/claim/cut.py") 2248), (.int (38) 0), (.int (4) 0), (.int (0) 0), (.int (1) 0), (.int (3) 0), (.ref 99), (.bool true), (.int (181) 0), (.ref 100), .none, (.ref 101), (.ref 102), (.ref 103), (.int (2254) 0), (.int (38) 0), (.str (Str.ofString "/claim/cut.py") 2255)]), #[]⟩
noncomputable def ho105 (P : Params) : Obj := ⟨(.type "function"), none, (.func { name := (Str.ofString "insort_left"), qualname := (Str.ofString "insort_left"), params := (fdAt 8).1, body := .stmts (fdAt 8).2.1, scope := (fdAt 8).2.2, globals := 3, closure := [], defaults := (.ref 97), kwdefaults := (.ref 98), doc := .none, pyModule := (.str (Str.ofString "cpy313.bisect") 2215), annotations := none, code := (.ref 104), closureTuple := .none, builtins := 0 }), #[]⟩
noncomputable def ho106 (P : Params) : Obj := ⟨(.type "tuple"), none, (.seq #[(.int (0) 2257), .none] 0), #[]⟩
noncomputable def ho107 (P : Params) : Obj := ⟨(.type "dict"), none, (.dict #[⟨PyData.keyHash P (Str.ofString "key"), (.str (Str.ofString "key") 2258), .none⟩] 1), #[]⟩
noncomputable def ho108 (P : Params) : Obj := ⟨(.type "tuple"), none, (.seq #[] 0), #[]⟩
noncomputable def ho109 (P : Params) : Obj := ⟨.none, none, (.fields #[]), #[]⟩
noncomputable def ho110 (P : Params) : Obj := ⟨(.type "tuple"), none, (.seq #[(.str (Str.ofString "a") 2262), (.str (Str.ofString "x") 2263), (.str (Str.ofString "lo") 2264), (.str (Str.ofString "hi") 2265), (.str (Str.ofString "key") 2266), (.str (Str.ofString "mid") 2267)] 0), #[]⟩
noncomputable def ho111 (P : Params) : Obj := ⟨(.type "tuple"), none, (.seq #[] 0), #[]⟩
noncomputable def ho112 (P : Params) : Obj := ⟨.none, none, (.func { name := (Str.ofString "bisect_left"), qualname := (Str.ofString "bisect_left"), params := (fdAt 9).1, body := .stmts (fdAt 9).2.1, scope := (fdAt 9).2.2, globals := 0, closure := [], defaults := .none, kwdefaults := .none, doc := .none, pyModule := .none, annotations := none, code := .none, closureTuple := .none, builtins := 0 }), #[]⟩
noncomputable def ho113 (P : Params) : Obj := ⟨(.type "code"), none, (.fields #[(.str (Str.ofString "bisect_left") 2259), (.str (Str.ofString "bisect_left") 2260), (.str (Str.ofString "/claim/cut.py") 2261), (.int (44) 0), (.int (4) 0), (.int (0) 0), (.int (1) 0), (.int (3) 0), (.ref 108), (.bool true), (.int (181) 0), (.ref 109), .none, (.ref 110), (.ref 111), (.ref 112), (.int (2268) 0), (.int (44) 0), (.str (Str.ofString "/claim/cut.py") 2269)]), #[]⟩
noncomputable def ho114 (P : Params) : Obj := ⟨(.type "function"), none, (.func { name := (Str.ofString "bisect_left"), qualname := (Str.ofString "bisect_left"), params := (fdAt 9).1, body := .stmts (fdAt 9).2.1, scope := (fdAt 9).2.2, globals := 3, closure := [], defaults := (.ref 106), kwdefaults := (.ref 107), doc := .none, pyModule := (.str (Str.ofString "cpy313.bisect") 2215), annotations := none, code := (.ref 113), closureTuple := .none, builtins := 0 }), #[]⟩
noncomputable def ho115 (P : Params) : Obj := ⟨(.type "tuple"), none, (.seq #[] 0), #[]⟩
noncomputable def ho116 (P : Params) : Obj := ⟨.none, none, (.fields #[]), #[]⟩
noncomputable def ho117 (P : Params) : Obj := ⟨(.type "tuple"), none, (.seq #[(.str (Str.ofString "a") 2276), (.str (Str.ofString "b") 2277)] 0), #[]⟩
noncomputable def ho118 (P : Params) : Obj := ⟨(.type "tuple"), none, (.seq #[] 0), #[]⟩
noncomputable def ho119 (P : Params) : Obj := ⟨.none, none, (.func { name := (Str.ofString "_strcoll"), qualname := (Str.ofString "_strcoll"), params := (fdAt 11).1, body := .stmts (fdAt 11).2.1, scope := (fdAt 11).2.2, globals := 0, closure := [], defaults := .none, kwdefaults := .none, doc := .none, pyModule := .none, annotations := none, code := .none, closureTuple := .none, builtins := 0 }), #[]⟩
noncomputable def ho120 (P : Params) : Obj := ⟨(.type "code"), none, (.fields #[(.str (Str.ofString "_strcoll") 2273), (.str (Str.ofString "_strcoll") 2274), (.str (Str.ofString "/claim/cut.py") 2275), (.int (65) 0), (.int (2) 0), (.int (0) 0), (.int (0) 0), (.int (3) 0), (.ref 115), (.bool true), (.int (181) 0), (.ref 116), .none, (.ref 117), (.ref 118), (.ref 119), (.int (2278) 0), (.int (65) 0), (.str (Str.ofString "/claim/cut.py") 2279)]), #[]⟩
noncomputable def ho121 (P : Params) : Obj := ⟨(.type "function"), none, (.func { name := (Str.ofString "_strcoll"), qualname := (Str.ofString "_strcoll"), params := (fdAt 11).1, body := .stmts (fdAt 11).2.1, scope := (fdAt 11).2.2, globals := 3, closure := [], defaults := .none, kwdefaults := .none, doc := .none, pyModule := (.str (Str.ofString "cpy313.locale") 2271), annotations := none, code := (.ref 120), closureTuple := .none, builtins := 0 }), #[]⟩
noncomputable def ho122 (P : Params) : Obj := ⟨(.type "tuple"), none, (.seq #[] 0), #[]⟩
noncomputable def ho123 (P : Params) : Obj := ⟨.none, none, (.fields #[]), #[]⟩
noncomputable def ho124 (P : Params) : Obj := ⟨(.type "tuple"), none, (.seq #[(.str (Str.ofString "s") 2284)] 0), #[]⟩
noncomputable def ho125 (P : Params) : Obj := ⟨(.type "tuple"), none, (.seq #[] 0), #[]⟩
noncomputable def ho126 (P : Params) : Obj := ⟨.none, none, (.func { name := (Str.ofString "_strxfrm"), qualname := (Str.ofString "_strxfrm"), params := (fdAt 12).1, body := .stmts (fdAt 12).2.1, scope := (fdAt 12).2.2, globals := 0, closure := [], defaults := .none, kwdefaults := .none, doc := .none, pyModule := .none, annotations := none, code := .none, closureTuple := .none, builtins := 0 }), #[]⟩
noncomputable def ho127 (P : Params) : Obj := ⟨(.type "code"), none, (.fields #[(.str (Str.ofString "_strxfrm") 2281), (.str (Str.ofString "_strxfrm") 2282), (.str (Str.ofString "/claim/cut.py") 2283), (.int (67) 0), (.int (1) 0), (.int (0) 0), (.int (0) 0), (.int (3) 0), (.ref 122), (.bool true), (.int (181) 0), (.ref 123), .none, (.ref 124), (.ref 125), (.ref 126), (.int (2285) 0), (.int (67) 0), (.str (Str.ofString "/claim/cut.py") 2286)]), #[]⟩
noncomputable def ho128 (P : Params) : Obj := ⟨(.type "function"), none, (.func { name := (Str.ofString "_strxfrm"), qualname := (Str.ofString "_strxfrm"), params := (fdAt 12).1, body := .stmts (fdAt 12).2.1, scope := (fdAt 12).2.2, globals := 3, closure := [], defaults := .none, kwdefaults := .none, doc := .none, pyModule := (.str (Str.ofString "cpy313.locale") 2271), annotations := none, code := (.ref 127), closureTuple := .none, builtins := 0 }), #[]⟩
noncomputable def ho129 (P : Params) : Obj := ⟨(.type "tuple"), none, (.seq #[] 0), #[]⟩
noncomputable def ho130 (P : Params) : Obj := ⟨.none, none, (.fields #[]), #[]⟩
noncomputable def ho131 (P : Params) : Obj := ⟨(.type "tuple"), none, (.seq #[(.str (Str.ofString "which") 2293)] 0), #[]⟩
noncomputable def ho132 (P : Params) : Obj := ⟨(.type "tuple"), none, (.seq #[] 0), #[]⟩
noncomputable def ho133 (P : Params) : Obj := ⟨.none, none, (.func { name := (Str.ofString "_law_family"), qualname := (Str.ofString "_law_family"), params := (fdAt 14).1, body := .stmts (fdAt 14).2.1, scope := (fdAt 14).2.2, globals := 0, closure := [], defaults := .none, kwdefaults := .none, doc := .none, pyModule := .none, annotations := none, code := .none, closureTuple := .none, builtins := 0 }), #[]⟩
noncomputable def ho134 (P : Params) : Obj := ⟨(.type "code"), none, (.fields #[(.str (Str.ofString "_law_family") 2290), (.str (Str.ofString "_law_family") 2291), (.str (Str.ofString "/claim/cut.py") 2292), (.int (70) 0), (.int (1) 0), (.int (0) 0), (.int (0) 0), (.int (3) 0), (.ref 129), (.bool true), (.int (181) 0), (.ref 130), .none, (.ref 131), (.ref 132), (.ref 133), (.int (2294) 0), (.int (70) 0), (.str (Str.ofString "/claim/cut.py") 2295)]), #[]⟩
noncomputable def ho135 (P : Params) : Obj := ⟨(.type "function"), none, (.func { name := (Str.ofString "_law_family"), qualname := (Str.ofString "_law_family"), params := (fdAt 14).1, body := .stmts (fdAt 14).2.1, scope := (fdAt 14).2.2, globals := 3, closure := [], defaults := .none, kwdefaults := .none, doc := .none, pyModule := (.str (Str.ofString "law_uc0034_01") 2288), annotations := none, code := (.ref 134), closureTuple := .none, builtins := 0 }), #[]⟩
noncomputable def ho136 (P : Params) : Obj := ⟨(.type "tuple"), none, (.seq #[] 0), #[]⟩
noncomputable def ho137 (P : Params) : Obj := ⟨.none, none, (.fields #[]), #[]⟩
noncomputable def ho138 (P : Params) : Obj := ⟨.none, none, (.func { name := (Str.ofString "_law_stock"), qualname := (Str.ofString "_law_stock"), params := (fdAt 15).1, body := .stmts (fdAt 15).2.1, scope := (fdAt 15).2.2, globals := 0, closure := [], defaults := .none, kwdefaults := .none, doc := .none, pyModule := .none, annotations := none, code := .none, closureTuple := .none, builtins := 0 }), #[]⟩
noncomputable def ho139 (P : Params) : Obj := ⟨(.type "code"), none, (.fields #[(.str (Str.ofString "_law_stock") 2297), (.str (Str.ofString "_law_stock") 2298), (.str (Str.ofString "/claim/cut.py") 2299), (.int (82) 0), (.int (2) 0), (.int (0) 0), (.int (0) 0), (.int (3) 0), (.ref 136), (.bool true), (.int (181) 0), (.ref 137), .none, .none, .none, (.ref 138), (.int (2300) 0), (.int (82) 0), (.str (Str.ofString "/claim/cut.py") 2301)]), #[]⟩
noncomputable def ho140 (P : Params) : Obj := ⟨(.type "function"), none, (.func { name := (Str.ofString "_law_stock"), qualname := (Str.ofString "_law_stock"), params := (fdAt 15).1, body := .stmts (fdAt 15).2.1, scope := (fdAt 15).2.2, globals := 3, closure := [], defaults := .none, kwdefaults := .none, doc := .none, pyModule := (.str (Str.ofString "law_uc0034_01") 2288), annotations := none, code := (.ref 139), closureTuple := .none, builtins := 0 }), #[]⟩
noncomputable def ho141 (P : Params) : Obj := ⟨(.type "tuple"), none, (.seq #[] 0), #[]⟩
noncomputable def ho142 (P : Params) : Obj := ⟨.none, none, (.fields #[]), #[]⟩
noncomputable def ho143 (P : Params) : Obj := ⟨.none, none, (.func { name := (Str.ofString "_law_prepared"), qualname := (Str.ofString "_law_prepared"), params := (fdAt 16).1, body := .stmts (fdAt 16).2.1, scope := (fdAt 16).2.2, globals := 0, closure := [], defaults := .none, kwdefaults := .none, doc := .none, pyModule := .none, annotations := none, code := .none, closureTuple := .none, builtins := 0 }), #[]⟩
noncomputable def ho144 (P : Params) : Obj := ⟨(.type "code"), none, (.fields #[(.str (Str.ofString "_law_prepared") 2303), (.str (Str.ofString "_law_prepared") 2304), (.str (Str.ofString "/claim/cut.py") 2305), (.int (98) 0), (.int (1) 0), (.int (0) 0), (.int (0) 0), (.int (3) 0), (.ref 141), (.bool true), (.int (181) 0), (.ref 142), .none, .none, .none, (.ref 143), (.int (2306) 0), (.int (98) 0), (.str (Str.ofString "/claim/cut.py") 2307)]), #[]⟩
noncomputable def ho145 (P : Params) : Obj := ⟨(.type "function"), none, (.func { name := (Str.ofString "_law_prepared"), qualname := (Str.ofString "_law_prepared"), params := (fdAt 16).1, body := .stmts (fdAt 16).2.1, scope := (fdAt 16).2.2, globals := 3, closure := [], defaults := .none, kwdefaults := .none, doc := .none, pyModule := (.str (Str.ofString "law_uc0034_01") 2288), annotations := none, code := (.ref 144), closureTuple := .none, builtins := 0 }), #[]⟩
noncomputable def ho146 (P : Params) : Obj := ⟨(.type "tuple"), none, (.seq #[] 0), #[]⟩
noncomputable def ho147 (P : Params) : Obj := ⟨.none, none, (.fields #[]), #[]⟩
noncomputable def ho148 (P : Params) : Obj := ⟨.none, none, (.func { name := (Str.ofString "_law_codes"), qualname := (Str.ofString "_law_codes"), params := (fdAt 17).1, body := .stmts (fdAt 17).2.1, scope := (fdAt 17).2.2, globals := 0, closure := [], defaults := .none, kwdefaults := .none, doc := .none, pyModule := .none, annotations := none, code := .none, closureTuple := .none, builtins := 0 }), #[]⟩
noncomputable def ho149 (P : Params) : Obj := ⟨(.type "code"), none, (.fields #[(.str (Str.ofString "_law_codes") 2309), (.str (Str.ofString "_law_codes") 2310), (.str (Str.ofString "/claim/cut.py") 2311), (.int (100) 0), (.int (1) 0), (.int (0) 0), (.int (0) 0), (.int (3) 0), (.ref 146), (.bool true), (.int (181) 0), (.ref 147), .none, .none, .none, (.ref 148), (.int (2312) 0), (.int (100) 0), (.str (Str.ofString "/claim/cut.py") 2313)]), #[]⟩
noncomputable def ho150 (P : Params) : Obj := ⟨(.type "function"), none, (.func { name := (Str.ofString "_law_codes"), qualname := (Str.ofString "_law_codes"), params := (fdAt 17).1, body := .stmts (fdAt 17).2.1, scope := (fdAt 17).2.2, globals := 3, closure := [], defaults := .none, kwdefaults := .none, doc := .none, pyModule := (.str (Str.ofString "law_uc0034_01") 2288), annotations := none, code := (.ref 149), closureTuple := .none, builtins := 0 }), #[]⟩
noncomputable def ho151 (P : Params) : Obj := ⟨(.type "tuple"), none, (.seq #[] 0), #[]⟩
noncomputable def ho152 (P : Params) : Obj := ⟨.none, none, (.fields #[]), #[]⟩
noncomputable def ho153 (P : Params) : Obj := ⟨(.type "tuple"), none, (.seq #[(.str (Str.ofString "one") 2318), (.str (Str.ofString "two") 2319), (.str (Str.ofString "a") 2320), (.str (Str.ofString "b") 2321)] 0), #[]⟩
noncomputable def ho154 (P : Params) : Obj := ⟨(.type "tuple"), none, (.seq #[] 0), #[]⟩
noncomputable def ho155 (P : Params) : Obj := ⟨.none, none, (.func { name := (Str.ofString "_law_way"), qualname := (Str.ofString "_law_way"), params := (fdAt 18).1, body := .stmts (fdAt 18).2.1, scope := (fdAt 18).2.2, globals := 0, closure := [], defaults := .none, kwdefaults := .none, doc := .none, pyModule := .none, annotations := none, code := .none, closureTuple := .none, builtins := 0 }), #[]⟩
noncomputable def ho156 (P : Params) : Obj := ⟨(.type "code"), none, (.fields #[(.str (Str.ofString "_law_way") 2315), (.str (Str.ofString "_law_way") 2316), (.str (Str.ofString "/claim/cut.py") 2317), (.int (102) 0), (.int (2) 0), (.int (0) 0), (.int (0) 0), (.int (3) 0), (.ref 151), (.bool true), (.int (181) 0), (.ref 152), .none, (.ref 153), (.ref 154), (.ref 155), (.int (2322) 0), (.int (102) 0), (.str (Str.ofString "/claim/cut.py") 2323)]), #[]⟩
noncomputable def ho157 (P : Params) : Obj := ⟨(.type "function"), none, (.func { name := (Str.ofString "_law_way"), qualname := (Str.ofString "_law_way"), params := (fdAt 18).1, body := .stmts (fdAt 18).2.1, scope := (fdAt 18).2.2, globals := 3, closure := [], defaults := .none, kwdefaults := .none, doc := .none, pyModule := (.str (Str.ofString "law_uc0034_01") 2288), annotations := none, code := (.ref 156), closureTuple := .none, builtins := 0 }), #[]⟩
noncomputable def ho158 (P : Params) : Obj := ⟨(.type "tuple"), none, (.seq #[] 0), #[]⟩
noncomputable def ho159 (P : Params) : Obj := ⟨.none, none, (.fields #[]), #[]⟩
noncomputable def ho160 (P : Params) : Obj := ⟨.none, none, (.func { name := (Str.ofString "law"), qualname := (Str.ofString "law"), params := (fdAt 19).1, body := .stmts (fdAt 19).2.1, scope := (fdAt 19).2.2, globals := 0, closure := [], defaults := .none, kwdefaults := .none, doc := .none, pyModule := .none, annotations := none, code := .none, closureTuple := .none, builtins := 0 }), #[]⟩
noncomputable def ho161 (P : Params) : Obj := ⟨(.type "code"), none, (.fields #[(.str (Str.ofString "law") 2325), (.str (Str.ofString "law") 2326), (.str (Str.ofString "/claim/cut.py") 2327), (.int (107) 0), (.int (1) 0), (.int (0) 0), (.int (0) 0), (.int (3) 0), (.ref 158), (.bool true), (.int (181) 0), (.ref 159), .none, .none, .none, (.ref 160), (.int (2328) 0), (.int (107) 0), (.str (Str.ofString "/claim/cut.py") 2329)]), #[]⟩
noncomputable def ho162 (P : Params) : Obj := ⟨(.type "function"), none, (.func { name := (Str.ofString "law"), qualname := (Str.ofString "law"), params := (fdAt 19).1, body := .stmts (fdAt 19).2.1, scope := (fdAt 19).2.2, globals := 3, closure := [], defaults := .none, kwdefaults := .none, doc := .none, pyModule := (.str (Str.ofString "law_uc0034_01") 2288), annotations := none, code := (.ref 161), closureTuple := .none, builtins := 0 }), #[]⟩
noncomputable def ho3a (P : Params) : Obj := ⟨(.type "dict"), none, (.dict #[⟨PyData.keyHash P (Str.ofString "__name__"), (.str (Str.ofString "__name__") 165), (.str (Str.ofString "cpy313.stringprep") 187)⟩, ⟨PyData.keyHash P (Str.ofString "__doc__"), (.str (Str.ofString "__doc__") 166), .none⟩, ⟨PyData.keyHash P (Str.ofString "__package__"), (.str (Str.ofString "__package__") 167), .none⟩, ⟨PyData.keyHash P (Str.ofString "__loader__"), (.str (Str.ofString "__loader__") 168), (.builtin "__main__.__loader__#opaque")⟩, ⟨PyData.keyHash P (Str.ofString "__spec__"), (.str (Str.ofString "__spec__") 169), .none⟩, ⟨PyData.keyHash P (Str.ofString "__annotations__"), (.str (Str.ofString "__annotations__") 170), (.ref 6)⟩, ⟨PyData.keyHash P (Str.ofString "__builtins__"), (.str (Str.ofString "__builtins__") 171), (.ref 4)⟩, ⟨PyData.keyHash P (Str.ofString "__file__"), (.str (Str.ofString "__file__") 173), (.str (Str.ofString "/claim/cut.py") 172)⟩, ⟨PyData.keyHash P (Str.ofString "__cached__"), (.str (Str.ofString "__cached__") 174), .none⟩, ⟨PyData.keyHash P (Str.ofString "b1_set"), (.str (Str.ofString "b1_set") 248), (.ref 22)⟩, ⟨PyData.keyHash P (Str.ofString "in_table_b1"), (.str (Str.ofString "in_table_b1") 255), (.ref 32)⟩] 11), #[]⟩
noncomputable def ho12a (P : Params) : Obj := ⟨.none, none, (.fields #[(.int (3) 0), (.int (0) 0), (.ref 31)]), #[]⟩
noncomputable def ho3b (P : Params) : Obj := ⟨(.type "dict"), none, (.dict #[⟨PyData.keyHash P (Str.ofString "__name__"), (.str (Str.ofString "__name__") 165), (.str (Str.ofString "cpy313.stringprep") 187)⟩, ⟨PyData.keyHash P (Str.ofString "__doc__"), (.str (Str.ofString "__doc__") 166), .none⟩, ⟨PyData.keyHash P (Str.ofString "__package__"), (.str (Str.ofString "__package__") 167), .none⟩, ⟨PyData.keyHash P (Str.ofString "__loader__"), (.str (Str.ofString "__loader__") 168), (.builtin "__main__.__loader__#opaque")⟩, ⟨PyData.keyHash P (Str.ofString "__spec__"), (.str (Str.ofString "__spec__") 169), .none⟩, ⟨PyData.keyHash P (Str.ofString "__annotations__"), (.str (Str.ofString "__annotations__") 170), (.ref 6)⟩, ⟨PyData.keyHash P (Str.ofString "__builtins__"), (.str (Str.ofString "__builtins__") 171), (.ref 4)⟩, ⟨PyData.keyHash P (Str.ofString "__file__"), (.str (Str.ofString "__file__") 173), (.str (Str.ofString "/claim/cut.py") 172)⟩, ⟨PyData.keyHash P (Str.ofString "__cached__"), (.str (Str.ofString "__cached__") 174), .none⟩, ⟨PyData.keyHash P (Str.ofString "b1_set"), (.str (Str.ofString "b1_set") 248), (.ref 22)⟩, ⟨PyData.keyHash P (Str.ofString "in_table_b1"), (.str (Str.ofString "in_table_b1") 255), (.ref 32)⟩, ⟨PyData.keyHash P (Str.ofString "b3_exceptions"), (.str (Str.ofString "b3_exceptions") 2206), (.ref 33)⟩] 12), #[]⟩
noncomputable def ho12b (P : Params) : Obj := ⟨.none, none, (.fields #[(.int (3) 0), (.int (0) 0), (.ref 31)]), #[]⟩
noncomputable def ho3f (P : Params) : Obj := ⟨(.type "dict"), none, (.dict #[⟨PyData.keyHash P (Str.ofString "__name__"), (.str (Str.ofString "__name__") 165), (.str (Str.ofString "law_uc0034_01") 2288)⟩, ⟨PyData.keyHash P (Str.ofString "__doc__"), (.str (Str.ofString "__doc__") 166), .none⟩, ⟨PyData.keyHash P (Str.ofString "__package__"), (.str (Str.ofString "__package__") 167), .none⟩, ⟨PyData.keyHash P (Str.ofString "__loader__"), (.str (Str.ofString "__loader__") 168), (.builtin "__main__.__loader__#opaque")⟩, ⟨PyData.keyHash P (Str.ofString "__spec__"), (.str (Str.ofString "__spec__") 169), .none⟩, ⟨PyData.keyHash P (Str.ofString "__annotations__"), (.str (Str.ofString "__annotations__") 170), (.ref 6)⟩, ⟨PyData.keyHash P (Str.ofString "__builtins__"), (.str (Str.ofString "__builtins__") 171), (.ref 4)⟩, ⟨PyData.keyHash P (Str.ofString "__file__"), (.str (Str.ofString "__file__") 173), (.str (Str.ofString "/claim/cut.py") 172)⟩, ⟨PyData.keyHash P (Str.ofString "__cached__"), (.str (Str.ofString "__cached__") 174), .none⟩, ⟨PyData.keyHash P (Str.ofString "b1_set"), (.str (Str.ofString "b1_set") 248), (.ref 22)⟩, ⟨PyData.keyHash P (Str.ofString "in_table_b1"), (.str (Str.ofString "in_table_b1") 255), (.ref 32)⟩, ⟨PyData.keyHash P (Str.ofString "b3_exceptions"), (.str (Str.ofString "b3_exceptions") 2206), (.ref 33)⟩, ⟨PyData.keyHash P (Str.ofString "map_table_b3"), (.str (Str.ofString "map_table_b3") 2214), (.ref 78)⟩, ⟨PyData.keyHash P (Str.ofString "insort_right"), (.str (Str.ofString "insort_right") 2229), (.ref 87)⟩, ⟨PyData.keyHash P (Str.ofString "bisect_right"), (.str (Str.ofString "bisect_right") 2243), (.ref 96)⟩, ⟨PyData.keyHash P (Str.ofString "insort_left"), (.str (Str.ofString "insort_left") 2256), (.ref 105)⟩, ⟨PyData.keyHash P (Str.ofString "bisect_left"), (.str (Str.ofString "bisect_left") 2270), (.ref 114)⟩, ⟨PyData.keyHash P (Str.ofString "_strcoll"), (.str (Str.ofString "_strcoll") 2280), (.ref 121)⟩, ⟨PyData.keyHash P (Str.ofString "_strxfrm"), (.str (Str.ofString "_strxfrm") 2287), (.ref 128)⟩, ⟨PyData.keyHash P (Str.ofString "_law_family"), (.str (Str.ofString "_law_family") 2296), (.ref 135)⟩, ⟨PyData.keyHash P (Str.ofString "_law_stock"), (.str (Str.ofString "_law_stock") 2302), (.ref 140)⟩, ⟨PyData.keyHash P (Str.ofString "_law_prepared"), (.str (Str.ofString "_law_prepared") 2308), (.ref 145)⟩, ⟨PyData.keyHash P (Str.ofString "_law_codes"), (.str (Str.ofString "_law_codes") 2314), (.ref 150)⟩, ⟨PyData.keyHash P (Str.ofString "_law_way"), (.str (Str.ofString "_law_way") 2324), (.ref 157)⟩, ⟨PyData.keyHash P (Str.ofString "law"), (.str (Str.ofString "law") 2330), (.ref 162)⟩] 25), #[]⟩
noncomputable def ho12f (P : Params) : Obj := ⟨.none, none, (.fields #[(.int (3) 0), (.int (0) 0), (.ref 31), (.int (6) 0), (.int (0) 0), (.ref 77), (.int (12) 0), (.int (0) 0), (.ref 86), (.int (18) 0), (.int (0) 0), (.ref 95), (.int (38) 0), (.int (0) 0), (.ref 104), (.int (44) 0), (.int (0) 0), (.ref 113), (.int (65) 0), (.int (0) 0), (.ref 120), (.int (67) 0), (.int (0) 0), (.ref 127), (.int (70) 0), (.int (0) 0), (.ref 134), (.int (82) 0), (.int (0) 0), (.ref 139), (.int (98) 0), (.int (0) 0), (.ref 144), (.int (100) 0), (.int (0) 0), (.ref 149), (.int (102) 0), (.int (0) 0), (.ref 156), (.int (107) 0), (.int (0) 0), (.ref 161)]), #[]⟩
noncomputable def ho12p (P : Params) : Obj := ⟨.none, none, (.fields #[]), #[]⟩
noncomputable def ho33 (_ : Params) : Obj := ⟨.type "dict", none, .dict b3Ents.toArray 650, #[]⟩
noncomputable def chunkObj (j : Nat) : Obj := ⟨.type "dict", none, .dict ((b3Ents.drop (17 * j)).take 17).toArray (min 17 (650 - 17 * j)), #[]⟩
noncomputable def ho34 (_ : Params) : Obj := chunkObj 1
noncomputable def ho35 (_ : Params) : Obj := chunkObj 2
noncomputable def ho36 (_ : Params) : Obj := chunkObj 3
noncomputable def ho37 (_ : Params) : Obj := chunkObj 4
noncomputable def ho38 (_ : Params) : Obj := chunkObj 5
noncomputable def ho39 (_ : Params) : Obj := chunkObj 6
noncomputable def ho40 (_ : Params) : Obj := chunkObj 7
noncomputable def ho41 (_ : Params) : Obj := chunkObj 8
noncomputable def ho42 (_ : Params) : Obj := chunkObj 9
noncomputable def ho43 (_ : Params) : Obj := chunkObj 10
noncomputable def ho44 (_ : Params) : Obj := chunkObj 11
noncomputable def ho45 (_ : Params) : Obj := chunkObj 12
noncomputable def ho46 (_ : Params) : Obj := chunkObj 13
noncomputable def ho47 (_ : Params) : Obj := chunkObj 14
noncomputable def ho48 (_ : Params) : Obj := chunkObj 15
noncomputable def ho49 (_ : Params) : Obj := chunkObj 16
noncomputable def ho50 (_ : Params) : Obj := chunkObj 17
noncomputable def ho51 (_ : Params) : Obj := chunkObj 18
noncomputable def ho52 (_ : Params) : Obj := chunkObj 19
noncomputable def ho53 (_ : Params) : Obj := chunkObj 20
noncomputable def ho54 (_ : Params) : Obj := chunkObj 21
noncomputable def ho55 (_ : Params) : Obj := chunkObj 22
noncomputable def ho56 (_ : Params) : Obj := chunkObj 23
noncomputable def ho57 (_ : Params) : Obj := chunkObj 24
noncomputable def ho58 (_ : Params) : Obj := chunkObj 25
noncomputable def ho59 (_ : Params) : Obj := chunkObj 26
noncomputable def ho60 (_ : Params) : Obj := chunkObj 27
noncomputable def ho61 (_ : Params) : Obj := chunkObj 28
noncomputable def ho62 (_ : Params) : Obj := chunkObj 29
noncomputable def ho63 (_ : Params) : Obj := chunkObj 30
noncomputable def ho64 (_ : Params) : Obj := chunkObj 31
noncomputable def ho65 (_ : Params) : Obj := chunkObj 32
noncomputable def ho66 (_ : Params) : Obj := chunkObj 33
noncomputable def ho67 (_ : Params) : Obj := chunkObj 34
noncomputable def ho68 (_ : Params) : Obj := chunkObj 35
noncomputable def ho69 (_ : Params) : Obj := chunkObj 36
noncomputable def ho70 (_ : Params) : Obj := chunkObj 37
noncomputable def ho71 (_ : Params) : Obj := chunkObj 38
noncomputable def Hpre (P : Params) : Heap := ⟨#[boot_o_0 P, boot_o_1 P, boot_o_2 P, boot_o_3 P, boot_o_4 P, boot_o_5 P, boot_o_6 P, boot_o_7 P, boot_o_8 P, boot_o_9 P, boot_o_10 P, ho11 P, ho12p P, ho13 P, ho14 P], {}⟩
noncomputable def H3 (P : Params) : Heap := ⟨#[boot_o_0 P, boot_o_1 P, boot_o_2 P, ho3a P, boot_o_4 P, boot_o_5 P, boot_o_6 P, boot_o_7 P, boot_o_8 P, boot_o_9 P, boot_o_10 P, ho11 P, ho12a P, ho13 P, ho14 P, ho15 P, ho16 P, ho17 P, ho18 P, ho19 P, ho20 P, ho21 P, ho22 P, ho23 P, ho24 P, ho25 P, ho26 P, ho27 P, ho28 P, ho29 P, ho30 P, ho31 P, ho32 P], {}⟩
noncomputable def H4 (P : Params) : Heap := ⟨#[boot_o_0 P, boot_o_1 P, boot_o_2 P, ho3b P, boot_o_4 P, boot_o_5 P, boot_o_6 P, boot_o_7 P, boot_o_8 P, boot_o_9 P, boot_o_10 P, ho11 P, ho12b P, ho13 P, ho14 P, ho15 P, ho16 P, ho17 P, ho18 P, ho19 P, ho20 P, ho21 P, ho22 P, ho23 P, ho24 P, ho25 P, ho26 P, ho27 P, ho28 P, ho29 P, ho30 P, ho31 P, ho32 P, ho33 P, ho34 P, ho35 P, ho36 P, ho37 P, ho38 P, ho39 P, ho40 P, ho41 P, ho42 P, ho43 P, ho44 P, ho45 P, ho46 P, ho47 P, ho48 P, ho49 P, ho50 P, ho51 P, ho52 P, ho53 P, ho54 P, ho55 P, ho56 P, ho57 P, ho58 P, ho59 P, ho60 P, ho61 P, ho62 P, ho63 P, ho64 P, ho65 P, ho66 P, ho67 P, ho68 P, ho69 P, ho70 P, ho71 P], {}⟩
noncomputable def Hf (P : Params) : Heap := ⟨#[boot_o_0 P, boot_o_1 P, boot_o_2 P, ho3f P, boot_o_4 P, boot_o_5 P, boot_o_6 P, boot_o_7 P, boot_o_8 P, boot_o_9 P, boot_o_10 P, ho11 P, ho12f P, ho13 P, ho14 P, ho15 P, ho16 P, ho17 P, ho18 P, ho19 P, ho20 P, ho21 P, ho22 P, ho23 P, ho24 P, ho25 P, ho26 P, ho27 P, ho28 P, ho29 P, ho30 P, ho31 P, ho32 P, ho33 P, ho34 P, ho35 P, ho36 P, ho37 P, ho38 P, ho39 P, ho40 P, ho41 P, ho42 P, ho43 P, ho44 P, ho45 P, ho46 P, ho47 P, ho48 P, ho49 P, ho50 P, ho51 P, ho52 P, ho53 P, ho54 P, ho55 P, ho56 P, ho57 P, ho58 P, ho59 P, ho60 P, ho61 P, ho62 P, ho63 P, ho64 P, ho65 P, ho66 P, ho67 P, ho68 P, ho69 P, ho70 P, ho71 P, ho72 P, ho73 P, ho74 P, ho75 P, ho76 P, ho77 P, ho78 P, ho79 P, ho80 P, ho81 P, ho82 P, ho83 P, ho84 P, ho85 P, ho86 P, ho87 P, ho88 P, ho89 P, ho90 P, ho91 P, ho92 P, ho93 P, ho94 P, ho95 P, ho96 P, ho97 P, ho98 P, ho99 P, ho100 P, ho101 P, ho102 P, ho103 P, ho104 P, ho105 P, ho106 P, ho107 P, ho108 P, ho109 P, ho110 P, ho111 P, ho112 P, ho113 P, ho114 P, ho115 P, ho116 P, ho117 P, ho118 P, ho119 P, ho120 P, ho121 P, ho122 P, ho123 P, ho124 P, ho125 P, ho126 P, ho127 P, ho128 P, ho129 P, ho130 P, ho131 P, ho132 P, ho133 P, ho134 P, ho135 P, ho136 P, ho137 P, ho138 P, ho139 P, ho140 P, ho141 P, ho142 P, ho143 P, ho144 P, ho145 P, ho146 P, ho147 P, ho148 P, ho149 P, ho150 P, ho151 P, ho152 P, ho153 P, ho154 P, ho155 P, ho156 P, ho157 P, ho158 P, ho159 P, ho160 P, ho161 P, ho162 P], {}⟩
noncomputable def topBody : List Stmt := behindTheImports pw
noncomputable def topEnv : Env := { scope := pw.main.scope, locals := mainNs, globals := mainNs, cells := [], code := .ref 13, frame := some 14 }
noncomputable def p0 : Pos := ⟨0, 0, 0, 0⟩
noncomputable def annV : Option Value := some (.ref 6)
noncomputable abbrev g0 : Array GenState := Array.mk []
theorem t_pre : ∀ (w : World) (os : OsState), topGo treeTable pw w 11 annV 12 ⟨boot_heap w.params, g0, boot_drawn, boot_toks, os⟩ (topStub pw) =
    some (⟨Hpre w.params, g0, boot_drawn, 187, os⟩, ⟨denote treeTable (.body topBody topEnv), .body topBody topEnv, p0, [topFrame p0]⟩) := by
  intro w os; kernel_rfl
theorem t_blk : ∀ (w : World) (os : OsState), segRun treeTable pw w 11 annV 1 1 ⟨Hpre w.params, g0, boot_drawn, 187, os⟩ (blockOf topBody topEnv (.body topBody topEnv) p0 [topFrame p0]) =
    some (.next, ⟨Hpre w.params, g0, boot_drawn, 187, os⟩, .body topBody topEnv, p0) := by
  intro w os; kernel_rfl
noncomputable def st0 : List Stmt := topBody.take 3
noncomputable def dictSt : Stmt := (topBody[3]?).getD (.Pass p0)
noncomputable def st2 : List Stmt := topBody.drop 4
theorem t_body : topBody = st0 ++ (dictSt :: (st2 ++ [])) := by kernel_rfl
end Mine
end
namespace Mine
open PySem PySem.W PySem.Calls PyProof.Rows
theorem t_s2' : ∀ (w : World), (fun os => segRun treeTable pw w 11 annV 1 600 ⟨H4 w.params, g0, boot_drawn, 2207, os⟩ (piecesOf st2 topEnv (.body topBody topEnv) ⟨5, 0, 5, 13⟩ [topFrame p0])) =
    fun os => some (.next, ⟨Hf w.params, g0, boot_drawn, 2331, os⟩, .body topBody topEnv, ⟨107, 0, 171, 92⟩) := by
  intro w; kernel_rfl
end Mine
namespace Mine
open PySem PySem.W PySem.Calls PyProof.Rows
theorem segRun_tw : @segRun = @PySem.W.Fast.tw14374325043358763698 := PySem.W.Fast.te14374325043358763698
theorem treeTable_tw0 : treeTable = PySem.W.Fast.tw14364793385576792824 := PySem.W.Fast.te14364793385576792824
noncomputable def S0 (w : World) : Prop := (fun os => PySem.W.Fast.tw14374325043358763698 PySem.W.Fast.tw14364793385576792824 pw w 11 annV 1 1100 ⟨Hpre w.params, g0, boot_drawn, 187, os⟩ (piecesOf st0 topEnv (.body topBody topEnv) p0 [topFrame p0])) =
    fun os => some (.next, ⟨H3 w.params, g0, boot_drawn, 256, os⟩, .body topBody topEnv, ⟨3, 0, 4, 30⟩)
theorem s0_ff (w : World) : S0 ((w.withFollow "special-get-raises" false).withFollow "set-order" false) := by
  unfold S0; kernel_rfl
theorem s0_tf (w : World) : S0 ((w.withFollow "special-get-raises" true).withFollow "set-order" false) := by
  unfold S0; kernel_rfl
theorem s0_ft (w : World) : S0 ((w.withFollow "special-get-raises" false).withFollow "set-order" true) := by
  unfold S0; kernel_rfl
theorem s0_tt (w : World) : S0 ((w.withFollow "special-get-raises" true).withFollow "set-order" true) := by
  unfold S0; kernel_rfl
theorem s0_all (w : World) : S0 w := byRow2 "set-order" (byRow2 "special-get-raises" s0_ff s0_tf) (byRow2 "special-get-raises" s0_ft s0_tt) w
theorem t_s0 : ∀ (w : World), (fun os => segRun treeTable pw w 11 annV 1 1100 ⟨Hpre w.params, g0, boot_drawn, 187, os⟩ (piecesOf st0 topEnv (.body topBody topEnv) p0 [topFrame p0])) =
    fun os => some (.next, ⟨H3 w.params, g0, boot_drawn, 256, os⟩, .body topBody topEnv, ⟨3, 0, 4, 30⟩) := by
  rw [segRun_tw, treeTable_tw0]
  intro w
  exact s0_all w
end Mine
namespace Mine
open PySem PySem.W PySem.Calls PyProof.Rows
theorem topGo_add {tb : String → Option Builtin} {p : Program} {w : World} {n₀ : Nat} {ann : Option Value} : ∀ {n k : Nat} {s s1 : Shared} {t t1 : Thread} {r : Option (Shared × Thread)},
    topGo tb p w n₀ ann n s t = some (s1, t1) → topGo tb p w n₀ ann k s1 t1 = r → topGo tb p w n₀ ann (n + k) s t = r
  | 0, k, s, s1, t, t1, r, h, g => by
    obtain ⟨rfl, rfl⟩ : s = s1 ∧ t = t1 := by simpa [topGo] using h
    rw [Nat.zero_add]; exact g
  | n + 1, k, s, s1, t, t1, r, h, g => by
    rw [show n + 1 + k = n + k + 1 by omega]
    unfold topGo at h ⊢
    cases ht : through t with
    | true => rw [ht] at h; cases h
    | false =>
      rw [ht] at h
      cases hk : stepOk n₀ ann t with
      | false => rw [hk] at h; cases h
      | true =>
        rw [hk] at h
        cases hs : step (denote tb) p w s t with
        | halt o s2 => rw [hs] at h; cases h
        | go s2 t2 => rw [hs] at h; exact topGo_add h g
noncomputable abbrev Cc : Code := .body topBody topEnv
noncomputable abbrev thr (x : Sem Fin) (p : Pos) : Thread := ⟨x, Cc, p, [topFrame p0]⟩
noncomputable abbrev tGo (w : World) (n : Nat) (s : Shared) (t : Thread) := topGo treeTable pw w 11 annV n s t
/-- a tree runs, in at most B steps of the machine, from s to s', and gives a -/
noncomputable def R (w : World) (B : Nat) {α : Type} (m : Sem α) (s : Shared) (p : Pos) (a : α) (s' : Shared) (p' : Pos) : Prop :=
  ∀ (K : α → Sem Fin) (H : Value → Sem Fin) (gd : Bool → Bool) (lv : List Value → List Value), ∃ n, n ≤ B ∧ tGo w n s (thr (m.wrap K H gd lv) p) = some (s', thr (K a) p')
section
variable {w : World} {α β : Type} {B B' : Nat} {m : Sem α} {f : α → Sem β} {s s1 s2 : Shared} {p p1 p2 : Pos} {a : α} {b : β}
theorem R.mono (h : R w B m s p a s1 p1) (hB : B ≤ B') : R w B' m s p a s1 p1 := fun K H gd lv => by
  obtain ⟨n, hn, e⟩ := h K H gd lv; exact ⟨n, Nat.le_trans hn hB, e⟩
theorem R.pure : R w 0 (pure a) s p a s p := fun _ _ _ _ => ⟨0, Nat.le_refl _, rfl⟩
theorem R.bind (h : R w B m s p a s1 p1) (k : R w B' (f a) s1 p1 b s2 p2) : R w (B + B') (m >>= f) s p b s2 p2 := fun K H gd lv => by
  rw [Sem.bind_eq_wrap', Sem.wrap_wrap]
  obtain ⟨n, hn, e⟩ := h (fun a => (f a).wrap K H gd lv) (fun e => (Sem.raise e : Sem β).wrap K H gd lv) (fun g => gd (id g)) (fun l => lv (id l))
  obtain ⟨n', hn', e'⟩ := k K H gd lv
  exact ⟨n + n', Nat.add_le_add hn hn', topGo_add e e'⟩
theorem R.keep {vs : List Value} (h : R w B m s p a s1 p1) : R w B (m.keep vs) s p a s1 p1 := fun K H gd lv => by
  rw [Sem.keep_eq_wrap, Sem.wrap_wrap]; exact h K _ _ _
theorem R.holding {vs : List Value} (h : R w B m s p a s1 p1) : R w B (holding vs m) s p a s1 p1 := by
  unfold PySem.holding
  split
  · exact h
  · exact h.keep
theorem R.onRaise {hh : Value → Sem Unit} (h : R w B m s p a s1 p1) : R w B (m.onRaise hh) s p a s1 p1 := fun K H gd lv => by
  rw [Sem.onRaise_eq_wrap, Sem.wrap_wrap]; exact h K _ _ _
theorem R.of_eq {m' : Sem α} (e : m = m') (h : R w B m' s p a s1 p1) : R w B m s p a s1 p1 := e ▸ h
theorem R.of_step {m : Sem α} {m' : Sem α} {s' : Shared} {p' : Pos}
    (e : ∀ (K : α → Sem Fin) (H : Value → Sem Fin) (gd : Bool → Bool) (lv : List Value → List Value), tGo w 1 s (thr (m.wrap K H gd lv) p) = some (s', thr (m'.wrap K H gd lv) p'))
    (h : R w B m' s' p' a s1 p1) : R w (B + 1) m s p a s1 p1 := fun K H gd lv => by
  obtain ⟨n, hn, e'⟩ := h K H gd lv
  exact ⟨1 + n, by omega, topGo_add (e K H gd lv) e'⟩
end
section
variable {w : World} {α : Type} {B : Nat} {s s1 : Shared} {p p1 : Pos} {a : α}
theorem R.load {d : Addr} {part : Option Value} {k : Obj → Sem α} {o : Obj} (ho : s.heap.get? d = some o) (h : R w B (k o) s p a s1 p1) : R w (B + 1) (.load d part k) s p a s1 p1 :=
  .of_step (fun K H gd lv => by
    obtain ⟨heap, gens, drawn, toks, os⟩ := s
    show topGo _ _ _ _ _ (0 + 1) _ _ = _
    unfold topGo
    have e : step (denote treeTable) pw w ⟨heap, gens, drawn, toks, os⟩ (thr ((Sem.load d part k).wrap K H gd lv) p) = .go ⟨heap, gens, drawn, toks, os⟩ (thr ((k o).wrap K H gd lv) p) := by
      show (match heap.get? d with | some o => _ | none => _) = _
      rw [ho]
    rw [e]; rfl) h
theorem R.update {d : Addr} {part : Option Value} {g : Obj → Obj} {k : Unit → Sem α} {o : Obj} (hd : 11 ≤ d) (ho : s.heap.get? d = some o) (h : R w B (k ()) { s with heap := s.heap.update d g } p a s1 p1) : R w (B + 1) (.update d part g k) s p a s1 p1 :=
  .of_step (fun K H gd lv => by
    obtain ⟨heap, gens, drawn, toks, os⟩ := s
    show topGo _ _ _ _ _ (0 + 1) _ _ = _
    unfold topGo
    have e : step (denote treeTable) pw w ⟨heap, gens, drawn, toks, os⟩ (thr ((Sem.update d part g k).wrap K H gd lv) p) = .go ⟨heap.update d g, gens, drawn, toks, os⟩ (thr ((k ()).wrap K H gd lv) p) := by
      show (if (heap.get? d).isSome then _ else _) = _
      rw [ho]; rfl
    have e2 : stepOk 11 annV (thr ((Sem.update d part g k).wrap K H gd lv) p) = true := by
      show (Thread.calm _ && (Nat.ble 11 d || d == mainNs || d == cStatics || annV == some (.ref d))) = true
      rw [Nat.ble_eq_true_of_le hd]; rfl
    rw [e, e2]; rfl) h
theorem R.alloc {k : Addr → Sem α} {o : Obj} (h : R w B (k s.heap.objs.size) { s with heap := s.heap.push o } p a s1 p1) : R w (B + 1) (.alloc o k) s p a s1 p1 := .of_step (fun _ _ _ _ => rfl) h
theorem R.fresh {k : Tok → Sem α} (h : R w B (k s.toks) { s with toks := s.toks + 1 } p a s1 p1) : R w (B + 1) (.fresh k) s p a s1 p1 := .of_step (fun _ _ _ _ => rfl) h
theorem R.rule {tag : String} {k : Unit → Sem α} (h : R w B (k ()) s p a s1 p1) : R w (B + 1) (.rule tag k) s p a s1 p1 := .of_step (fun _ _ _ _ => rfl) h
theorem R.at {q : Pos} {k : Unit → Sem α} (h : R w B (k ()) s q a s1 p1) : R w (B + 1) (.at q k) s p a s1 p1 := .of_step (fun _ _ _ _ => rfl) h
theorem R.point {l : List Value} {k : Unit → Sem α} (h : R w B (k ()) s p a s1 p1) : R w (B + 1) (.point l k) s p a s1 p1 := .of_step (fun _ _ _ _ => rfl) h
end
end Mine
namespace Mine
open PySem PySem.W PySem.Calls PyProof.Rows
theorem treeTable_tw : treeTable = PySem.W.Fast.tw14364793385576792824 := PySem.W.Fast.te14364793385576792824
theorem topGo_tw : @topGo = @PySem.W.Fast.tw15667345088766844465 := PySem.W.Fast.te15667345088766844465
noncomputable def hI (i : Int) : Int :=
  let h : Int := i.natAbs % (2 ^ 61 - 1 : Nat)
  let h := if i < 0 then -h else h
  if h == -1 then -2 else h
theorem hI_small {i : Int} (h0 : 0 ≤ i) (h1 : i < 2 ^ 60) : hI i = i := by
  unfold hI
  have e : ((i.natAbs : Int) % ((2 ^ 61 - 1 : Nat) : Int)) = i := by
    have e0 : ((2 ^ 61 - 1 : Nat) : Int) = 2305843009213693951 := by decide
    have e1 : (i.natAbs : Int) = i := by omega
    rw [e0, e1]
    exact Int.emod_eq_of_lt h0 (Int.lt_of_lt_of_le h1 (by decide))
  simp only [e]
  have e2 : ¬ (i == -1) = true := by simp; omega
  rw [if_neg (show ¬ i < 0 by omega), if_neg e2]
theorem reduced_small {i : Int} (h0 : 0 ≤ i) (h1 : i < 2 ^ 60) : pyHashByItsType.reduced i = pure i := by
  unfold pyHashByItsType.reduced
  have e : (decide (-(2 ^ 63 : Int) ≤ i) && decide (i < 2 ^ 63)) = true := by simp; omega
  have e2 : (i == -1) = false := by simp; omega
  simp only [e, e2, if_true, Bool.false_eq_true, if_false]
theorem hash5 (b : Bool) : ∀ (w : World) (i : Int) (t : Tok) (heap : Heap) (gens : Array GenState) (drawn : Drawn) (toks : Nat) (os : OsState) (p : Pos) (K : Int → Sem PySem.Fin) (H : Value → Sem PySem.Fin) (gd : Bool → Bool) (lv : List Value → List Value),
    topGo treeTable pw (w.withFollow "special-get-raises" b) 11 annV 5 ⟨heap, gens, drawn, toks, os⟩ (thr ((pyHash (.int i t)).wrap K H gd lv) p) =
      some (⟨heap, gens, drawn, toks + 1, os⟩, thr ((pyHashByItsType.reduced (hI i)).wrap K H gd lv) p) := by
  rw [topGo_tw, treeTable_tw]
  cases b
  · intro w i t heap gens drawn toks os p K H gd lv; kernel_rfl
  · intro w i t heap gens drawn toks os p K H gd lv; kernel_rfl
theorem R_hash {w : World} {s : Shared} {p : Pos} {i : Int} {t : Tok} (h0 : 0 ≤ i) (h1 : i < 2 ^ 60) : R w 5 (pyHash (.int i t)) s p i { s with toks := s.toks + 1 } p := fun K H gd lv => by
  refine ⟨5, Nat.le_refl _, ?_⟩
  obtain ⟨heap, gens, drawn, toks, os⟩ := s
  have := hash5 (w.params.followText "special-get-raises") w i t heap gens drawn toks os p K H gd lv
  rw [World.withFollow_self, hI_small h0 h1, reduced_small h0 h1] at this
  exact this
end Mine
namespace Mine
open PySem PySem.W PySem.Calls PyProof.Rows
noncomputable def dO (es : List DictEntry) : Obj := ⟨.type "dict", none, .dict es.toArray es.length, #[]⟩
noncomputable def entAt (i : Int) (t : Nat) (x : Str) : DictEntry := ⟨i, .int i t, .str x (t + 1)⟩
noncomputable def entsL : Nat → List (Int × Str) → List DictEntry
  | _, [] => []
  | k, (i, x) :: r => entAt i k x :: entsL (k + 3) r
noncomputable def entsS : Nat → List (Int × Str) → List DictEntry
  | _, [] => []
  | k, (i, x) :: r => entAt i k x :: entsS (k + 2) r
noncomputable def Small (i : Int) : Prop := 0 ≤ i ∧ i < 2 ^ 60
noncomputable def NewKey (es : List DictEntry) (i : Int) : Prop := ∀ e ∈ es, e.hash ≠ i
theorem places_nil {es : List DictEntry} {i : Int} (h : NewKey es i) : placesWithHash es.toArray.size (fun j => es.toArray[j]?.map (·.hash)) i = [] := by
  unfold placesWithHash
  rw [List.filter_eq_nil_iff]
  intro j hj
  show ¬ ((es.toArray[j]?.map (·.hash)) == some i) = true
  rw [List.getElem?_toArray]
  cases q : es[j]? with
  | none => simp
  | some e =>
    have := h e (List.mem_of_getElem? q)
    simp [this]
section
variable {w : World} {s : Shared} {p : Pos} {d : Addr} {es : List DictEntry} {i : Int} {t : Tok} {v : Value}
theorem R_dictFind (ho : s.heap.get? d = some (dO es)) (hn : NewKey es i) : R w 1 (dictFind d (.int i t) i) s p none s p := by
  unfold dictFind
  refine R.holding ?_
  refine R.bind (B := 1) (B' := 0) (a := es.toArray) (s1 := s) (p1 := p) ?_ ?_
  · unfold dictEntries
    exact R.bind (B := 1) (B' := 0) (a := dO es) (R.load ho R.pure) R.pure
  · dsimp only
    rw [places_nil hn]
    exact R.pure
noncomputable def addEnt (e : DictEntry) (o : Obj) : Obj := Obj.mapDictKeys (·.push e) o
theorem addEnt_dO (e : DictEntry) (es : List DictEntry) : addEnt e (dO es) = dO (es ++ [e]) := by
  show (⟨.type "dict", none, .dict (es.toArray.push e) (es.length + 1), #[]⟩ : Obj) = _
  unfold dO
  rw [List.push_toArray, List.length_append]
  rfl
theorem R_addKeys {e : DictEntry} {part : Option Value} {h' : Heap} (hd : 11 ≤ d) (ho : s.heap.get? d = some (dO es)) (hu : s.heap.update d (Obj.mapDictKeys (·.push e)) = h') (ho' : h'.get? d = some (dO (es ++ [e]))) (hz : es.length < 1000) :
    R w 3 (updateDictKeys d (·.push e) part) s p () { s with heap := h' } p := by
  unfold updateDictKeys
  refine R.bind (B := 1) (B' := 2) (a := dO es) (R.load ho R.pure) ?_
  show R w 2 (do updatePart d part (Obj.mapDictKeys (·.push e)); lookBehind d part) s p () { s with heap := h' } p
  refine R.bind (B := 1) (B' := 1) (a := ()) (s1 := { s with heap := h' }) (p1 := p) ?_ ?_
  · unfold updatePart; exact R.update hd ho (hu ▸ R.pure)
  · unfold lookBehind
    refine R.bind (B := 1) (B' := 0) (a := dO (es ++ [e])) (R.load ho' R.pure) ?_
    have : (dO (es ++ [e])).data.pastItsLine = none := by
      show (if (es ++ [e]).toArray.size > sizeLine + 1 then _ else _) = _
      rw [if_neg]
      rw [List.size_toArray, List.length_append, sizeLine_eq]; simp; omega
    rw [this]
    exact R.pure
theorem R_dictSet {h' : Heap} (hi : Small i) (hd : 11 ≤ d) (ho : s.heap.get? d = some (dO es)) (hn : NewKey es i) (hu : s.heap.update d (Obj.mapDictKeys (·.push ⟨i, .int i t, v⟩)) = h') (ho' : h'.get? d = some (dO (es ++ [⟨i, .int i t, v⟩]))) (hz : es.length < 1000) :
    R w 10 (dictSet d (.int i t) v) s p () { s with heap := h', toks := s.toks + 1 } p := by
  unfold dictSet
  refine R.holding ?_
  refine R.bind (B := 5) (B' := 5) (a := i) (R_hash hi.1 hi.2) ?_
  unfold dictSetHashed
  refine R.holding ?_
  refine R.bind (B := 1) (B' := 4) (a := none) (s1 := { s with toks := s.toks + 1 }) (p1 := p) (R_dictFind (es := es) ho hn) ?_
  show R w 4 (do rule "dict.set.new-key-at-the-end"; updateDictKeys d (·.push ⟨i, .int i t, v⟩) (keyPart (.int i t))) _ p () _ p
  refine R.bind (B := 1) (B' := 3) (a := ()) (s1 := { s with toks := s.toks + 1 }) (p1 := p) (R.rule R.pure) ?_
  exact R_addKeys (s := { s with toks := s.toks + 1 }) hd ho hu ho' hz
theorem R_dictPut {h' : Heap} (hd : 11 ≤ d) (ho : s.heap.get? d = some (dO es)) (hn : NewKey es i) (hu : s.heap.update d (Obj.mapDictKeys (·.push ⟨i, .int i t, v⟩)) = h') (ho' : h'.get? d = some (dO (es ++ [⟨i, .int i t, v⟩]))) (hz : es.length < 1000) :
    R w 4 (dictPut d i (.int i t) v) s p () { s with heap := h' } p := by
  unfold dictPut
  refine R.bind (B := 1) (B' := 3) (a := none) (R_dictFind ho hn) ?_
  exact R_addKeys hd ho hu ho' hz
end
/-- the heap: what stood, the display's own dict, the others -/
noncomputable def mkH (A : List Obj) (m : Obj) (r : List Obj) : Heap := ⟨(A ++ m :: r).toArray, {}⟩
theorem mkH_size (A m r) : (mkH A m r).objs.size = A.length + 1 + r.length := by simp [mkH]; omega
theorem mkH_push (A m r o) : (mkH A m r).push o = mkH A m (r ++ [o]) := by simp [mkH, Heap.push]
theorem modify_mid {α : Type} (A B : List α) (x : α) (f : α → α) : (A ++ x :: B).modify A.length f = A ++ f x :: B := by
  induction A with
  | nil => simp
  | cons a A ih => simp [ih]
theorem getq_list {l : List Obj} {i : Nat} {o : Obj} (h : l[i]? = some o) (hf : o.isFreed = false) : (⟨l.toArray, {}⟩ : Heap).get? i = some o :=
  Heap.get?_some_iff.mpr ⟨by rw [List.getElem?_toArray]; exact h, hf⟩
theorem mkH_main (A r) (es : List DictEntry) : (mkH A (dO es) r).get? A.length = some (dO es) := getq_list (by simp) rfl
theorem mkH_last (A m r) (es : List DictEntry) : (mkH A m (r ++ [dO es])).get? (A.length + 1 + r.length) = some (dO es) := getq_list (by
  rw [List.getElem?_append_right (by omega)]
  have : A.length + 1 + r.length - A.length = r.length + 1 := by omega
  rw [this]; simp) rfl
theorem mkH_upd (A m r f) : (mkH A m r).update A.length f = mkH A (f m) r := by
  simp only [mkH, Heap.update, List.modify_toArray, modify_mid]
theorem mkH_updLast (A m r o f) : (mkH A m (r ++ [o])).update (A.length + 1 + r.length) f = mkH A m (r ++ [f o]) := by
  have e : A ++ m :: (r ++ [o]) = (A ++ m :: r) ++ o :: [] := by simp
  have e' : A ++ m :: (r ++ [f o]) = (A ++ m :: r) ++ f o :: [] := by simp
  have l : A.length + 1 + r.length = (A ++ m :: r).length := by simp; omega
  simp only [mkH, Heap.update, List.modify_toArray]
  rw [e, e', l, modify_mid]
section
variable {w : World} {s : Shared} {p q : Pos}
noncomputable def kTree (i : Int) : Sem Value := mkInt i
noncomputable def vTree (x : Str) (q : Pos) : Sem Value := do let v ← mkText x; standAt q; pure v
noncomputable def pairT (q : Pos) (c : Int × Str) : Sem Value × Sem Value := (kTree c.1, vTree c.2 q)
theorem R_kTree {i : Int} : R w 1 (kTree i) s p (.int i s.toks) { s with toks := s.toks + 1 } p := R.fresh R.pure
theorem R_vTree {x : Str} : R w 2 (vTree x q) s p (.str x s.toks) { s with toks := s.toks + 1 } q := by
  unfold vTree
  exact R.bind (B := 1) (B' := 1) (a := .str x s.toks) (s1 := { s with toks := s.toks + 1 }) (p1 := p) (R.fresh R.pure) (R.bind (B := 1) (B' := 0) (a := ()) (R.at R.pure) R.pure)
theorem R_forIn {α β : Type} {B : Nat} {f : α → β → Sem (ForInStep β)} (I : Nat → β → Shared → Pos → Prop) : ∀ (l : List α) (n : Nat) (b : β) (s : Shared) (p : Pos), I n b s p →
    (∀ j x b s p, l[j]? = some x → I (n + j) b s p → ∃ b' s' p', R w B (f x b) s p (.yield b') s' p' ∧ I (n + j + 1) b' s' p') →
    ∃ b' s' p', R w (B * l.length) (forIn l b f) s p b' s' p' ∧ I (n + l.length) b' s' p'
  | [], n, b, s, p, h, _ => ⟨b, s, p, by rw [List.forIn_nil]; exact R.pure, by simpa using h⟩
  | x :: l, n, b, s, p, h, step => by
    obtain ⟨b1, s1, p1, h1, i1⟩ := step 0 x b s p rfl h
    obtain ⟨b2, s2, p2, h2, i2⟩ := R_forIn I l (n + 1) b1 s1 p1 i1 fun j y b s p hy hI => by
      have e : n + 1 + j = n + (j + 1) := by omega
      have := step (j + 1) y b s p (by simpa using hy) (by rw [← e]; exact hI)
      rw [← e] at this
      exact this
    refine ⟨b2, s2, p2, ?_, by rw [List.length_cons, show n + (l.length + 1) = n + 1 + l.length by omega]; exact i2⟩
    rw [List.forIn_cons]
    refine (R.bind (B := B) (B' := B * l.length) h1 h2).mono ?_
    rw [List.length_cons, Nat.mul_add]; omega
end
theorem entsL_append : ∀ (k : Nat) (a b : List (Int × Str)), entsL k (a ++ b) = entsL k a ++ entsL (k + 3 * a.length) b
  | k, [], b => by simp [entsL]
  | k, (i, x) :: a, b => by
    simp only [List.cons_append, entsL, entsL_append (k + 3) a b, List.length_cons]
    rw [show k + 3 + 3 * a.length = k + 3 * (a.length + 1) by omega]
theorem entsL_length : ∀ (k : Nat) (a : List (Int × Str)), (entsL k a).length = a.length
  | _, [] => rfl
  | k, (i, x) :: a => by simp [entsL, entsL_length]
theorem entsS_length : ∀ (k : Nat) (a : List (Int × Str)), (entsS k a).length = a.length
  | _, [] => rfl
  | k, (i, x) :: a => by simp [entsS, entsS_length]
theorem entsL_hash : ∀ (k : Nat) (a : List (Int × Str)) (e : DictEntry), e ∈ entsL k a → ∃ c ∈ a, e.hash = c.1
  | _, [], e, h => by simp [entsL] at h
  | k, (i, x) :: a, e, h => by
    simp only [entsL, List.mem_cons] at h
    rcases h with rfl | h
    · exact ⟨(i, x), List.mem_cons_self, rfl⟩
    · obtain ⟨c, hc, he⟩ := entsL_hash (k + 3) a e h
      exact ⟨c, List.mem_cons_of_mem _ hc, he⟩
theorem entsS_hash : ∀ (k : Nat) (a : List (Int × Str)) (e : DictEntry), e ∈ entsS k a → ∃ c ∈ a, e.hash = c.1
  | _, [], e, h => by simp [entsS] at h
  | k, (i, x) :: a, e, h => by
    simp only [entsS, List.mem_cons] at h
    rcases h with rfl | h
    · exact ⟨(i, x), List.mem_cons_self, rfl⟩
    · obtain ⟨c, hc, he⟩ := entsS_hash (k + 2) a e h
      exact ⟨c, List.mem_cons_of_mem _ hc, he⟩
end Mine
namespace Mine
open PySem PySem.W PySem.Calls PyProof.Rows
theorem push_upd (h : Heap) (o : Obj) (f : Obj → Obj) : (h.push o).update h.objs.size f = h.push (f o) := by
  obtain ⟨⟨l⟩, lf⟩ := h
  have := modify_mid l [] o f
  simp only [Heap.push, Heap.update, List.push_toArray, List.size_toArray, List.modify_toArray, this]
theorem dO_get (h : Heap) (es : List DictEntry) : (h.push (dO es)).get? h.objs.size = some (dO es) := Heap.get?_push_size _ rfl
/-- the keys: small, none twice -/
noncomputable def Keys (l : List (Int × Str)) : Prop := (∀ c ∈ l, Small c.1) ∧ (l.map (·.1)).Nodup
section
variable {w : World} {s : Shared} {p q : Pos}
theorem R_store {h : Heap} {es : List DictEntry} {i : Int} {t : Tok} {v : Value} (hh : s.heap = h.push (dO es)) (hd : 11 ≤ h.objs.size) (hi : Small i) (hn : NewKey es i) (hz : es.length < 1000) :
    R w 10 (dictSet h.objs.size (.int i t) v) s p () { s with heap := h.push (dO (es ++ [⟨i, .int i t, v⟩])), toks := s.toks + 1 } p := by
  refine R_dictSet (es := es) hi hd (by rw [hh]; exact dO_get h es) hn ?_ (dO_get h _) hz
  rw [hh, push_upd]
  exact congrArg h.push (addEnt_dO _ _)
theorem take_succ' {α : Type} {l : List α} {j : Nat} {x : α} (h : l[j]? = some x) : l.take (j + 1) = l.take j ++ [x] := by
  rw [List.take_add_one, h]; rfl
theorem newKey_take {cs : List (Int × Str)} {k j : Nat} {c : Int × Str} (hk : Keys cs) (hj : cs[j]? = some c) : NewKey (entsL k (cs.take j)) c.1 := by
  intro e he heq
  obtain ⟨c', hc', hh⟩ := entsL_hash _ _ _ he
  have hlt : j < cs.length := (List.getElem?_eq_some_iff.mp hj).1
  obtain ⟨j', hj', hcj⟩ := List.mem_iff_getElem.mp hc'
  rw [List.length_take] at hj'
  have hj2 : j' < j := by omega
  have e1 : (cs.map (·.1))[j']'(by simp; omega) = (cs.map (·.1))[j]'(by simp; omega) := by
    have a : cs[j]'hlt = c := (List.getElem?_eq_some_iff.mp hj).2
    simp only [List.getElem_map]
    rw [a]
    have b : cs[j']'(by omega) = c' := by rw [← hcj]; simp
    rw [b, ← hh, heq]
  have := (List.getElem_inj hk.2).mp e1
  omega
theorem R_subLong {h : Heap} {cs : List (Int × Str)} (hh : s.heap = h) (hd : 11 ≤ h.objs.size) (hk : Keys cs) (hl : 15 < cs.length) (hl2 : cs.length < 900) :
    ∃ p', R w (2 + 13 * cs.length) (subDict (cs.map (pairT q))) s p h.objs.size { s with heap := h.push (dO (entsL s.toks cs)), toks := s.toks + 3 * cs.length } p' := by
  subst hh
  obtain ⟨b', s', p', hR, hI⟩ := R_forIn (w := w) (B := 13) (f := fun (x : Sem Value × Sem Value) (_ : PUnit) => (do
      let kv ← x.1
      let vv ← holding [kv] x.2
      holding [kv, vv] (dictSet s.heap.objs.size kv vv)
      pure (ForInStep.yield PUnit.unit) : Sem (ForInStep PUnit)))
    (fun n b s' _ => s' = { s with heap := s.heap.push (dO (entsL s.toks (cs.take n))), toks := s.toks + 3 * n }) (cs.map (pairT q)) 0 PUnit.unit
    { s with heap := s.heap.push (dO []) } p (by simp [entsL]) (fun j x b s1 p1 hx hI => by
      rw [Nat.zero_add] at hI
      subst hI
      rw [List.getElem?_map] at hx
      cases hc : cs[j]? with
      | none => rw [hc] at hx; simp at hx
      | some c =>
        rw [hc] at hx
        obtain rfl : pairT q c = x := by simpa using hx
        have hj : j < cs.length := (List.getElem?_eq_some_iff.mp hc).1
        refine ⟨PUnit.unit, _, q, R.mono (R.bind (B := 1) (B' := 12) R_kTree (R.bind (B := 2) (B' := 10) (R.holding R_vTree) (R.bind (B := 10) (B' := 0) (a := ()) (R.holding (R_store (h := s.heap) (es := entsL s.toks (cs.take j)) rfl hd ?_ ?_ ?_)) R.pure))) (by omega), ?_⟩
        · exact hk.1 c (List.mem_of_getElem? hc)
        · exact newKey_take hk hc
        · rw [entsL_length, List.length_take]; omega
        · dsimp only
          rw [Nat.zero_add, take_succ' hc, entsL_append, List.length_take, Nat.min_eq_left (by omega)]
          congr 1)
  rw [Nat.zero_add, List.length_map, List.take_length] at hI
  refine ⟨p', ?_⟩
  unfold subDict
  refine R.mono (R.bind (B := 1) (B' := 1 + 13 * cs.length) (a := s.heap.objs.size) (s1 := { s with heap := s.heap.push (dO []) }) (p1 := p) (R.alloc R.pure) ?_) (by omega)
  refine R.bind (B := 1 + 13 * cs.length) (B' := 0) (a := ()) (p1 := p') (R.holding ?_) R.pure
  rw [if_neg (by rw [List.length_map]; omega)]
  refine R.bind (B := 1) (B' := 13 * cs.length) (a := ()) (R.rule R.pure) ?_
  rw [← hI]
  rw [List.length_map] at hR
  exact R.bind (B := 13 * cs.length) (B' := 0) hR R.pure
noncomputable def valsS (q : Pos) : Nat → List (Int × Str) → List (Value × Value)
  | _, [] => []
  | k, (i, x) :: r => (.int i k, .str x (k + 1)) :: valsS q (k + 2) r
theorem valsS_get (q : Pos) : ∀ (k : Nat) (cs : List (Int × Str)) (j : Nat), (valsS q k cs)[j]? = (cs[j]?).map fun c => (.int c.1 (k + 2 * j), .str c.2 (k + 2 * j + 1))
  | _, [], j => by simp [valsS]
  | k, (i, x) :: r, 0 => by simp [valsS]
  | k, (i, x) :: r, j + 1 => by
    simp only [valsS, List.getElem?_cons_succ, valsS_get q (k + 2) r j]
    rw [show k + 2 + 2 * j = k + 2 * (j + 1) by omega]
theorem valsS_length (q : Pos) : ∀ (k : Nat) (cs : List (Int × Str)), (valsS q k cs).length = cs.length
  | _, [] => rfl
  | k, (i, x) :: r => by simp [valsS, valsS_length]
theorem entsS_append : ∀ (k : Nat) (a b : List (Int × Str)), entsS k (a ++ b) = entsS k a ++ entsS (k + 2 * a.length) b
  | k, [], b => by simp [entsS]
  | k, (i, x) :: a, b => by
    simp only [List.cons_append, entsS, entsS_append (k + 2) a b, List.length_cons]
    rw [show k + 2 + 2 * a.length = k + 2 * (a.length + 1) by omega]
theorem newKeyS_take {cs : List (Int × Str)} {k j : Nat} {c : Int × Str} (hk : Keys cs) (hj : cs[j]? = some c) : NewKey (entsS k (cs.take j)) c.1 := by
  intro e he heq
  obtain ⟨c', hc', hh⟩ := entsS_hash _ _ _ he
  obtain ⟨e', he', hh'⟩ : ∃ e' ∈ entsL 0 (cs.take j), e'.hash = c'.1 := by
    clear he hh heq
    generalize cs.take j = l at hc'
    generalize 0 = k0
    induction l generalizing k0 with
    | nil => cases hc'
    | cons a l ih =>
      obtain ⟨i, x⟩ := a
      rcases List.mem_cons.mp hc' with rfl | hc'
      · exact ⟨_, List.mem_cons_self, rfl⟩
      · obtain ⟨e', he', hh'⟩ := ih hc' (k0 + 3)
        exact ⟨e', List.mem_cons_of_mem _ he', hh'⟩
  exact newKey_take hk hj e' he' (hh'.trans (hh.symm.trans heq))
theorem R_evalPairs : ∀ (cs : List (Int × Str)) (s : Shared) (p : Pos), ∃ p', R w (3 * cs.length) (evalPairs (cs.map (pairT q))) s p (valsS q s.toks cs) { s with toks := s.toks + 2 * cs.length } p'
  | [], s, p => ⟨p, R.pure⟩
  | (i, x) :: r, s, p => by
    obtain ⟨p', h⟩ := R_evalPairs r { s with toks := s.toks + 2 } q
    refine ⟨p', ?_⟩
    show R w _ (do let kv ← kTree i; let vv ← holding [kv] (vTree x q); return (kv, vv) :: (← holding [kv, vv] (evalPairs (r.map (pairT q))))) s p _ _ p'
    refine R.mono (R.bind (B := 1) (B' := 2 + 3 * r.length) R_kTree (R.bind (B := 2) (B' := 3 * r.length) (R.holding R_vTree) (R.bind (B := 3 * r.length) (B' := 0) (R.holding h) ?_))) (by rw [List.length_cons]; omega)
    have e : s.toks + 2 * ((i, x) :: r).length = s.toks + 2 + 2 * r.length := by rw [List.length_cons]; omega
    rw [e]
    exact R.pure
theorem R_subShort {h : Heap} {cs : List (Int × Str)} (hh : s.heap = h) (hd : 11 ≤ h.objs.size) (hk : Keys cs) (hl : cs.length ≤ 15) :
    ∃ p', R w (1 + 13 * cs.length) (subDict (cs.map (pairT q))) s p h.objs.size { s with heap := h.push (dO (entsS s.toks cs)), toks := s.toks + 3 * cs.length } p' := by
  subst hh
  obtain ⟨p2, he⟩ := R_evalPairs (w := w) (q := q) cs { s with heap := s.heap.push (dO []) } p
  obtain ⟨b', s', p', hR, hI⟩ := R_forIn (w := w) (B := 10) (f := fun (x : Value × Value) (_ : PUnit) => (do
      dictSet s.heap.objs.size x.1 x.2
      pure (ForInStep.yield PUnit.unit) : Sem (ForInStep PUnit)))
    (fun n b s' _ => s' = { s with heap := s.heap.push (dO (entsS s.toks (cs.take n))), toks := s.toks + 2 * cs.length + n }) (valsS q s.toks cs) 0 PUnit.unit
    { s with heap := s.heap.push (dO []), toks := s.toks + 2 * cs.length } p2 (by simp [entsS]) (fun j x b s1 p1 hx hI => by
      rw [Nat.zero_add] at hI
      subst hI
      rw [valsS_get] at hx
      cases hc : cs[j]? with
      | none => rw [hc] at hx; simp at hx
      | some c =>
        rw [hc] at hx
        obtain rfl : (Value.int c.1 (s.toks + 2 * j), Value.str c.2 (s.toks + 2 * j + 1)) = x := by simpa using hx
        have hj : j < cs.length := (List.getElem?_eq_some_iff.mp hc).1
        refine ⟨PUnit.unit, _, p1, R.mono (R.bind (B := 10) (B' := 0) (a := ()) (R_store (h := s.heap) (es := entsS s.toks (cs.take j)) rfl hd ?_ ?_ ?_) R.pure) (by omega), ?_⟩
        · exact hk.1 c (List.mem_of_getElem? hc)
        · exact newKeyS_take hk hc
        · rw [entsS_length, List.length_take]; omega
        · dsimp only
          rw [Nat.zero_add, take_succ' hc, entsS_append, List.length_take, Nat.min_eq_left (by omega)]
          congr 1)
  rw [Nat.zero_add, valsS_length, List.take_length] at hI
  rw [valsS_length] at hR
  refine ⟨p', ?_⟩
  unfold subDict
  refine R.mono (R.bind (B := 1) (B' := 13 * cs.length) (a := s.heap.objs.size) (s1 := { s with heap := s.heap.push (dO []) }) (p1 := p) (R.alloc R.pure) ?_) (by omega)
  refine R.bind (B := 13 * cs.length) (B' := 0) (a := ()) (p1 := p') (R.holding ?_) R.pure
  rw [if_pos (by rw [List.length_map]; omega)]
  refine R.mono (R.bind (B := 3 * cs.length) (B' := 10 * cs.length) he (R.holding ?_)) (by omega)
  have e : s' = { s with heap := s.heap.push (dO (entsS s.toks cs)), toks := s.toks + 3 * cs.length } := by
    rw [hI]
    congr 1; omega
  rw [← e]
  exact R.bind (B := 10 * cs.length) (B' := 0) hR R.pure
end
end Mine
namespace Mine
open PySem PySem.W PySem.Calls PyProof.Rows
section
variable {w : World} {s : Shared} {p q : Pos}
theorem R_ite_true {α : Type} {c : Prop} [Decidable c] {B : Nat} {m m' : Sem α} {a : α} {s' : Shared} {p' : Pos} (hc : c) (h : R w B m s p a s' p') : R w B (if c then m else m') s p a s' p' := by rw [if_pos hc]; exact h
theorem R_ite_false {α : Type} {c : Prop} [Decidable c] {B : Nat} {m m' : Sem α} {a : α} {s' : Shared} {p' : Pos} (hc : ¬ c) (h : R w B m' s p a s' p') : R w B (if c then m else m') s p a s' p' := by rw [if_neg hc]; exact h
theorem isSub_dict : isSubtype (.type "dict") (.type "dict") = (pure true : Sem Bool) := by kernel_rfl
theorem lookIter_dict : typeLookup (.type "dict") "__iter__" = (pure (some (.builtin "dict.__iter__")) : Sem (Option Value)) := by kernel_rfl
theorem R_typeOf_dict {a : Addr} {es : List DictEntry} (ho : s.heap.get? a = some (dO es)) : R w 1 (typeOf (.ref a)) s p (.type "dict") s p := R.load ho R.pure
theorem R_entries {a : Addr} {es : List DictEntry} {part : Option Value} (ho : s.heap.get? a = some (dO es)) : R w 1 (dictEntries a part) s p es.toArray s p := R.load ho R.pure
theorem R_epoch {a : Addr} {es : List DictEntry} {part : Option Value} (ho : s.heap.get? a = some (dO es)) : R w 1 (dictEpoch a part) s p es.length s p := R.load ho R.pure
/-- the entries of a run that is laid on -/
structure Lays (es e2 : List DictEntry) : Prop where
  shape : ∀ e ∈ e2, ∃ t, e = ⟨e.hash, .int e.hash t, e.val⟩
  new : ∀ (j : Nat) (e : DictEntry), e2[j]? = some e → NewKey (es ++ e2.take j) e.hash
theorem R_merge {A r : List Obj} {es e2 : List DictEntry} (hA : A.length = 33) (hh : s.heap = mkH A (dO es) (r ++ [dO e2])) (hL : Lays es e2) (h0 : es ≠ []) (hz : es.length + e2.length < 1000) :
    R w (9 + 7 * e2.length) (mergeMapping 33 (.ref (A.length + 1 + r.length)) false) s p () { s with heap := mkH A (dO (es ++ e2)) (r ++ [dO e2]) } p := by
  have hm : s.heap.get? 33 = some (dO es) := by rw [hh, ← hA]; exact mkH_main _ _ _
  have hs : s.heap.get? (A.length + 1 + r.length) = some (dO e2) := by rw [hh]; exact mkH_last _ _ _ _
  obtain ⟨b', s', p', hR, hI⟩ := R_forIn (w := w) (B := 7) (f := fun (i : Nat) (_ : PUnit) => (do
      let some e := (← dictEntries (A.length + 1 + r.length))[i]? | unsupported "dict.changed-during-merge"
      holding [e.key, e.val] do
        if false = true then
          if (← dictFind 33 e.key e.hash).isSome then rule "dict.merge.duplicate-key"; raiseNew (← newExc (.type "KeyError") [e.key])
        dictPut 33 e.hash e.key e.val
      if (← dictEpoch (A.length + 1 + r.length)) != e2.length then unsupported "dict.changed-during-merge"
      pure (ForInStep.yield PUnit.unit) : Sem (ForInStep PUnit)))
    (fun n b s' p' => s' = { s with heap := mkH A (dO (es ++ e2.take n)) (r ++ [dO e2]) } ∧ p' = p) (List.range e2.length) 0 PUnit.unit
    s p ⟨by rw [List.take_zero, List.append_nil, ← hh], rfl⟩ (fun j x b s1 p1 hx hI => by
      rw [Nat.zero_add] at hI
      obtain ⟨rfl, rfl⟩ := hI
      have hj : j < e2.length := by
        have := (List.getElem?_eq_some_iff.mp hx).1
        rwa [List.length_range] at this
      obtain rfl : j = x := by
        have := (List.getElem?_eq_some_iff.mp hx).2
        rwa [List.getElem_range] at this
      have he : e2[j]? = some e2[j] := List.getElem?_eq_getElem hj
      generalize e2[j] = e at he
      obtain ⟨t, ht⟩ := hL.shape e (List.mem_of_getElem? he)
      obtain ⟨i, ky, v⟩ := e
      obtain rfl : ky = .int i t := congrArg DictEntry.key ht
      have hm1 : (mkH A (dO (es ++ e2.take j)) (r ++ [dO e2])).get? 33 = some (dO (es ++ e2.take j)) := by rw [← hA]; exact mkH_main _ _ _
      have hs1 : ∀ m, (mkH A m (r ++ [dO e2])).get? (A.length + 1 + r.length) = some (dO e2) := fun m => mkH_last _ _ _ _
      refine ⟨PUnit.unit, { s with heap := mkH A (dO (es ++ e2.take (j + 1))) (r ++ [dO e2]) }, p1, ?_, by rw [Nat.zero_add], rfl⟩
      refine R.mono (R.bind (B := 1) (B' := 5) (R_entries (s := { s with heap := mkH A (dO (es ++ e2.take j)) (r ++ [dO e2]) }) (hs1 _)) ?_) (by omega)
      rw [List.getElem?_toArray, he]
      dsimp only
      refine R.bind (B := 4) (B' := 1) (a := ()) (s1 := { s with heap := mkH A (dO (es ++ e2.take (j + 1))) (r ++ [dO e2]) }) (p1 := p1) ?_ ?_
      · refine R.holding ?_
        refine R_ite_false (by simp) ?_
        refine R_dictPut (s := { s with heap := mkH A (dO (es ++ e2.take j)) (r ++ [dO e2]) }) (es := es ++ e2.take j) (by decide) hm1 (hL.new j _ he) ?_ ?_ ?_
        · show (mkH A (dO (es ++ e2.take j)) (r ++ [dO e2])).update 33 _ = _
          rw [← hA, mkH_upd, take_succ' he, ← List.append_assoc]
          exact congrArg (fun m => mkH A m _) (addEnt_dO _ _)
        · rw [← hA, take_succ' he, ← List.append_assoc]; exact mkH_main _ _ _
        · rw [List.length_append, List.length_take]; omega
      · refine R.bind (B := 1) (B' := 0) (R_epoch (s := { s with heap := mkH A (dO (es ++ e2.take (j + 1))) (r ++ [dO e2]) }) (hs1 _)) ?_
        refine R_ite_false (by simp) R.pure)
  obtain ⟨hI, hp⟩ := hI
  rw [Nat.zero_add, List.length_range, List.take_length] at hI
  rw [List.length_range] at hR
  subst hp
  unfold mergeMapping
  refine R.mono (R.bind (B := 1) (B' := 6 + 7 * e2.length) (a := true) (s1 := s) (p1 := p') ?_ ?_) (by omega)
  · unfold isInstance
    refine R.bind (B := 1) (B' := 0) (R_typeOf_dict hs) ?_
    rw [isSub_dict]; exact R.pure
  refine R_ite_true rfl ?_
  refine R.mono (R.bind (B := 1) (B' := 5 + 7 * e2.length) (a := some (.builtin "dict.__iter__")) (s1 := s) (p1 := p') ?_ ?_) (by omega)
  · unfold specialOf
    refine R.bind (B := 1) (B' := 0) (R_typeOf_dict hs) ?_
    rw [lookIter_dict]; exact R.pure
  have e : ((some (Value.builtin "dict.__iter__") : Option Value) == some (.builtin "dict.__iter__")) = true := by simp
  rw [e]
  refine R.mono (R.bind (B := 0) (B' := 5 + 7 * e2.length) R.pure ?_) (by omega)
  dsimp only
  refine R_ite_false (by show ¬ ((A.length + 1 + r.length) == sysModules) = true; rw [hA]; intro q; have q2 : (33 + 1 + r.length : Nat) = 1 := eq_of_beq q; omega) ?_
  refine R.mono (R.bind (B := 1) (B' := 4 + 7 * e2.length) (R_entries hm) ?_) (by omega)
  refine R_ite_false (by simp [h0]) ?_
  refine R.mono (R.bind (B := 1) (B' := 2 + 7 * e2.length) (R_entries hs) ?_) (by omega)
  refine R.mono (R.bind (B := 1) (B' := 7 * e2.length) (R_epoch hs) ?_) (by omega)
  rw [← hI]
  rw [List.size_toArray]
  exact R.mono (R.bind (B := 7 * e2.length) (B' := 0) hR R.pure) (by omega)
end
end Mine
namespace Mine
open PySem PySem.W PySem.Calls PyProof.Rows
theorem entsL_get : ∀ (k : Nat) (cs : List (Int × Str)) (j : Nat), (entsL k cs)[j]? = (cs[j]?).map fun c => entAt c.1 (k + 3 * j) c.2
  | _, [], j => by simp [entsL]
  | k, (i, x) :: r, 0 => by simp [entsL]
  | k, (i, x) :: r, j + 1 => by
    simp only [entsL, List.getElem?_cons_succ, entsL_get (k + 3) r j]
    rw [show k + 3 + 3 * j = k + 3 * (j + 1) by omega]
theorem entsS_get : ∀ (k : Nat) (cs : List (Int × Str)) (j : Nat), (entsS k cs)[j]? = (cs[j]?).map fun c => entAt c.1 (k + 2 * j) c.2
  | _, [], j => by simp [entsS]
  | k, (i, x) :: r, 0 => by simp [entsS]
  | k, (i, x) :: r, j + 1 => by
    simp only [entsS, List.getElem?_cons_succ, entsS_get (k + 2) r j]
    rw [show k + 2 + 2 * j = k + 2 * (j + 1) by omega]
/-- entries of the keys of cs, in that order -/
noncomputable def EntsOf (es : List DictEntry) (cs : List (Int × Str)) : Prop := ∀ j : Nat, ∃ f : Int × Str → Nat, es[j]? = (cs[j]?).map fun c => entAt c.1 (f c) c.2
theorem entsOf_L (k cs) : EntsOf (entsL k cs) cs := fun j => ⟨fun _ => k + 3 * j, entsL_get k cs j⟩
theorem entsOf_S (k cs) : EntsOf (entsS k cs) cs := fun j => ⟨fun _ => k + 2 * j, entsS_get k cs j⟩
theorem EntsOf.mem {es : List DictEntry} {cs : List (Int × Str)} (h : EntsOf es cs) {j : Nat} {e : DictEntry} (he : es[j]? = some e) : ∃ c t, cs[j]? = some c ∧ e = entAt c.1 t c.2 := by
  obtain ⟨f, hf⟩ := h j
  rw [he] at hf
  cases q : cs[j]? with
  | none => rw [q] at hf; simp at hf
  | some c => rw [q] at hf; exact ⟨c, f c, rfl, by simpa using hf⟩
theorem keys_ne {cs : List (Int × Str)} (hk : Keys cs) {j j' : Nat} {c c' : Int × Str} (h : cs[j]? = some c) (h' : cs[j']? = some c') (hn : j ≠ j') : c.1 ≠ c'.1 := by
  obtain ⟨l, hl⟩ := List.getElem?_eq_some_iff.mp h
  obtain ⟨l', hl'⟩ := List.getElem?_eq_some_iff.mp h'
  intro e
  have e1 : (cs.map (·.1))[j]'(by simpa using l) = (cs.map (·.1))[j']'(by simpa using l') := by simp only [List.getElem_map]; rw [hl, hl', e]
  exact hn ((List.getElem_inj hk.2).mp e1)
theorem lays_of {e1 e2 : List DictEntry} {c1 c2 : List (Int × Str)} (h1 : EntsOf e1 c1) (hl1 : e1.length = c1.length) (h2 : EntsOf e2 c2) (hk : Keys (c1 ++ c2)) : Lays e1 e2 where
  shape e he := by
    obtain ⟨j, hj, hje⟩ := List.mem_iff_getElem.mp he
    obtain ⟨c, t, _, rfl⟩ := h2.mem (j := j) (e := e) (by rw [List.getElem?_eq_getElem hj, hje])
    exact ⟨t, rfl⟩
  new j e he := by
    obtain ⟨c, t, hc, rfl⟩ := h2.mem he
    intro e' he'
    have hc' : (c1 ++ c2)[c1.length + j]? = some c := by rw [List.getElem?_append_right (by omega)]; simpa using hc
    rcases List.mem_append.mp he' with h | h
    · obtain ⟨j', hj', hje⟩ := List.mem_iff_getElem.mp h
      obtain ⟨c', t', hcc, rfl⟩ := h1.mem (j := j') (e := e') (by rw [List.getElem?_eq_getElem hj', hje])
      have hlt := (List.getElem?_eq_some_iff.mp hcc).1
      exact keys_ne hk (j := j') (c := c') (by rw [List.getElem?_append_left hlt]; exact hcc) hc' (by omega)
    · obtain ⟨j', hj', hje⟩ := List.mem_iff_getElem.mp h
      rw [List.length_take] at hj'
      obtain ⟨c', t', hcc, rfl⟩ := h2.mem (j := j') (e := e') (by rw [← hje]; simp)
      have hcc' : (c1 ++ c2)[c1.length + j']? = some c' := by rw [List.getElem?_append_right (by omega)]; simpa using hcc
      exact keys_ne hk hcc' hc' (by omega)
noncomputable def flushD (run : List (Sem Value × Sem Value)) (main : Option Addr) : Sem (Option Addr) := do
  if run.isEmpty then return main
  match main with
  | none => return some (← subDict run)
  | some d =>
    let sub ← holding [.ref d] (subDict run)
    (holding [.ref d, .ref sub] (mergeMapping d (.ref sub) false)).onRaise fun x => do let _ ← holding [.ref d, x] (runValue (.builtin "proto.let_go" {}))
    return some d
noncomputable def stepD (x : Sem Value × Sem Value) (r : Option Addr × List (Sem Value × Sem Value)) : Sem (ForInStep (Option Addr × List (Sem Value × Sem Value))) :=
  if (r.2 ++ [x]).length == 17 then do
    let m ← flushD (r.2 ++ [x]) r.1
    pure (.yield (m, []))
  else pure (.yield (r.1, r.2 ++ [x]))
theorem forIn_map_some {α β : Type} (f : β → α → Sem (ForInStep α)) (g : β → β) : ∀ (l : List β) (a : α), forIn (l.map g) a f = forIn l a fun x r => f (g x) r
  | [], a => by simp
  | x :: l, a => by
    simp only [List.map_cons, List.forIn_cons]
    congr 1; funext r
    cases r with
    | done => rfl
    | yield b => exact forIn_map_some f g l b
theorem forIn_map' {α β γ : Type} (f : γ → α → Sem (ForInStep α)) (g : β → γ) : ∀ (l : List β) (a : α), forIn (l.map g) a f = forIn l a fun x r => f (g x) r
  | [], a => by simp
  | x :: l, a => by
    simp only [List.map_cons, List.forIn_cons]
    congr 1; funext r
    cases r with
    | done => rfl
    | yield b => exact forIn_map' f g l b
theorem dictDisplay_some (l : List (Sem Value × Sem Value)) : dictDisplay (l.map fun x => (some x.1, x.2)) = (do
    let r ← forIn l (none, []) stepD
    match ← flushD r.2 r.1 with
    | some d => pure (.ref d)
    | none => newDict) := by
  unfold dictDisplay
  dsimp only
  rw [forIn_map']
  rfl
/-- the chunk objects behind the first, c chunks done -/
noncomputable def subsL (cs : List (Int × Str)) (c : Nat) : List Obj := (List.range (c - 1)).map fun j => dO (entsL (256 + 51 * (j + 1)) ((cs.drop (17 * (j + 1))).take 17))
noncomputable def stH (A : List Obj) (cs : List (Int × Str)) : Nat → Heap
  | 0 => ⟨A.toArray, {}⟩
  | c + 1 => mkH A (dO (entsL 256 (cs.take (17 * (c + 1))))) (subsL cs (c + 1))
theorem subsL_succ (cs : List (Int × Str)) (c : Nat) : subsL cs (c + 2) = subsL cs (c + 1) ++ [dO (entsL (256 + 51 * (c + 1)) ((cs.drop (17 * (c + 1))).take 17))] := by
  unfold subsL
  rw [show c + 2 - 1 = c + 1 - 1 + 1 by omega, List.range_succ, List.map_append]
  rfl
theorem Keys.sub {l l' : List (Int × Str)} (hk : Keys l) (h : List.Sublist l' l) : Keys l' := ⟨fun c hc => hk.1 c (h.subset hc), hk.2.sublist (h.map _)⟩
theorem subsL_length (cs : List (Int × Str)) (c : Nat) : (subsL cs c).length = c - 1 := by simp [subsL]
section
variable {w : World} {p q : Pos}
noncomputable def mainOf : Nat → Option Addr
  | 0 => none
  | _ + 1 => some 33
theorem R_flush {A : List Obj} {cs : List (Int × Str)} {s : Shared} (hA : A.length = 33) (hk : Keys cs) (hl : cs.length < 900) (c : Nat) (hc : 17 * (c + 1) ≤ cs.length) (hh : s.heap = stH A cs c) (ht : s.toks = 256 + 51 * c) :
    ∃ p', R w 400 (flushD (((cs.drop (17 * c)).take 17).map (pairT q)) (mainOf c)) s p (some 33) { s with heap := stH A cs (c + 1), toks := 256 + 51 * (c + 1) } p' := by
  have hlen : ((cs.drop (17 * c)).take 17).length = 17 := by rw [List.length_take, List.length_drop]; omega
  have hks : Keys ((cs.drop (17 * c)).take 17) := hk.sub ((List.take_sublist _ _).trans (List.drop_sublist _ _))
  have hne : (((cs.drop (17 * c)).take 17).map (pairT q)).isEmpty = false := by
    cases e : (cs.drop (17 * c)).take 17 with
    | nil => rw [e] at hlen; simp at hlen
    | cons => rfl
  unfold flushD
  rw [hne]
  cases c with
  | zero =>
    obtain ⟨p', h⟩ := R_subLong (w := w) (p := p) (q := q) (s := s) (h := stH A cs 0) hh (by show 11 ≤ A.toArray.size; rw [List.size_toArray]; omega) hks (by omega) (by omega)
    refine ⟨p', R_ite_false (by simp) ?_⟩
    dsimp only [mainOf]
    refine R.mono (R.bind (B := 2 + 13 * 17) (B' := 0) (by rw [hlen] at h; exact h) ?_) (by omega)
    have e1 : (stH A cs 0).objs.size = 33 := by show A.toArray.size = 33; rw [List.size_toArray]; exact hA
    have e2 : (stH A cs 0).push (dO (entsL s.toks ((cs.drop (17 * 0)).take 17))) = stH A cs 1 := by
      rw [ht]
      show (⟨A.toArray.push _, {}⟩ : Heap) = mkH A _ (subsL cs 1)
      simp [mkH, subsL]
    rw [e1, e2, ht]
    exact R.pure
  | succ c =>
    have hsz : (stH A cs (c + 1)).objs.size = A.length + 1 + (subsL cs (c + 1)).length := mkH_size _ _ _
    obtain ⟨p', h⟩ := R_subLong (w := w) (p := p) (q := q) (s := s) (h := stH A cs (c + 1)) hh (by rw [hsz]; omega) hks (by omega) (by omega)
    refine ⟨p', R_ite_false (by simp) ?_⟩
    dsimp only [mainOf]
    rw [hlen] at h
    refine R.mono (R.bind (B := 2 + 13 * 17) (B' := 9 + 7 * 17) (R.holding h) ?_) (by omega)
    have e2 : (stH A cs (c + 1)).push (dO (entsL s.toks ((cs.drop (17 * (c + 1))).take 17))) = mkH A (dO (entsL 256 (cs.take (17 * (c + 1))))) (subsL cs (c + 1) ++ [dO (entsL (256 + 51 * (c + 1)) ((cs.drop (17 * (c + 1))).take 17))]) := by
      rw [ht]; exact mkH_push _ _ _ _
    rw [e2, hsz]
    have hsplit : cs.take (17 * (c + 1)) ++ (cs.drop (17 * (c + 1))).take 17 = cs.take (17 * (c + 2)) := by
      rw [show 17 * (c + 2) = 17 * (c + 1) + 17 by omega, List.take_add]
    have hm := R_merge (w := w) (s := { s with heap := mkH A (dO (entsL 256 (cs.take (17 * (c + 1))))) (subsL cs (c + 1) ++ [dO (entsL (256 + 51 * (c + 1)) ((cs.drop (17 * (c + 1))).take 17))]), toks := s.toks + 3 * 17 }) (p := p') (A := A) (r := subsL cs (c + 1))
      (es := entsL 256 (cs.take (17 * (c + 1)))) (e2 := entsL (256 + 51 * (c + 1)) ((cs.drop (17 * (c + 1))).take 17)) hA rfl
      (lays_of (c1 := cs.take (17 * (c + 1))) (c2 := (cs.drop (17 * (c + 1))).take 17) (entsOf_L _ _) (entsL_length _ _) (entsOf_L _ _) (by rw [hsplit]; exact hk.sub (List.take_sublist _ _)))
      (by intro e; have := congrArg List.length e; rw [entsL_length, List.length_take] at this; rw [List.length_nil, Nat.min_eq_left (by omega)] at this; omega) (by rw [entsL_length, entsL_length, List.length_take, hlen]; omega)
    rw [entsL_length, hlen] at hm
    refine R.mono (R.bind (B := 9 + 7 * 17) (B' := 0) (R.onRaise (R.holding hm)) ?_) (by omega)
    have e3 : mkH A (dO (entsL 256 (cs.take (17 * (c + 1))) ++ entsL (256 + 51 * (c + 1)) ((cs.drop (17 * (c + 1))).take 17))) (subsL cs (c + 1) ++ [dO (entsL (256 + 51 * (c + 1)) ((cs.drop (17 * (c + 1))).take 17))]) = stH A cs (c + 2) := by
      show _ = mkH A (dO (entsL 256 (cs.take (17 * (c + 2))))) (subsL cs (c + 2))
      rw [subsL_succ, ← hsplit, entsL_append, List.length_take, Nat.min_eq_left (by omega), show 256 + 3 * (17 * (c + 1)) = 256 + 51 * (c + 1) by omega]
    have e4 : s.toks + 3 * 17 = 256 + 51 * (c + 2) := by rw [ht]; omega
    rw [e3, e4]
    exact R.pure
end
end Mine
namespace Mine
open PySem PySem.W PySem.Calls PyProof.Rows
section
variable {w : World} {p q : Pos}
noncomputable def Inv (A : List Obj) (cs : List (Int × Str)) (q : Pos) (s : Shared) (n : Nat) (b : Option Addr × List (Sem Value × Sem Value)) (s' : Shared) : Prop :=
  ∃ c r, n = 17 * c + r ∧ r < 17 ∧ b = (mainOf c, ((cs.drop (17 * c)).take r).map (pairT q)) ∧ s' = { s with heap := stH A cs c, toks := 256 + 51 * c }
theorem R_loop {A : List Obj} {cs : List (Int × Str)} {s : Shared} (hA : A.length = 33) (hk : Keys cs) (hl : cs.length < 900) (hs : s.heap = stH A cs 0) (ht : s.toks = 256) :
    ∃ b' s' p', R w (400 * cs.length) (forIn (cs.map (pairT q)) ((none, []) : Option Addr × List (Sem Value × Sem Value)) stepD) s p b' s' p' ∧ Inv A cs q s cs.length b' s' := by
  obtain ⟨b', s', p', hR, hI⟩ := R_forIn (w := w) (B := 400) (f := stepD) (fun n b s' _ => n ≤ cs.length → Inv A cs q s n b s') (cs.map (pairT q)) 0 ((none, []) : Option Addr × List (Sem Value × Sem Value)) s p
    (fun _ => ⟨0, 0, rfl, by omega, by simp [mainOf], by obtain ⟨a, b, c, d, e⟩ := s; dsimp only at hs ht; subst hs ht; rfl⟩) (fun j x b s1 p1 hx hI => by
      rw [Nat.zero_add] at hI ⊢
      rw [List.getElem?_map] at hx
      cases hc : cs[j]? with
      | none => rw [hc] at hx; simp at hx
      | some cj =>
        rw [hc] at hx
        obtain rfl : pairT q cj = x := by simpa using hx
        have hj : j < cs.length := (List.getElem?_eq_some_iff.mp hc).1
        obtain ⟨c, r, rfl, hr, rfl, rfl⟩ := hI (by omega)
        have hrun : ((cs.drop (17 * c)).take r).map (pairT q) ++ [pairT q cj] = ((cs.drop (17 * c)).take (r + 1)).map (pairT q) := by
          rw [take_succ' (l := cs.drop (17 * c)) (j := r) (x := cj) (by rw [List.getElem?_drop]; exact hc), List.map_append]; rfl
        have hlen : (((cs.drop (17 * c)).take (r + 1)).map (pairT q)).length = r + 1 := by rw [List.length_map, List.length_take, List.length_drop]; omega
        unfold stepD
        rw [hrun, hlen]
        by_cases h17 : r + 1 = 17
        · obtain ⟨p2, hf⟩ := R_flush (w := w) (p := p1) (q := q) (A := A) (cs := cs) (s := { s with heap := stH A cs c, toks := 256 + 51 * c }) hA hk hl c (by omega) rfl rfl
          refine ⟨(some 33, []), { s with heap := stH A cs (c + 1), toks := 256 + 51 * (c + 1) }, p2, R_ite_true (by rw [h17]; rfl) ?_, ?_⟩
          · rw [h17]
            exact R.mono (R.bind (B := 400) (B' := 0) hf R.pure) (Nat.le_refl _)
          · intro _
            exact ⟨c + 1, 0, by omega, by omega, by simp [mainOf], rfl⟩
        · refine ⟨_, _, p1, R_ite_false (by simp; omega) (R.mono R.pure (Nat.zero_le _)), ?_⟩
          intro _
          exact ⟨c, r + 1, by omega, by omega, rfl, rfl⟩)
  rw [List.length_map] at hR hI
  rw [Nat.zero_add] at hI
  exact ⟨b', s', p', hR, hI (Nat.le_refl _)⟩
theorem R_display {A : List Obj} {cs : List (Int × Str)} {s : Shared} {c r : Nat} (hA : A.length = 33) (hk : Keys cs) (hn : cs.length = 17 * (c + 1) + r) (hr0 : 0 < r) (hr : r ≤ 15) (hl : cs.length < 900) (hs : s.heap = stH A cs 0) (ht : s.toks = 256) :
    ∃ p', R w (400 * cs.length + 400) (dictDisplay (cs.map fun c => (some (kTree c.1), vTree c.2 q))) s p (.ref 33)
      { s with heap := mkH A (dO (entsL 256 (cs.take (17 * (c + 1))) ++ entsS (256 + 51 * (c + 1)) (cs.drop (17 * (c + 1))))) (subsL cs (c + 1) ++ [dO (entsS (256 + 51 * (c + 1)) (cs.drop (17 * (c + 1))))]), toks := 256 + 51 * (c + 1) + 3 * r } p' := by
  obtain ⟨b', s', p1, hR, c', r', hn', hr', rfl, rfl⟩ := R_loop (w := w) (p := p) (q := q) hA hk hl hs ht
  obtain rfl : c' = c + 1 := by omega
  obtain rfl : r' = r := by omega
  have e0 : (cs.map fun c => (some (kTree c.1), vTree c.2 q)) = (cs.map (pairT q)).map fun x => (some x.1, x.2) := by rw [List.map_map]; rfl
  rw [e0, dictDisplay_some]
  have htail : (cs.drop (17 * (c + 1))).take r' = cs.drop (17 * (c + 1)) := List.take_of_length_le (by rw [List.length_drop]; omega)
  rw [htail] at hR
  have hlen : (cs.drop (17 * (c + 1))).length = r' := by rw [List.length_drop]; omega
  have hsz : (stH A cs (c + 1)).objs.size = A.length + 1 + (subsL cs (c + 1)).length := mkH_size _ _ _
  obtain ⟨p2, h⟩ := R_subShort (w := w) (p := p1) (q := q) (s := { s with heap := stH A cs (c + 1), toks := 256 + 51 * (c + 1) }) (h := stH A cs (c + 1)) (cs := cs.drop (17 * (c + 1))) rfl (by rw [hsz]; omega) (hk.sub (List.drop_sublist _ _)) (by omega)
  have hne : ((cs.drop (17 * (c + 1))).map (pairT q)).isEmpty = false := by
    cases e : cs.drop (17 * (c + 1)) with
    | nil => rw [e] at hlen; simp at hlen; omega
    | cons => rfl
  have hm := R_merge (w := w) (s := { s with heap := mkH A (dO (entsL 256 (cs.take (17 * (c + 1))))) (subsL cs (c + 1) ++ [dO (entsS (256 + 51 * (c + 1)) (cs.drop (17 * (c + 1))))]), toks := 256 + 51 * (c + 1) + 3 * r' }) (p := p2) (A := A) (r := subsL cs (c + 1))
      (es := entsL 256 (cs.take (17 * (c + 1)))) (e2 := entsS (256 + 51 * (c + 1)) (cs.drop (17 * (c + 1)))) hA rfl
      (lays_of (c1 := cs.take (17 * (c + 1))) (c2 := cs.drop (17 * (c + 1))) (entsOf_L _ _) (entsL_length _ _) (entsOf_S _ _) (by rw [List.take_append_drop]; exact hk))
      (by intro e; have := congrArg List.length e; rw [entsL_length, List.length_take, List.length_nil, Nat.min_eq_left (by omega)] at this; omega) (by rw [entsL_length, entsS_length, List.length_take, hlen]; omega)
  rw [entsS_length, hlen] at hm
  refine ⟨p2, R.mono (R.bind (B := 400 * cs.length) (B' := 400) hR ?_) (by omega)⟩
  dsimp only [mainOf]
  refine R.mono (R.bind (B := 390) (B' := 0) (a := some 33) (p1 := p2) ?_ R.pure) (by omega)
  unfold flushD
  rw [hne]
  refine R_ite_false (by simp) ?_
  dsimp only
  rw [hlen] at h
  refine R.mono (R.bind (B := 1 + 13 * r') (B' := 9 + 7 * r') (R.holding h) ?_) (by omega)
  have e2 : (stH A cs (c + 1)).push (dO (entsS (256 + 51 * (c + 1)) (cs.drop (17 * (c + 1))))) = mkH A (dO (entsL 256 (cs.take (17 * (c + 1))))) (subsL cs (c + 1) ++ [dO (entsS (256 + 51 * (c + 1)) (cs.drop (17 * (c + 1))))]) := mkH_push _ _ _ _
  dsimp only
  rw [e2, hsz]
  exact R.mono (R.bind (B := 9 + 7 * r') (B' := 0) (R.onRaise (R.holding hm)) R.pure) (by omega)
end
end Mine
namespace Mine
open PySem PySem.W PySem.Calls PyProof.Rows
noncomputable def H4p (P : Params) : Heap := ⟨#[boot_o_0 P, boot_o_1 P, boot_o_2 P, ho3a P, boot_o_4 P, boot_o_5 P, boot_o_6 P, boot_o_7 P, boot_o_8 P, boot_o_9 P, boot_o_10 P, ho11 P, ho12a P, ho13 P, ho14 P, ho15 P, ho16 P, ho17 P, ho18 P, ho19 P, ho20 P, ho21 P, ho22 P, ho23 P, ho24 P, ho25 P, ho26 P, ho27 P, ho28 P, ho29 P, ho30 P, ho31 P, ho32 P, ho33 P, ho34 P, ho35 P, ho36 P, ho37 P, ho38 P, ho39 P, ho40 P, ho41 P, ho42 P, ho43 P, ho44 P, ho45 P, ho46 P, ho47 P, ho48 P, ho49 P, ho50 P, ho51 P, ho52 P, ho53 P, ho54 P, ho55 P, ho56 P, ho57 P, ho58 P, ho59 P, ho60 P, ho61 P, ho62 P, ho63 P, ho64 P, ho65 P, ho66 P, ho67 P, ho68 P, ho69 P, ho70 P, ho71 P], {}⟩
noncomputable def A3 (P : Params) : List Obj := [boot_o_0 P, boot_o_1 P, boot_o_2 P, ho3a P, boot_o_4 P, boot_o_5 P, boot_o_6 P, boot_o_7 P, boot_o_8 P, boot_o_9 P, boot_o_10 P, ho11 P, ho12a P, ho13 P, ho14 P, ho15 P, ho16 P, ho17 P, ho18 P, ho19 P, ho20 P, ho21 P, ho22 P, ho23 P, ho24 P, ho25 P, ho26 P, ho27 P, ho28 P, ho29 P, ho30 P, ho31 P, ho32 P]
noncomputable def dKeys : List (Option Expr) := match dictSt with | .Assign _ (.Dict ks _ _) _ => ks | _ => []
noncomputable def dVals : List Expr := match dictSt with | .Assign _ (.Dict _ vs _) _ => vs | _ => []
noncomputable def dPos : Pos := match dictSt with | .Assign _ (.Dict _ _ p) _ => p | _ => p0
noncomputable def dNPos : Pos := match dictSt with | .Assign [.Name _ p] _ _ => p | _ => p0
noncomputable def dSPos : Pos := match dictSt with | .Assign _ _ p => p | _ => p0
noncomputable def b3N : Str := Str.ofString "b3_exceptions"
theorem dictSt_eq : dictSt = .Assign [.Name b3N dNPos] (.Dict dKeys dVals dPos) dSPos := by kernel_rfl
theorem dItems : (evalEachOpt dKeys topEnv).zip ((evalEach dVals topEnv).map fun v => (do let x ← v; standAt dPos; pure x : Sem Value)) = b3Pairs.map fun c => (some (kTree c.1), vTree c.2 dPos) := by kernel_rfl
noncomputable def smallB (i : Int) : Bool := decide (0 ≤ i) && decide (i < 1000000)
noncomputable def risesB : List Int → Bool
  | a :: b :: r => decide (a < b) && risesB (b :: r)
  | _ => true
theorem rises_nodup : ∀ (l : List Int), risesB l = true → l.Pairwise (· < ·)
  | [], _ => .nil
  | [a], _ => List.pairwise_singleton _ _
  | a :: b :: r, h => by
    have h' : (decide (a < b) && risesB (b :: r)) = true := h
    obtain ⟨h1, h2⟩ := Bool.and_eq_true_iff.mp h'
    have ih := rises_nodup (b :: r) h2
    refine List.pairwise_cons.mpr ⟨fun x hx => ?_, ih⟩
    rcases List.mem_cons.mp hx with rfl | hx
    · exact of_decide_eq_true h1
    · exact Int.lt_trans (of_decide_eq_true h1) ((List.pairwise_cons.mp ih).1 x hx)
theorem b3_keys : Keys b3Pairs := by
  refine ⟨fun c hc => ?_, ?_⟩
  · have h : (b3Pairs.all fun c => smallB c.1) = true := by decide +kernel
    have := List.all_eq_true.mp h c hc
    obtain ⟨h1, h2⟩ := Bool.and_eq_true_iff.mp this
    exact ⟨of_decide_eq_true h1, Int.lt_trans (of_decide_eq_true h2) (by decide)⟩
  · have h : risesB (b3Pairs.map (·.1)) = true := by decide +kernel
    exact (rises_nodup _ h).imp fun h => Int.ne_of_lt h
theorem b3_len : b3Pairs.length = 17 * (37 + 1) + 4 := by decide +kernel
theorem H4p_eq (P : Params) : mkH (A3 P) (dO (entsL 256 (b3Pairs.take (17 * (37 + 1))) ++ entsS (256 + 51 * (37 + 1)) (b3Pairs.drop (17 * (37 + 1))))) (subsL b3Pairs (37 + 1) ++ [dO (entsS (256 + 51 * (37 + 1)) (b3Pairs.drop (17 * (37 + 1))))]) = H4p P := by kernel_rfl
end Mine
namespace Mine
open PySem PySem.W PySem.Calls PyProof.Rows
theorem bind5 (n : Nat) (hn : n = 6) : ∀ (w : World) (os : OsState) (p : Pos) (K : Unit → Sem PySem.Fin) (H : Value → Sem PySem.Fin) (gd : Bool → Bool) (lv : List Value → List Value),
    topGo treeTable pw w 11 annV n ⟨H4p w.params, g0, boot_drawn, 2206, os⟩ (thr ((bindName topEnv b3N (.ref 33)).wrap K H gd lv) p) =
      some (⟨H4 w.params, g0, boot_drawn, 2207, os⟩, thr (K ()) p) := by
  rw [topGo_tw, treeTable_tw]
  subst hn
  intro w os p K H gd lv
  kernel_rfl
theorem exec_dictSt : exec dictSt topEnv = (do
    standAt dSPos
    let v ← eval (.Dict dKeys dVals dPos) topEnv
    standAt dNPos
    bindName topEnv b3N v
    pure .next) := by
  rw [dictSt_eq]
  exact exec_Assign_Name topEnv _ _ _ _ rfl
theorem R_dictSt (w : World) (os : OsState) (p : Pos) : R w 270000 (exec dictSt topEnv) ⟨H3 w.params, g0, boot_drawn, 256, os⟩ p .next ⟨H4 w.params, g0, boot_drawn, 2207, os⟩ dNPos := by
  have hA : (A3 w.params).length = 33 := rfl
  have hs : H3 w.params = stH (A3 w.params) b3Pairs 0 := by kernel_rfl
  obtain ⟨p1, h⟩ := R_display (w := w) (p := dPos) (q := dPos) (A := A3 w.params) (cs := b3Pairs) (s := ⟨H3 w.params, g0, boot_drawn, 256, os⟩) (c := 37) (r := 4) hA b3_keys b3_len (by decide) (by decide) (by rw [b3_len]; decide) hs rfl
  rw [H4p_eq] at h
  rw [exec_dictSt]
  have hE : R w (400 * b3Pairs.length + 400 + 1) (eval (.Dict dKeys dVals dPos) topEnv) ⟨H3 w.params, g0, boot_drawn, 256, os⟩ dSPos (.ref 33) ⟨H4p w.params, g0, boot_drawn, 2206, os⟩ p1 := by
    have e : eval (.Dict dKeys dVals dPos) topEnv = (do standAt dPos; dictDisplay ((evalEachOpt dKeys topEnv).zip ((evalEach dVals topEnv).map fun v => (do let x ← v; standAt dPos; pure x : Sem Value)))) := rfl
    rw [e, dItems]
    exact R.mono (R.bind (B := 1) (B' := 400 * b3Pairs.length + 400) (a := ()) (R.at R.pure) h) (by omega)
  have hB : R w 6 (bindName topEnv b3N (.ref 33)) ⟨H4p w.params, g0, boot_drawn, 2206, os⟩ dNPos () ⟨H4 w.params, g0, boot_drawn, 2207, os⟩ dNPos := fun K H gd lv => ⟨6, Nat.le_refl _, bind5 6 rfl w os dNPos K H gd lv⟩
  exact R.mono (R.bind (B := 1) (B' := 400 * b3Pairs.length + 420) (a := ()) (R.at R.pure) (R.mono (R.bind (B := 400 * b3Pairs.length + 400 + 1) (B' := 7) hE (R.mono (R.bind (B := 1) (B' := 6) (a := ()) (R.at R.pure) (R.mono (R.bind (B := 6) (B' := 0) (a := ()) hB R.pure) (by omega))) (by omega))) (by omega))) (by rw [b3_len]; decide)
theorem go_le {w : World} {n N : Nat} {s : Shared} {t : Thread} {r : Shared} (hn : n ≤ N) (h : topRun treeTable pw w 11 annV n s t = some r) : topRun treeTable pw w 11 annV N s t = some r := by
  have := topRun_mono (N - n) _ _ _ _ h
  rwa [show n + (N - n) = N by omega] at this
theorem t_fin : ∀ (w : World) (os : OsState), topRun treeTable pw w 11 annV 2 ⟨Hf w.params, g0, boot_drawn, 2331, os⟩ ⟨doneF .next, Cc, ⟨107, 0, 171, 92⟩, [topFrame p0]⟩ = some ⟨Hf w.params, g0, boot_drawn, 2331, os⟩ := by
  intro w os; kernel_rfl
theorem t_run (w : World) (os : OsState) : topRun treeTable pw w 11 annV 280000 ⟨boot_heap w.params, g0, boot_drawn, boot_toks, os⟩ (topStub pw) = some ⟨Hf w.params, g0, boot_drawn, 2331, os⟩ := by
  obtain ⟨n, hn, e⟩ := R_dictSt w os ⟨3, 0, 4, 30⟩ (fun f => match f with | .next => (execs (st2 ++ []) topEnv).wrap doneF (leaveH topEnv) id id | f => doneF f) (leaveH topEnv) id id
  have e2 := congrFun (t_s2' w) os
  have k1 := piece_app (rest := []) e2 (piece_nil (t_fin w os))
  have k2 : topRun treeTable pw w 11 annV (n + (600 + 2)) ⟨H3 w.params, g0, boot_drawn, 256, os⟩ (restOf (dictSt :: (st2 ++ [])) topEnv Cc ⟨3, 0, 4, 30⟩ [topFrame p0]) = some ⟨Hf w.params, g0, boot_drawn, 2331, os⟩ := by
    unfold restOf
    rw [execs_cons_wrap]
    exact go_top e k1
  have k3 := piece_app (rest := dictSt :: (st2 ++ [])) (congrFun (t_s0 w) os) k2
  rw [show restOf (st0 ++ (dictSt :: (st2 ++ []))) topEnv Cc p0 [topFrame p0] = restOf topBody topEnv Cc p0 [topFrame p0] from congrArg (fun b => restOf b topEnv Cc p0 [topFrame p0]) t_body.symm] at k3
  have k4 := go_top (t_pre w os) (piece_block (t_blk w os) k3)
  exact go_le (by omega) k4
end Mine
namespace Mine
open PySem PySem.W PySem.Calls PyProof.Rows
noncomputable section
noncomputable def lawSt : Stmt := (topBody[19]?).getD (.Pass p0)
noncomputable def vq : Program := { pw with main := { pw.main with body := [lawSt] } }
noncomputable def looseN : List Str := ["b1_set", "in_table_b1", "b3_exceptions", "map_table_b3", "insort_right", "bisect_right", "insort_left", "bisect_left", "_strcoll", "_strxfrm", "_law_family", "_law_stock", "_law_prepared", "_law_codes", "_law_way"]
noncomputable def vXt (s : Shared) : Bool := xlAt vq [] s && recOk [] s
theorem openSeen_tw : @openSeen = @PySem.W.Fast.tw4187177175401517315 := PySem.W.Fast.te4187177175401517315
noncomputable def Sf (P : Params) (os : OsState) : Shared := ⟨Hf P, g0, boot_drawn, 2331, os⟩
theorem t_size : ∀ w : World, ((boot_heap w.params).isNs mainGlobals && g0.size == 0, (boot_heap w.params).objs.size, (boot_heap w.params).nsMap mainGlobals "__annotations__") = (true, 11, annV) := by
  intro w; kernel_rfl
theorem t_l1 : ∀ (w : World), (fun os : OsState => (staticsOk (importedModules pw.main.body) (boot_heap w.params) (Hf w.params) && namesBound pw (Hf w.params) && gensDone ⟨Hf w.params, g0, boot_drawn, 2331, os⟩ && laidKept (boot_heap w.params) (Hf w.params))) = fun _ => true := by
  intro w; kernel_rfl
theorem t_l2 : ∀ (w : World), (fun os : OsState => openSeen vq looseN (importedModules pw.main.body) vXt true ⟨Hf w.params, g0, boot_drawn, 2331, os⟩) = fun _ => openGood vq looseN := by
  rw [openSeen_tw]
  intro w; kernel_rfl
theorem t_open : opening pw = plainProg pw.main.scope.names := by kernel_rfl
theorem t_fence : ∀ s, fenceModules? pw s = some s := by intro s; kernel_rfl
theorem left : LeftO pw vq looseN vXt Shared.heap (fun w => Hf w.params) 280000 :=
  LeftO.of_pieces (H₀ := boot_heap) (H₁ := Hf) (boot_open t_open rfl t_fence) t_size t_run rfl (fun w => by
    funext os
    have h1 := congrFun (t_l1 w) os
    have h2 := congrFun (t_l2 w) os
    exact Prod.ext h1 (Prod.ext h2 rfl))
end
end Mine
namespace Mine
open PySem PySem.W PySem.Calls PyProof.Rows
noncomputable def lawRec : DefRec := match defOf vq (Str.ofString "law") with | some (d, _) => d | none => ⟨"", (fdAt 19).1, [], (fdAt 19).2.2, p0⟩
theorem t_def : defOf vq (Str.ofString "law") = some (lawRec, []) := by kernel_rfl
theorem t_thedef : pw.theDef (Str.ofString "law") = some (lawRec.params, lawRec.body, lawRec.scope) := by kernel_rfl
theorem t_ok : (chainsOk vq && opensWell pw && (frees PySem.Challenge.rw_uc0034_01.row.toRowW && PySem.Challenge.rw_uc0034_01.row.within.isEmpty)) = true := by decide +kernel
noncomputable abbrev theWalk : Prop := WalkX vq looseN (XL vq []) Shared.heap (fun w => Hf w.params) PySem.Challenge.rw_uc0034_01.row.toRowW lawRec [] fun f vs => PySem.call f vs
theorem headed (said : PySem.Challenge.rw_uc0034_01.row.wellSaid = true) (hw : PySem.Challenge.rw_uc0034_01.row.toRowW.promised) (hc : theWalk) : PySem.Challenge.rw_uc0034_01.row.Holds :=
  holds_openX (r := PySem.Challenge.rw_uc0034_01.row) (q := vq) (loose := looseN) (Xt := vXt) (XP := XL vq []) (Yf := Shared.heap) (Ya := fun w => Hf w.params) (N := 280000) left
    (fun s e => xl_of s (Bool.and_eq_true_iff.mp e).1) XL.keeps t_def t_thedef rfl (fun s e => recFacts_of (Bool.and_eq_true_iff.mp e).2) rfl said t_ok ⟨rfl, rfl, rfl, rfl, rfl, by decide +kernel⟩ hw hc
theorem prom : PySem.Challenge.rw_uc0034_01.row.toRowW.promised := by w_witness2
end Mine
namespace Mine
open PySem PySem.W PySem.Calls PyProof.Rows
/-- what a piece of the run may change -/
noncomputable def Upd (W : Addr → Prop) (s s' : Shared) : Prop :=
  ∃ h' tk, s' = { s with heap := h', toks := tk } ∧ s.heap.objs.size ≤ h'.objs.size ∧ ∀ b o, ¬ W b → s.heap.get? b = some o → h'.get? b = some o
noncomputable abbrev noW : Addr → Prop := fun _ => False
namespace Upd
variable {W W' : Addr → Prop} {s s' s'' : Shared}
theorem refl (W) (s : Shared) : Upd W s s := ⟨s.heap, s.toks, rfl, Nat.le_refl _, fun _ _ _ e => e⟩
theorem trans (x : Upd W s s') (y : Upd W s' s'') : Upd W s s'' := by
  obtain ⟨h, t, rfl, l, k⟩ := x
  obtain ⟨h', t', rfl, l', k'⟩ := y
  exact ⟨h', t', rfl, Nat.le_trans l l', fun b o n e => k' b o n (k b o n e)⟩
theorem mono (x : Upd W s s') (h : ∀ b, W b → W' b) : Upd W' s s' := by
  obtain ⟨h', t, rfl, l, k⟩ := x
  exact ⟨h', t, rfl, l, fun b o n e => k b o (fun w => n (h b w)) e⟩
theorem get (x : Upd W s s') {b : Addr} {o : Obj} (n : ¬ W b) (e : s.heap.get? b = some o) : s'.heap.get? b = some o := by
  obtain ⟨h', t, rfl, l, k⟩ := x; exact k b o n e
theorem size (x : Upd W s s') : s.heap.objs.size ≤ s'.heap.objs.size := by obtain ⟨h', t, rfl, l, k⟩ := x; exact l
theorem ns (x : Upd W s s') {a : Addr} {m} (n : ¬ W a) (e : s.heap.Ns a m) : s'.heap.Ns a m :=
  let ⟨o, es, ep, ho, r⟩ := e; ⟨o, es, ep, x.get n ho, r⟩
theorem of_heap {h' : Heap} {tk : Nat} (l : s.heap.objs.size ≤ h'.objs.size) (k : ∀ b o, ¬ W b → s.heap.get? b = some o → h'.get? b = some o) : Upd W s { s with heap := h', toks := tk } := ⟨h', tk, rfl, l, k⟩
theorem toks {t : Nat} : Upd W s { s with toks := t } := ⟨s.heap, t, rfl, Nat.le_refl _, fun _ _ _ e => e⟩
theorem push {o : Obj} {t : Nat} : Upd W s { s with heap := s.heap.push o, toks := t } := ⟨_, t, rfl, by rw [Heap.size_push]; omega, fun _ _ _ e => Heap.get?_push_of_some _ e⟩
theorem same {a : Addr} {h' : Heap} {t : Nat} (hs : Heap.SameBut a s.heap h') (ha : W a) : Upd W s { s with heap := h', toks := t } :=
  ⟨h', t, rfl, Nat.le_of_eq hs.1.symm, fun b _ n e => (hs.2 b (fun q => n (q ▸ ha))).trans e⟩
/-- what is new to s may change at will -/
theorem fresh (x : Upd (fun b => W b ∨ s.heap.objs.size ≤ b) s s') : Upd W s s' := by
  obtain ⟨h', t, rfl, l, k⟩ := x
  exact ⟨h', t, rfl, l, fun b o n e => k b o (fun w => w.elim n fun q => absurd (Heap.lt_size e) (Nat.not_lt.mpr q)) e⟩
theorem then_fresh (x : Upd W s s') (y : Upd (fun b => W b ∨ s.heap.objs.size ≤ b) s' s'') : Upd W s s'' := fresh ((x.mono fun _ => .inl).trans y)
end Upd
noncomputable abbrev lawTab : Addr := 159
noncomputable def Base (w : World) (h : Heap) : Prop := (∀ b o, b ≠ lawTab → (Hf w.params).get? b = some o → h.get? b = some o) ∧ 163 ≤ h.objs.size
theorem Base.upd {w : World} {W : Addr → Prop} {s s' : Shared} (B : Base w s.heap) (x : Upd W s s') (hW : ∀ b, W b → b = lawTab ∨ 163 ≤ b) : Base w s'.heap := by
  refine ⟨fun b o n e => x.get (fun q => ?_) (B.1 b o n e), Nat.le_trans B.2 x.size⟩
  rcases hW b q with h | h
  · exact n h
  · have : b < (Hf w.params).objs.size := Heap.lt_size e
    exact absurd this (Nat.not_lt.mpr h)
theorem Base.upd0 {w : World} {s s' : Shared} (B : Base w s.heap) (x : Upd noW s s') : Base w s'.heap := B.upd x fun _ h => h.elim
noncomputable def entsOf (o : Obj) : Array DictEntry := match o.data with | .dict es _ => es | _ => #[]
noncomputable def keysStr (es : Array DictEntry) : Bool := es.toList.all fun e => match e.key with | .str _ _ => true | _ => false
theorem strKeys_of {es : Array DictEntry} (h : keysStr es = true) : StrKeys es := by
  intro e he
  have := List.all_eq_true.mp h e (Array.mem_toList_iff.mpr he)
  split at this
  · rename_i n t q; exact ⟨n, t, q⟩
  · cases this
noncomputable def mgF (P : Params) (x : Str) : Option Value := nsFind (entsOf (ho3f P)) x
noncomputable def mbF (P : Params) (x : Str) : Option Value := nsFind (entsOf (boot_o_0 P)) x
theorem Base.get {w : World} {h : Heap} (B : Base w h) {b : Addr} {o : Obj} (e : (Hf w.params).get? b = some o) (n : b ≠ lawTab := by decide) : h.get? b = some o := B.1 b o n e
theorem Base.g {w : World} {h : Heap} (B : Base w h) : h.Ns mainGlobals (mgF w.params) := by
  refine ⟨ho3f w.params, entsOf (ho3f w.params), 25, B.get (by kernel_rfl), by kernel_rfl, strKeys_of (by kernel_rfl), fun _ => rfl⟩
theorem Base.b {w : World} {h : Heap} (B : Base w h) : h.Ns builtinsNs (mbF w.params) := by
  refine ⟨boot_o_0 w.params, entsOf (boot_o_0 w.params), 159, B.get (by kernel_rfl), by kernel_rfl, strKeys_of (by kernel_rfl), fun _ => rfl⟩
theorem Base.lim {w : World} {h : Heap} (B : Base w h) : h.NoLimit := by
  refine ⟨fun x => nsFind (entsOf (boot_o_2 w.params)) x, ⟨boot_o_2 w.params, entsOf (boot_o_2 w.params), 0, B.get (by kernel_rfl), by kernel_rfl, strKeys_of (by kernel_rfl), fun _ => rfl⟩, by kernel_rfl⟩
/-- room on the stack -/
noncomputable def Room (n : Nat) (A : Around) : Prop := A.depth + n < recursionLimit ∧ A.units + 10 * n < cLine
theorem Room.deeper {n : Nat} {A : Around} (h : Room (n + 1) A) (env : Env) : Room n (A.deeper env) := ⟨by have := h.1; show A.depth + 1 + n < _; omega, by have := h.2; show A.units + 3 + 10 * n < _; omega⟩
theorem Room.in1 {n : Nat} {A : Around} (h : Room (n + 1) A) : Room n A.in1 := ⟨by have := h.1; show A.depth + n < _; omega, by have := h.2; show A.units + 1 + 10 * n < _; omega⟩
theorem Room.le {n k : Nat} {A : Around} (h : Room n A) (hk : k ≤ n) : Room k A := ⟨by have := h.1; omega, by have := h.2; omega⟩
theorem Room.depth {n : Nat} {A : Around} (h : Room n A) : A.depth < recursionLimit := by have := h.1; omega
theorem Room.units {n : Nat} {A : Around} (h : Room n A) : A.units < cLine := by have := h.2; omega
theorem Room.caller : Room 600 callerA := by constructor <;> decide
end Mine
namespace Mine
open PySem PySem.W PySem.Calls PyProof.Rows
noncomputable section
noncomputable def fdOf (o : Obj) : FuncData := match o.data with | .func f => f | _ => default
noncomputable def bodyOf (fd : FuncData) : List Stmt := match fd.body with | .stmts b => b | _ => []
noncomputable def P0 : Params := { strHash := fun _ => 0, shareClass := fun _ => 0, mergeTok := id, idOf := fun _ => 0, idOfShared := fun _ _ => 0, followText := fun _ => false, idOfImm := fun _ => 0 }
noncomputable def retv : Flow → Value
  | .ret v => v
  | _ => .none
noncomputable def codeNm (h : Heap) : Value → Option Str
  | .ref c => match h.get? c with
    | some o => (match o.data with
      | Data.fields vs => (match (vs[1]? : Option Value) with
        | some (Value.str q _) => some q
        | _ => none)
      | _ => none)
    | none => none
  | _ => none
theorem codeNm_rec {h : Heap} {cd : Value} {q : Str} (e : codeNm h cd = some q) : h.CodeRec cd q := by
  unfold codeNm at e
  split at e
  · rename_i c
    split at e
    · rename_i o ho
      split at e
      · rename_i vs hd
        split at e
        · rename_i q' t hv
          cases e
          exact ⟨c, o, vs, t, rfl, ho, hd, hv⟩
        · cases e
      · cases e
    · cases e
  · cases e
theorem CodeRec_base {w : World} {h : Heap} (B : Base w h) {cd : Value} {q : Str} (x : (Hf w.params).CodeRec cd q) : h.CodeRec cd q := by
  obtain ⟨c, o, vs, t, rfl, ho, hd, hv⟩ := x
  refine ⟨c, o, vs, t, rfl, B.1 c o (fun e => ?_) ho, hd, hv⟩
  subst e
  have e2 : (Hf w.params).get? lawTab = some (ho159 w.params) := by kernel_rfl
  rw [e2] at ho
  cases ho
  have e3 : (ho159 w.params).data = .fields #[] := by kernel_rfl
  rw [e3] at hd
  cases hd
  cases hv
structure FnOk (a : Addr) (fd : FuncData) : Prop where
  obj : ∀ P, ((Hf P).get? a).map (·.data) = some (.func fd)
  code : ∀ P, codeNm (Hf P) fd.code = some fd.qualname
  body : fd.body = .stmts (bodyOf fd)
  ne : a ≠ lawTab
  co : fd.scope.isCoroutine = false
  gen : fd.scope.isGenerator = false
  kind : fd.scope.kind = .function
theorem FnOk.get {a : Addr} {fd : FuncData} (F : FnOk a fd) {w : World} {h : Heap} (B : Base w h) : ∃ o, h.get? a = some o ∧ o.data = .func fd := by
  obtain ⟨o, ho, hd⟩ := Option.map_eq_some_iff.mp (F.obj w.params)
  exact ⟨o, B.1 a o F.ne ho, hd⟩
section
variable {w : World} {A : Around} {s : Shared} {E : Value → Shared → Prop}
theorem fn_call {a : Addr} {fd : FuncData} (F : FnOk a fd) {pos : List Value} {kw : List (Str × Value)} {binds : List (Str × Value)} {Q : Value → Shared → Prop}
    (hr : A.depth < recursionLimit) (B : Base w s.heap) (hbind : BindsTo s fd ⟨pos, kw⟩ binds) (hcell : (fd.scope.names.all fun x => x.2 != .cell) = true) (hloc : ((binds.map (·.1)).all fun n => fd.scope.names.lookup n == some .local) = true)
    (h : ∀ L s₁, s.heap.objs.size ≤ L → Upd noW s s₁ → s₁.heap.Ns L (fun x => binds.reverse.lookup x) →
      wpAny (model pw w) (A.deeper (callEnv fd L a)) (execs (bodyOf fd) (callEnv fd L a)) (fun f s' => Q (retv f) s') (fun _ _ => False) s₁) :
    wpAny (model pw w) A (call (.ref a) pos kw) Q E s := by
  obtain ⟨o, ho, hd⟩ := F.get B
  refine wpAny_call (codeAny_call_def (args := ⟨pos, kw⟩) hr ho hd B.lim (CodeRec_base B (codeNm_rec (F.code _))) F.body hbind (fun x hx => by simpa using List.all_eq_true.mp hcell x hx) (fun x hx => by simpa using List.all_eq_true.mp hloc x.1 (List.mem_map_of_mem hx)) (fun h₀ hn hk => ?_) F.co F.gen F.kind)
  have U : Upd noW s { s with heap := h₀, toks := s.toks + binds.length } := Upd.of_heap (Nat.le_of_lt hn.lt) fun b o _ e => hk b o e
  refine wpAny_mono (h s.heap.objs.size _ (Nat.le_refl _) U hn) (fun f s' q => ?_) fun _ _ q => q.elim
  cases f <;> exact q
end
section
variable {w : World} {A : Around} {s : Shared} {E : Value → Shared → Prop}
-- names
section
variable {env : Env} {x : Str} {pos : Pos} {v : Value} {m : Str → Option Value} {Q : Value → Shared → Prop}
theorem nL (hn : s.heap.Ns env.locals m) (hv : m x = some v) (h : Q v s) (hl : env.kindOf x = some .local := by kernel_rfl) (hk : env.scope.kind = .function := by kernel_rfl) (hd : (x == ("__debug__" : Str)) = false := by kernel_rfl) :
    wpAny (model pw w) A (eval (.Name x pos) env) Q E s := wpAny_Name (wpAny_loadName_local hk hl hn hv h) hd
theorem nG (B : Base w s.heap) (hv : ∀ P, mgF P x = some v) (h : Q v s) (hg : env.globals = mainGlobals := by kernel_rfl) (hl : env.kindOf x = some .globalImplicit := by kernel_rfl) (hk : env.scope.kind = .function := by kernel_rfl) (hd : (x == ("__debug__" : Str)) = false := by kernel_rfl) :
    wpAny (model pw w) A (eval (.Name x pos) env) Q E s := Name_function_global hk hl (loadGlobal_global (by rw [hg]; exact B.g) (hv _) h) hd
theorem nB (B : Base w s.heap) (hm : ∀ P, mgF P x = none) (hv : ∀ P, mbF P x = some v) (h : Q v s) (hg : env.globals = mainGlobals := by kernel_rfl) (hb : env.builtins = builtinsNs := by kernel_rfl) (hl : env.kindOf x = some .globalImplicit := by kernel_rfl) (hk : env.scope.kind = .function := by kernel_rfl) (hd : (x == ("__debug__" : Str)) = false := by kernel_rfl) :
    wpAny (model pw w) A (eval (.Name x pos) env) Q E s := Name_function_global hk hl (loadGlobal_builtin (by rw [hg]; exact B.g) (hm _) (by rw [hb]; exact B.b) (hv _) h) hd
theorem sL {Q : Unit → Shared → Prop} (hn : s.heap.Ns env.locals m)
    (h : ∀ s', Upd (fun b => b = env.locals) s s' → s'.heap.Ns env.locals (fun y => if y = x then some v else m y) → Q () s') (hl : env.kindOf x = some .local := by kernel_rfl) (hk : env.scope.kind = .function := by kernel_rfl) :
    wpAny (model pw w) A (storeName env x v) Q E s :=
  wpAny_storeName_local hl hn (fun h' hn' hs => h _ (Upd.same hs rfl) hn') (by rw [hk]; rfl)
end
noncomputable abbrev fdXfrm : FuncData := fdOf (ho128 P0)
theorem okXfrm : FnOk 128 fdXfrm := ⟨fun P => by kernel_rfl, fun P => by kernel_rfl, by kernel_rfl, by decide, by kernel_rfl, by kernel_rfl, by kernel_rfl⟩
theorem strxfrm_call {Q : Value → Shared → Prop} {v : Value} (hr : Room 5 A) (B : Base w s.heap) (h : ∀ s', Upd noW s s' → Q v s') : wpAny (model pw w) A (call (.ref 128) [v] []) Q E s := by
  refine fn_call okXfrm (binds := [(Str.ofString "s", v)]) hr.depth B (.of_eq (by kernel_rfl)) (by kernel_rfl) (by kernel_rfl) (fun L s₁ hL U hn => ?_)
  refine wpAny_execs_cons (wpAny_Return_some ?_)
  refine nL hn (v := v) (by kernel_rfl) ?_
  exact h _ U
end
end
end Mine
namespace Mine
open PySem PySem.W PySem.Calls PyProof.Rows
noncomputable section
noncomputable abbrev cl (x : Str) : List Nat := x.cps.toList
end
section
variable {w : World} {A : Around} {s : Shared} {E : Value → Shared → Prop}
noncomputable abbrev fdColl : FuncData := fdOf (ho121 P0)
theorem okColl : FnOk 121 fdColl := ⟨fun P => by kernel_rfl, fun P => by kernel_rfl, by kernel_rfl, by decide, by kernel_rfl, by kernel_rfl, by kernel_rfl⟩
theorem strcoll_call {Q : Value → Shared → Prop} {x y : Str} {t u : Tok} (hr : Room 5 A) (B : Base w s.heap)
    (h : ∀ k s', Upd noW s s' → Q (.int (b2i (decide (y.cps.toList < x.cps.toList)) - b2i (decide (x.cps.toList < y.cps.toList))) k) s') : wpAny (model pw w) A (call (.ref 121) [.str x t, .str y u] []) Q E s := by
  refine fn_call okColl (binds := [(Str.ofString "a", .str x t), (Str.ofString "b", .str y u)]) hr.depth B (.of_eq (by kernel_rfl)) (by kernel_rfl) (by kernel_rfl) (fun L s₁ hL U hn => ?_)
  refine wpAny_execs_cons (wpAny_Return_some ?_)
  refine wpAny_BinOp (wpAny_Compare1 ?_)
  refine nL hn (v := .str x t) (by kernel_rfl) (nL hn (v := .str y u) (by kernel_rfl) (P.gt_str ?_))
  refine wpAny_Compare1 ?_
  refine nL hn (v := .str x t) (by kernel_rfl) (nL hn (v := .str y u) (by kernel_rfl) (P.lt_str ?_))
  refine sub_bool ?_
  exact h _ _ (U.trans .toks)
end
end Mine
namespace Mine
open PySem PySem.W PySem.Calls PyProof.Rows
/-- reading runs: a tree that only reads known objects -/
noncomputable def peek {α : Type} (g : Addr → Option Obj) : Nat → Sem α → Option α
  | 0, _ => none
  | _ + 1, .pure a => some a
  | n + 1, .rule _ k => peek g n (k ())
  | n + 1, .at _ k => peek g n (k ())
  | n + 1, .load a _ k => match g a with
    | some o => peek g n (k o)
    | none => none
  | _ + 1, _ => none
theorem peek_sound {α : Type} {g : Addr → Option Obj} {M : Model} {A : Around} {E : Value → Shared → Prop} {s : Shared} {Q : α → Shared → Prop} {a : α} (hg : ∀ b o, g b = some o → s.heap.get? b = some o) (hq : Q a s) :
    ∀ (n : Nat) (t : Sem α), peek g n t = some a → wpAny M A t Q E s
  | 0, _, h => by simp [peek] at h
  | n + 1, .pure b, h => by
    rw [peek] at h; cases h; exact wpAny_pure hq
  | n + 1, .rule t k, h => by
    rw [peek] at h
    exact wpAny_bind (m := Sem.rule t Sem.pure) (f := k) (fun _ _ _ => peek_sound hg hq n (k ()) h)
  | n + 1, .at p k, h => by
    rw [peek] at h
    exact fun Γ _ hΓ => peek_sound hg hq n (k ()) h Γ _ hΓ
  | n + 1, .load b part k, h => by
    rw [peek] at h
    split at h
    · rename_i o ho
      exact wpAny_bind (m := Sem.load b part Sem.pure) (f := k) (wpAny_loadPart (hg _ _ ho) (peek_sound hg hq n (k o) h))
    · cases h
  | n + 1, .raise _, h | n + 1, .unsupported _, h | n + 1, .finish _, h | n + 1, .update .., h | n + 1, .alloc .., h | n + 1, .loadIfAlive .., h | n + 1, .point .., h | n + 1, .register .., h | n + 1, .fresh _, h
  | n + 1, .ask _, h | n + 1, .choose .., h | n + 1, .os .., h | n + 1, .call .., h | n + 1, .handled .., h | n + 1, .newGen .., h | n + 1, .genState .., h | n + 1, .resume .., h | n + 1, .yield .., h | n + 1, .stack _, h
  | n + 1, .fork .., h | n + 1, .thread _, h | n + 1, .await .., h => by simp [peek] at h
noncomputable section
noncomputable def gOf (P : Params) (b : Addr) : Option Obj := if b == lawTab then none else (Hf P).get? b
theorem BindsTo.peeked {w : World} {s : Shared} {fd : FuncData} {args : Args} {binds : List (Str × Value)} (B : Base w s.heap) (h : peek (gOf w.params) 200 (bindArgs fd args) = some binds) : BindsTo s fd args binds :=
  fun _ _ _ _ hq => peek_sound (g := gOf w.params) (fun b o e => by
    unfold gOf at e
    split at e
    · cases e
    · rename_i hne
      exact B.1 b o (by simpa using hne) e) hq 200 _ h
noncomputable abbrev fdBL : FuncData := fdOf (ho114 P0)
theorem okBL : FnOk 114 fdBL := ⟨fun P => by kernel_rfl, fun P => by kernel_rfl, by kernel_rfl, by decide, by kernel_rfl, by kernel_rfl, by kernel_rfl⟩
section
variable {w : World} {A : Around} {s : Shared} {E : Value → Shared → Prop}
noncomputable abbrev bb (a x lo hi key : Value) : List (Str × Value) := [(Str.ofString "a", a), (Str.ofString "x", x), (Str.ofString "lo", lo), (Str.ofString "hi", hi), (Str.ofString "key", key)]
theorem bl_bind2 (B : Base w s.heap) {a x : Value} : BindsTo s fdBL ⟨[a, x], []⟩ (bb a x (.int 0 2257) .none .none) := Mine.BindsTo.peeked B (by kernel_rfl)
theorem bl_bind4 (B : Base w s.heap) {a x lo hi : Value} : BindsTo s fdBL ⟨[a, x, lo, hi], []⟩ (bb a x lo hi .none) := Mine.BindsTo.peeked B (by kernel_rfl)
theorem bl_bind4k (B : Base w s.heap) {a x lo hi key : Value} : BindsTo s fdBL ⟨[a, x, lo, hi], [(Str.ofString "key", key)]⟩ (bb a x lo hi key) := Mine.BindsTo.peeked B (by kernel_rfl)
theorem bl_bind2k (B : Base w s.heap) {a x key : Value} : BindsTo s fdBL ⟨[a, x], [(Str.ofString "key", key)]⟩ (bb a x (.int 0 2257) .none key) := Mine.BindsTo.peeked B (by kernel_rfl)
end
end
end Mine
namespace Mine
open PySem PySem.W PySem.Calls PyProof.Rows
noncomputable section
section
variable {w : World} {A : Around} {s : Shared} {E : Value → Shared → Prop} {Q : Value → Shared → Prop} {env : Env}
theorem gcall {a : Addr} {fd : FuncData} {pos : Pos} {args : List (Bool × Sem Value)} {kws : List (Option Str × Sem Value)} (F : FnOk a fd)
    (h : wpAny (model pw w) A (evalArgs (.ref a) true args kws) (fun x s₁ => Base w s₁.heap ∧ wpAny (model pw w) A (call (.ref a) x.pos x.kw) Q E s₁) E s) :
    wpAny (model pw w) A (callWith pos (.ref a) [] args kws) Q E s := by
  obtain ⟨o, ho, hd⟩ := Option.map_eq_some_iff.mp (F.obj w.params)
  exact callWith_function_kw (o := o) (fd := fd) (wpAny_mono h (fun x s₁ q => ⟨⟨q.1.1 a o F.ne ho, hd⟩, q.2⟩) fun _ _ q => q)
theorem call_ {f : Str} {p pos : Pos} {args : List Expr} {kws : List Keyword} {trees : List (Bool × Sem Value)} {kts : List (Option Str × Sem Value)} (ht : backTo pos (starEach args env) = trees) (hk : backToKw pos (keywordEach kws env) = kts)
    (h : wpAny (model pw w) A (eval (.Name f p) env) (fun f s₁ => wpAny (model pw w) A (callWith pos f [] trees kts) Q E s₁) E s) :
    wpAny (model pw w) A (eval (.Call (.Name f p) args kws pos) env) Q E s := by
  subst ht; subst hk; exact wpAny_Call_Name_kw h
theorem callG1 {f : Str} {p pos : Pos} {e : Expr} {a : Addr} {fd : FuncData} (F : FnOk a fd) (B : Base w s.heap) (hv : ∀ P, mgF P f = some (.ref a))
    (h : wpAny (model pw w) A (eval e env) (fun v s₁ => Base w s₁.heap ∧ wpAny (model pw w) A (call (.ref a) [v] []) Q E s₁) E s)
    (hs : starEach [e] env = [(false, eval e env)] := by with_unfolding_all rfl) (hg : env.globals = mainGlobals := by kernel_rfl) (hl : env.kindOf f = some .globalImplicit := by kernel_rfl) (hk : env.scope.kind = .function := by kernel_rfl) (hd : (f == ("__debug__" : Str)) = false := by kernel_rfl) :
    wpAny (model pw w) A (eval (.Call (.Name f p) [e] [] pos) env) Q E s :=
  call_ (trees := [(false, eval e env)]) (kts := []) (by rw [hs]; rfl) rfl (nG B hv (gcall F (evalArgs_plain (spliced_cons (wpAny_mono h (fun _ _ q => spliced_nil q) fun _ _ q => q)))) hg hl hk hd)
theorem callG2 {f : Str} {p pos : Pos} {e e' : Expr} {a : Addr} {fd : FuncData} (F : FnOk a fd) (B : Base w s.heap) (hv : ∀ P, mgF P f = some (.ref a))
    (h : wpAny (model pw w) A (eval e env) (fun v s₁ => wpAny (model pw w) A (eval e' env) (fun v' s₂ => Base w s₂.heap ∧ wpAny (model pw w) A (call (.ref a) [v, v'] []) Q E s₂) E s₁) E s)
    (hs : starEach [e, e'] env = [(false, eval e env), (false, eval e' env)] := by with_unfolding_all rfl) (hg : env.globals = mainGlobals := by kernel_rfl) (hl : env.kindOf f = some .globalImplicit := by kernel_rfl) (hk : env.scope.kind = .function := by kernel_rfl) (hd : (f == ("__debug__" : Str)) = false := by kernel_rfl) :
    wpAny (model pw w) A (eval (.Call (.Name f p) [e, e'] [] pos) env) Q E s :=
  call_ (trees := [(false, eval e env), (false, eval e' env)]) (kts := []) (by rw [hs]; rfl) rfl (nG B hv (gcall F (evalArgs_plain (spliced_cons (wpAny_mono h (fun _ _ q => spliced_cons (wpAny_mono q (fun _ _ q => spliced_nil q) fun _ _ q => q)) fun _ _ q => q)))) hg hl hk hd)
theorem callB1 {f : Str} {p pos : Pos} {e : Expr} {id : String} (B : Base w s.heap) (hm : ∀ P, mgF P f = none) (hv : ∀ P, mbF P f = some (.builtin id))
    (h : wpAny (model pw w) A (eval e env) (fun v s₁ => wpAny (model pw w) A (call (.builtin id) [v] []) Q E s₁) E s)
    (hs : starEach [e] env = [(false, eval e env)] := by with_unfolding_all rfl) (hg : env.globals = mainGlobals := by kernel_rfl) (hb : env.builtins = builtinsNs := by kernel_rfl) (hl : env.kindOf f = some .globalImplicit := by kernel_rfl) (hk : env.scope.kind = .function := by kernel_rfl) (hd : (f == ("__debug__" : Str)) = false := by kernel_rfl) :
    wpAny (model pw w) A (eval (.Call (.Name f p) [e] [] pos) env) Q E s :=
  call_ (trees := [(false, eval e env)]) (kts := []) (by rw [hs]; rfl) rfl (nB B hm hv (callWith_builtin rfl (evalArgs_plain (spliced_cons (wpAny_mono h (fun _ _ q => spliced_nil q) fun _ _ q => q)))) hg hb hl hk hd)
end
section
variable {w : World} {A : Around} {s : Shared} {E : Value → Shared → Prop} {Q : Flow → Shared → Prop} {env : Env}
/-- an if whose test gives a known answer -/
theorem ifC {l r : Expr} {op : CmpOp} {p pos : Pos} {body orelse rest : List Stmt}
    (h : wpAny (model pw w) A (eval l env) (fun a s₁ => wpAny (model pw w) A (eval r env) (fun b s₂ => wpAny (model pw w) A (compareOp op a b) (fun c s₃ => wpAny (model pw w) A (truthy c) (fun t s₄ =>
      if t then wpAny (model pw w) A (execs body env) (fun f s' => match f with | .next => wpAny (model pw w) A (execs rest env) Q E s' | f => Q f s') E s₄
      else wpAny (model pw w) A (execs orelse env) (fun f s' => match f with | .next => wpAny (model pw w) A (execs rest env) Q E s' | f => Q f s') E s₄) E s₃) E s₂) E s₁) E s)
    (hm : behindInMarks op r = false := by with_unfolding_all rfl) :
    wpAny (model pw w) A (execs (.If (.Compare l [op] [r] p) body orelse pos :: rest) env) Q E s :=
  wpAny_execs_cons (wpAny_If (wpAny_isTrue_Compare1 h hm))
theorem asg {x : Str} {p pos : Pos} {v : Expr} {rest : List Stmt}
    (h : wpAny (model pw w) A (eval v env) (fun v s₁ => wpAny (model pw w) A (storeName env x v) (fun _ s₂ => wpAny (model pw w) A (execs rest env) Q E s₂) E s₁) E s)
    (hs : swapsWith v (some (.Name x p)) pos.line env = pure false := by with_unfolding_all rfl) :
    wpAny (model pw w) A (execs (.Assign [.Name x p] v pos :: rest) env) Q E s :=
  wpAny_execs_cons (wpAny_Assign_Name (wpAny_mono h (fun _ _ q => wpAny_mono q (fun _ _ q => q) fun _ _ q => q) fun _ _ q => q) hs)
end
section
variable {w : World} {A : Around} {s : Shared} {E : Value → Shared → Prop}
/-- what bisect answers -/
noncomputable def Bis (p : Nat → Bool) (n r : Nat) : Prop := r ≤ n ∧ (r = 0 ∨ p (r - 1) = true) ∧ (r = n ∨ p r = false)
noncomputable abbrev sA : Str := Str.ofString "a"
noncomputable abbrev sX : Str := Str.ofString "x"
noncomputable abbrev sLo : Str := Str.ofString "lo"
noncomputable abbrev sHi : Str := Str.ofString "hi"
noncomputable abbrev sKey : Str := Str.ofString "key"
noncomputable abbrev sMid : Str := Str.ofString "mid"
structure BI (s₀ : Shared) (L a : Addr) (p : Nat → Bool) (n : Nat) (x key : Value) (lo hi : Nat) (s : Shared) : Prop where
  upd : Upd (fun b => b = L) s₀ s
  ns : ∃ m t t', s.heap.Ns L m ∧ m sA = some (.ref a) ∧ m sX = some x ∧ m sKey = some key ∧ m sLo = some (.int lo t) ∧ m sHi = some (.int hi t')
  le : lo ≤ hi
  top : hi ≤ n
  l : lo = 0 ∨ p (lo - 1) = true
  r : hi = n ∨ p hi = false
/-- the state in the turn, mid bound -/
structure BM (s₀ : Shared) (L a : Addr) (x key : Value) (lo hi mid : Nat) (s : Shared) : Prop where
  upd : Upd (fun b => b = L) s₀ s
  ns : ∃ m t t' t'', s.heap.Ns L m ∧ m sA = some (.ref a) ∧ m sX = some x ∧ m sKey = some key ∧ m sLo = some (.int lo t) ∧ m sHi = some (.int hi t') ∧ m sMid = some (.int mid t'')
theorem execs_one {st : Stmt} {env : Env} {Q : Flow → Shared → Prop} (h : wpAny (model pw w) A (exec st env) Q E s) : wpAny (model pw w) A (execs [st] env) Q E s :=
  wpAny_execs_cons (wpAny_mono h (fun f s' q => by cases f <;> first | exact wpAny_execs_nil q | exact q) fun _ _ q => q)
noncomputable abbrev BEnv (env : Env) (L : Addr) : Prop := env.locals = L ∧ env.scope.kind = .function ∧ env.kindOf sLo = some .local ∧ env.kindOf sHi = some .local ∧ env.kindOf sMid = some .local ∧ env.kindOf sA = some .local ∧ env.kindOf sX = some .local ∧ env.kindOf sKey = some .local
section
variable {s₀ : Shared} {L a : Addr} {p : Nat → Bool} {n lo hi mid : Nat} {x key : Value} {env : Env} {Q : Flow → Shared → Prop}
theorem set_lo {p1 p2 p3 p4 p5 : Pos} {k} (X : BEnv env L) (b : BM s₀ L a x key lo hi mid s) (h1 : lo ≤ mid) (h2 : mid < hi) (hhi : hi ≤ n) (hr : hi = n ∨ p hi = false) (hp : p mid = true)
    (h : ∀ s', BI s₀ L a p n x key (mid + 1) hi s' → Q .next s') :
    wpAny (model pw w) A (execs [.Assign [.Name sLo p1] (.BinOp (.Name sMid p2) .Add (.Constant (.int 1) k p3) p4) p5] env) Q E s := by
  obtain ⟨U, m, t, t', t'', hn, ha, hx, hk, hlo, hhi', hm⟩ := b
  obtain ⟨rfl, X1, X2, X3, X4, X5, X6, X7⟩ := X
  refine asg ?_
  refine wpAny_BinOp (nL hn hm (wpAny_Constant_int (add_int ?_)) X4 X1)
  refine sL (s := { s with toks := s.toks + 1 + 1 }) hn (fun s' U' hn' => wpAny_execs_nil (h s' ⟨(U.trans .toks).trans U', ⟨_, s.toks + 1, t', hn', ?_, ?_, ?_, ?_, ?_⟩, by omega, hhi, .inr (by simpa using hp), hr⟩)) X2 X1
  · rw [if_neg (by decide)]; exact ha
  · rw [if_neg (by decide)]; exact hx
  · rw [if_neg (by decide)]; exact hk
  · rw [if_pos rfl]; rfl
  · rw [if_neg (by decide)]; exact hhi'
theorem set_hi {p1 p2 p3 : Pos} (X : BEnv env L) (b : BM s₀ L a x key lo hi mid s) (h1 : lo ≤ mid) (h2 : mid < hi) (hhi : hi ≤ n) (hl : lo = 0 ∨ p (lo - 1) = true) (hp : p mid = false)
    (h : ∀ s', BI s₀ L a p n x key lo mid s' → Q .next s') :
    wpAny (model pw w) A (execs [.Assign [.Name sHi p1] (.Name sMid p2) p3] env) Q E s := by
  obtain ⟨U, m, t, t', t'', hn, ha, hx, hk, hlo, hhi', hm⟩ := b
  obtain ⟨rfl, X1, X2, X3, X4, X5, X6, X7⟩ := X
  refine asg ?_
  refine nL hn hm ?_ X4 X1
  refine sL hn (fun s' U' hn' => wpAny_execs_nil (h s' ⟨U.trans U', ⟨_, t, t'', hn', ?_, ?_, ?_, ?_, ?_⟩, by omega, by omega, hl, .inr hp⟩)) X3 X1
  · rw [if_neg (by decide)]; exact ha
  · rw [if_neg (by decide)]; exact hx
  · rw [if_neg (by decide)]; exact hk
  · rw [if_neg (by decide)]; exact hlo
  · rw [if_pos rfl]
theorem BM.next {s₀ : Shared} {L a : Addr} {x key : Value} {lo hi mid : Nat} {s s' : Shared} (b : BM s₀ L a x key lo hi mid s) (u : Upd noW s s') : BM s₀ L a x key lo hi mid s' :=
  let ⟨U, m, t, t', t'', hn, r⟩ := b
  ⟨U.trans (u.mono fun _ h => h.elim), m, t, t', t'', u.ns id hn, r⟩
theorem set_mid {p1 p2 p3 p4 p5 p6 p7 : Pos} {k} {rest : List Stmt} {hl : lo < hi} (X : BEnv env L) (b : BI s₀ L a p n x key lo hi s)
    (h : ∀ s', BM s₀ L a x key lo hi ((lo + hi) / 2) s' → wpAny (model pw w) A (execs rest env) Q E s') :
    wpAny (model pw w) A (execs (.Assign [.Name sMid p1] (.BinOp (.BinOp (.Name sLo p2) .Add (.Name sHi p3) p4) .FloorDiv (.Constant (.int 2) k p5) p6) p7 :: rest) env) Q E s := by
  obtain ⟨U, ⟨m, t, t', hn, ha, hx, hk, hlo, hhi⟩, _, _, _, _⟩ := b
  obtain ⟨rfl, X1, X2, X3, X4, X5, X6, X7⟩ := X
  refine asg (wpAny_BinOp (wpAny_BinOp (nL hn hlo (nL hn hhi (add_int (wpAny_Constant_int (floordiv_int (by decide) ?_))) X3 X1) X2 X1)))
  have e : ((lo : Int) + hi).fdiv 2 = (((lo + hi) / 2 : Nat) : Int) := by rw [Int.fdiv_eq_ediv_of_nonneg _ (by decide)]; omega
  rw [e]
  refine sL (s := { s with toks := s.toks + 1 + 1 + 1 }) hn (fun s' U' hn' => h s' ⟨(U.trans .toks).trans U', _, t, t', s.toks + 1 + 1, hn', ?_, ?_, ?_, ?_, ?_, ?_⟩) X4 X1
  · rw [if_neg (by decide)]; exact ha
  · rw [if_neg (by decide)]; exact hx
  · rw [if_neg (by decide)]; exact hk
  · rw [if_neg (by decide)]; exact hlo
  · rw [if_neg (by decide)]; exact hhi
  · rw [if_pos rfl]
theorem loop_test {p1 p2 p3 : Pos} {Q : Bool → Shared → Prop} (X : BEnv env L) (b : BI s₀ L a p n x key lo hi s) (h : Q (decide (lo < hi)) s) {whole : Sem Value} :
    wpAny (model pw w) A (isTrue (.Compare (.Name sLo p1) [.Lt] [.Name sHi p2] p3) env whole) Q E s := by
  obtain ⟨U, ⟨m, t, t', hn, ha, hx, hk, hlo, hhi⟩, _, _, _, _⟩ := b
  obtain ⟨rfl, X1, X2, X3, X4, X5, X6, X7⟩ := X
  refine wpAny_isTrue_Compare1 (nL hn hlo (nL hn hhi (lt_int (wpAny_truthy_bool ?_)) X3 X1) X2 X1)
  have e : decide ((lo : Int) < (hi : Int)) = decide (lo < hi) := by simp
  rw [e]; exact h
noncomputable abbrev midP (p1 p2 p3 p4 p5 p6 p7 : Pos) (k : Nat) : Stmt := .Assign [.Name sMid p1] (.BinOp (.BinOp (.Name sLo p2) .Add (.Name sHi p3) p4) .FloorDiv (.Constant (.int 2) k p5) p6) p7
noncomputable abbrev setLo (p1 p2 p3 p4 p5 : Pos) (k : Nat) : Stmt := .Assign [.Name sLo p1] (.BinOp (.Name sMid p2) .Add (.Constant (.int 1) k p3) p4) p5
noncomputable abbrev setHi (p1 p2 p3 : Pos) : Stmt := .Assign [.Name sHi p1] (.Name sMid p2) p3
noncomputable def TestOf (w : World) (A : Around) (env : Env) (s₀ : Shared) (L a : Addr) (n : Nat) (x key : Value) (p : Nat → Bool) (test : Expr) : Prop :=
  ∀ lo hi mid s' (Q' : Bool → Shared → Prop) (E' : Value → Shared → Prop), mid < n → BM s₀ L a x key lo hi mid s' → (∀ s'', Upd noW s' s'' → Q' (p mid) s'') → wpAny (model pw w) A (isTrue test env (eval test env)) Q' E' s'
theorem loop_left {test : Expr} {p1 p2 p3 q1 q2 q3 q4 q5 q6 q7 r1 r2 r3 r4 r5 u1 u2 u3 v z : Pos} {k k' : Nat} (X : BEnv env L) (hn : lo ≤ hi) (b : BI s₀ L a p n x key lo hi s) (ht : TestOf w A env s₀ L a n x key p test)
    (h : ∀ r s', BI s₀ L a p n x key r r s' → Q .next s') :
    wpAny (model pw w) A (exec (.While (.Compare (.Name sLo p1) [.Lt] [.Name sHi p2] p3) [midP q1 q2 q3 q4 q5 q6 q7 k, .If test [setLo r1 r2 r3 r4 r5 k'] [setHi u1 u2 u3] v] [] z) env) Q E s := by
  refine wpAny_While (codeAny_whileLoop (fun i s => ∃ lo hi, i = hi - lo ∧ BI s₀ L a p n x key lo hi s) ?_ (hi - lo) ⟨lo, hi, rfl, b⟩)
  rintro i s₁ ⟨lo, hi, rfl, b⟩
  refine loop_test X b ?_
  by_cases hlt : lo < hi
  · rw [decide_eq_true hlt]
    refine set_mid (hl := hlt) X b fun s₂ b₂ => ?_
    have h1 : lo ≤ (lo + hi) / 2 := by omega
    have h2 : (lo + hi) / 2 < hi := by omega
    refine execs_one (wpAny_If (ht _ _ _ _ _ _ (Nat.lt_of_lt_of_le h2 b.top) b₂ fun s₃ u => ?_))
    cases hp : p ((lo + hi) / 2) with
    | true => exact set_lo X (b₂.next u) h1 h2 b.top b.r hp fun s' b' => ⟨_, by omega, _, _, rfl, b'⟩
    | false => exact set_hi X (b₂.next u) h1 h2 b.top b.l hp fun s' b' => ⟨_, by omega, _, _, rfl, b'⟩
  · rw [decide_eq_false hlt]
    have e : lo = hi := Nat.le_antisymm b.le (Nat.not_lt.mp hlt)
    subst e
    exact wpAny_execs_nil (h _ _ b)
theorem loop_right {test : Expr} {p1 p2 p3 q1 q2 q3 q4 q5 q6 q7 r1 r2 r3 r4 r5 u1 u2 u3 v z : Pos} {k k' : Nat} (X : BEnv env L) (hn : lo ≤ hi) (b : BI s₀ L a p n x key lo hi s) (ht : TestOf w A env s₀ L a n x key (fun i => !p i) test)
    (h : ∀ r s', BI s₀ L a p n x key r r s' → Q .next s') :
    wpAny (model pw w) A (exec (.While (.Compare (.Name sLo p1) [.Lt] [.Name sHi p2] p3) [midP q1 q2 q3 q4 q5 q6 q7 k, .If test [setHi u1 u2 u3] [setLo r1 r2 r3 r4 r5 k'] v] [] z) env) Q E s := by
  refine wpAny_While (codeAny_whileLoop (fun i s => ∃ lo hi, i = hi - lo ∧ BI s₀ L a p n x key lo hi s) ?_ (hi - lo) ⟨lo, hi, rfl, b⟩)
  rintro i s₁ ⟨lo, hi, rfl, b⟩
  refine loop_test X b ?_
  by_cases hlt : lo < hi
  · rw [decide_eq_true hlt]
    refine set_mid (hl := hlt) X b fun s₂ b₂ => ?_
    have h1 : lo ≤ (lo + hi) / 2 := by omega
    have h2 : (lo + hi) / 2 < hi := by omega
    refine execs_one (wpAny_If (ht _ _ _ _ _ _ (Nat.lt_of_lt_of_le h2 b.top) b₂ fun s₃ u => ?_))
    show (if (!p _) = true then _ else _)
    cases hp : p ((lo + hi) / 2) with
    | true => exact set_lo X (b₂.next u) h1 h2 b.top b.r hp fun s' b' => ⟨_, by omega, _, _, rfl, b'⟩
    | false => exact set_hi X (b₂.next u) h1 h2 b.top b.l hp fun s' b' => ⟨_, by omega, _, _, rfl, b'⟩
  · rw [decide_eq_false hlt]
    have e : lo = hi := Nat.le_antisymm b.le (Nat.not_lt.mp hlt)
    subst e
    exact wpAny_execs_nil (h _ _ b)
end
end
end
end Mine
namespace Mine
open PySem PySem.W PySem.Calls PyProof.Rows
noncomputable section
noncomputable abbrev IsFn (h : Heap) (a : Addr) : Prop := ∃ o fd, h.get? a = some o ∧ o.data = .func fd
section
variable {w : World} {A : Around} {s : Shared} {E : Value → Shared → Prop} {env : Env}
theorem isl_upd {W : Addr → Prop} {s s' : Shared} {a : Addr} {items : Array Value} (x : s.heap.IsList a items) (u : Upd W s s') (n : ¬ W a) : s'.heap.IsList a items :=
  x.at fun _ e => u.get n e
/-- a[mid] -/
theorem sub_mid {s₀ : Shared} {L a : Addr} {x key : Value} {lo hi mid : Nat} {items : Array Value} {v : Value} {Q : Value → Shared → Prop} {p1 p2 p3 : Pos} (X : BEnv env L) (b : BM s₀ L a x key lo hi mid s) (hl : s₀.heap.IsList a items) (hne : a ≠ L) (hv : items[mid]? = some v) (hsz : items.size < 2 ^ 62)
    (h : Q v s) : wpAny (model pw w) A (eval (.Subscript (.Name sA p1) (.Name sMid p2) p3) env) Q E s := by
  obtain ⟨U, m, t, t', t'', hn, ha, hx, hk, hlo, hhi', hm⟩ := b
  obtain ⟨rfl, X1, X2, X3, X4, X5, X6, X7⟩ := X
  have hl' := isl_upd hl U hne
  refine wpAny_Subscript_Name slot_list_getitem.lookup (nL hn ha (nL hn hm ⟨hl'.typeIs, wpAny_getItem_list hl' (by omega) ?_ (by simpa using hv) h⟩ X4 X1) X5 X1)
  have : mid < items.size := by
    by_cases hlt : mid < items.size
    · exact hlt
    · rw [Array.getElem?_eq_none (by omega)] at hv; cases hv
  omega
theorem test_left_none {s₀ : Shared} {L a : Addr} {n : Nat} {x : Str} {t : Tok} {p : Nat → Bool} {items : Array Value} {p1 p2 p3 p4 p5 : Pos} (X : BEnv env L) (hl : s₀.heap.IsList a items) (hne : a ≠ L) (hsz : items.size < 2 ^ 62)
    (hp : ∀ i, i < n → ∃ y u, items[i]? = some (.str y u) ∧ p i = decide (y.cps.toList < x.cps.toList)) :
    TestOf w A env s₀ L a n (.str x t) .none p (.Compare (.Subscript (.Name sA p1) (.Name sMid p2) p3) [.Lt] [.Name sX p4] p5) := by
  intro lo hi mid s' Q' E' hm b h
  obtain ⟨y, u, hv, e⟩ := hp mid hm
  refine wpAny_isTrue_Compare1 (sub_mid X b hl hne hv hsz ?_)
  obtain ⟨U, m, t, t', t'', hn, ha, hx, hk, hlo, hhi', hmm⟩ := b
  obtain ⟨rfl, X1, X2, X3, X4, X5, X6, X7⟩ := X
  refine nL hn hx (P.lt_str (wpAny_truthy_bool ?_)) X6 X1
  rw [e] at h
  exact h _ (.refl _ _)
theorem test_right_none {s₀ : Shared} {L a : Addr} {n : Nat} {x : Str} {t : Tok} {p : Nat → Bool} {items : Array Value} {p1 p2 p3 p4 p5 : Pos} (X : BEnv env L) (hl : s₀.heap.IsList a items) (hne : a ≠ L) (hsz : items.size < 2 ^ 62)
    (hp : ∀ i, i < n → ∃ y u, items[i]? = some (.str y u) ∧ p i = decide (x.cps.toList < y.cps.toList)) :
    TestOf w A env s₀ L a n (.str x t) .none p (.Compare (.Name sX p4) [.Lt] [.Subscript (.Name sA p1) (.Name sMid p2) p3] p5) := by
  intro lo hi mid s' Q' E' hm b h
  obtain ⟨y, u, hv, e⟩ := hp mid hm
  have b' := b
  have X' := X
  obtain ⟨U, m, t, t', t'', hn, ha, hx, hk, hlo, hhi', hmm⟩ := b'
  obtain ⟨rfl, X1, X2, X3, X4, X5, X6, X7⟩ := X'
  refine wpAny_isTrue_Compare1 (nL hn hx (sub_mid X b hl hne hv hsz ?_) X6 X1)
  refine P.lt_str (wpAny_truthy_bool ?_)
  rw [e] at h
  exact h _ (.refl _ _)
/-- what a key must do -/
noncomputable def KeyOk (w : World) (A : Around) (s₀ : Shared) (ka : Addr) (items : Array Value) (n : Nat) (ks : Nat → List Nat) : Prop :=
  IsFn s₀.heap ka ∧ ∀ i, i < n → ∃ v, items[i]? = some v ∧ ∀ s' (Q' : Value → Shared → Prop) (E' : Value → Shared → Prop), (∀ b o, b < s₀.heap.objs.size → s₀.heap.get? b = some o → s'.heap.get? b = some o) → s₀.heap.objs.size ≤ s'.heap.objs.size →
    (∀ s'' y u, Upd noW s' s'' → y.cps.toList = ks i → Q' (.str y u) s'') → wpAny (model pw w) A (call (.ref ka) [v] []) Q' E' s'
/-- key(a[mid]) -/
theorem key_mid {s₀ s₁ : Shared} {L a ka : Addr} {x : Value} {lo hi mid n : Nat} {items : Array Value} {ks : Nat → List Nat} {Q : Value → Shared → Prop} {p1 p2 p3 p4 p5 : Pos} (X : BEnv env L) (b : BM s₀ L a x (.ref ka) lo hi mid s) (hl : s₀.heap.IsList a items) (hne : a ≠ L) (hsz : items.size < 2 ^ 62)
    (hL : s₁.heap.objs.size ≤ L) (u : Upd noW s₁ s₀) (K : KeyOk w A s₁ ka items n ks) (hm : mid < n)
    (h : ∀ s' y u, Upd noW s s' → y.cps.toList = ks mid → Q (.str y u) s') : wpAny (model pw w) A (eval (.Call (.Name sKey p4) [.Subscript (.Name sA p1) (.Name sMid p2) p3] [] p5) env) Q E s := by
  obtain ⟨v, hv, hk⟩ := K.2 mid hm
  obtain ⟨o, fd, ho, hd⟩ := K.1
  have keep : ∀ b o, b < s₁.heap.objs.size → s₁.heap.get? b = some o → s.heap.get? b = some o := fun c o hc e => b.upd.get (fun q => absurd (q ▸ hc) (Nat.not_lt.mpr hL)) (u.get id e)
  have b' := b
  have X' := X
  obtain ⟨U, m, t, t', t'', hn, ha, hx, hkk, hlo, hhi', hmm⟩ := b'
  obtain ⟨rfl, X1, X2, X3, X4, X5, X6, X7⟩ := X'
  refine call_ (trees := [(false, eval (.Subscript (.Name sA p1) (.Name sMid p2) p3) env)]) (kts := []) rfl rfl (nL hn hkk (callWith_function_kw (o := o) (fd := fd) (evalArgs_plain (spliced_cons (sub_mid X b hl hne hv hsz (spliced_nil ⟨⟨keep _ _ (Heap.lt_size ho) ho, hd⟩, ?_⟩))))) X7 X1)
  exact hk _ _ _ keep (Nat.le_trans u.size U.size) h
theorem test_left_key {s₀ s₁ : Shared} {L a ka : Addr} {n : Nat} {x : Str} {t : Tok} {p : Nat → Bool} {items : Array Value} {ks : Nat → List Nat} {p1 p2 p3 p4 p5 p6 p7 : Pos} (X : BEnv env L) (hl : s₀.heap.IsList a items) (hne : a ≠ L) (hsz : items.size < 2 ^ 62)
    (hL : s₁.heap.objs.size ≤ L) (u : Upd noW s₁ s₀) (K : KeyOk w A s₁ ka items n ks) (hp : ∀ i, i < n → p i = decide (ks i < x.cps.toList)) :
    TestOf w A env s₀ L a n (.str x t) (.ref ka) p (.Compare (.Call (.Name sKey p6) [.Subscript (.Name sA p1) (.Name sMid p2) p3] [] p7) [.Lt] [.Name sX p4] p5) := by
  intro lo hi mid s' Q' E' hm b h
  refine wpAny_isTrue_Compare1 (key_mid X b hl hne hsz hL u K hm fun s'' y v u' e => ?_)
  obtain ⟨U, m, t, t', t'', hn, ha, hx, hk, hlo, hhi', hmm⟩ := b
  obtain ⟨rfl, X1, X2, X3, X4, X5, X6, X7⟩ := X
  refine nL (u'.ns id hn) hx (P.lt_str (wpAny_truthy_bool ?_)) X6 X1
  rw [hp mid hm, ← e] at h
  exact h _ u'
theorem test_right_key {s₀ s₁ : Shared} {L a ka : Addr} {n : Nat} {x : Str} {t : Tok} {p : Nat → Bool} {items : Array Value} {ks : Nat → List Nat} {p1 p2 p3 p4 p5 p6 p7 : Pos} (X : BEnv env L) (hl : s₀.heap.IsList a items) (hne : a ≠ L) (hsz : items.size < 2 ^ 62)
    (hL : s₁.heap.objs.size ≤ L) (u : Upd noW s₁ s₀) (K : KeyOk w A s₁ ka items n ks) (hp : ∀ i, i < n → p i = decide (x.cps.toList < ks i)) :
    TestOf w A env s₀ L a n (.str x t) (.ref ka) p (.Compare (.Name sX p4) [.Lt] [.Call (.Name sKey p6) [.Subscript (.Name sA p1) (.Name sMid p2) p3] [] p7] p5) := by
  intro lo hi mid s' Q' E' hm b h
  have b' := b
  have X' := X
  obtain ⟨U, m, t, t', t'', hn, ha, hx, hk, hlo, hhi', hmm⟩ := b'
  obtain ⟨rfl, X1, X2, X3, X4, X5, X6, X7⟩ := X'
  refine wpAny_isTrue_Compare1 (nL hn hx (key_mid X b hl hne hsz hL u K hm fun s'' y v u' e => ?_) X6 X1)
  refine P.lt_str (wpAny_truthy_bool ?_)
  rw [hp mid hm, ← e] at h
  exact h _ u'
end
end
end Mine
namespace Mine
open PySem PySem.W PySem.Calls PyProof.Rows
noncomputable section
section
variable {w : World} {A : Around} {s : Shared} {E : Value → Shared → Prop} {env : Env}
noncomputable abbrev sLen : Str := Str.ofString "len"
theorem bis_core {L a : Addr} {items : Array Value} {x key : Value} {t0 : Tok} {p : Nat → Bool} {B0 : List Stmt} {W1 W2 : Stmt} {Q : Flow → Shared → Prop} {k1 k2 k3 : Nat} {p1 p2 p3 p4 p5 p6 p7 p8 p9 q1 q2 q3 q4 q5 q6 q7 q8 q9 r1 : Pos}
    (X : BEnv env L) (hg : env.globals = mainGlobals) (hb : env.builtins = builtinsNs) (hlen : env.kindOf sLen = some .globalImplicit) (B : Base w s.heap) (hL : 163 ≤ L)
    (hn : s.heap.Ns L (fun y => (bb (.ref a) x (.int 0 t0) .none key).reverse.lookup y)) (hl : s.heap.IsList a items) (hne : a ≠ L) (hsz : items.size < 2 ^ 62) (hkey : key = .none ∨ ∃ ka, key = .ref ka)
    (hW : ∀ (s' : Shared) (Q' : Flow → Shared → Prop), BI s L a p items.size x key 0 items.size s' → (∀ r s'', BI s L a p items.size x key r r s'' → Q' .next s'') → wpAny (model pw w) A (exec (if key = .none then W1 else W2) env) Q' E s')
    (h : ∀ r t s', Upd (fun b => b = L) s s' → Bis p items.size r → Q (.ret (.int r t)) s') :
    wpAny (model pw w) A (execs [.If (.Compare (.Name sLo p1) [.Lt] [.Constant (.int 0) k1 p2] p3) B0 [] p4, .If (.Compare (.Name sHi p5) [.Is] [.Constant .none k2 p6] p7) [.Assign [.Name sHi p8] (.Call (.Name sLen p9) [.Name sA q1] [] q2) q3] [] q4,
      .If (.Compare (.Name sKey q5) [.Is] [.Constant .none k3 q6] q7) [W1] [W2] q8, .Return (some (.Name sLo q9)) r1] env) Q E s := by
  have X' := X
  obtain ⟨rfl, X1, X2, X3, X4, X5, X6, X7⟩ := X
  refine ifC (nL hn (v := .int 0 t0) (by kernel_rfl) (wpAny_Constant_int (lt_int (wpAny_truthy_bool ?_))) X2 X1)
  refine wpAny_execs_nil ?_
  refine ifC (nL (s := { s with toks := s.toks + 1 }) hn (v := .none) (by kernel_rfl) (wpAny_Constant_none (is_none_none (wpAny_truthy_bool ?_))) X3 X1)
  refine asg (callB1 (s := { s with toks := s.toks + 1 }) B (fun P => by kernel_rfl) (fun P => by kernel_rfl) (nL (s := { s with toks := s.toks + 1 }) hn (v := .ref a) (by kernel_rfl) (len_list (s := { s with toks := s.toks + 1 }) hl (by omega) ?_) X5 X1) (hg := hg) (hb := hb) (hl := hlen) (hk := X1))
  refine sL (s := { s with toks := s.toks + 1 + 1 + 1 }) hn (fun s₁ U₁ hn₁ => wpAny_execs_nil ?_) X3 X1
  have U₁' : Upd (fun b => b = env.locals) s s₁ := (Upd.toks (t := s.toks + 1 + 1 + 1)).trans U₁
  have b₁ : BI s env.locals a p items.size x key 0 items.size s₁ := ⟨U₁', ⟨_, _, _, hn₁, by rw [if_neg (by decide)]; kernel_rfl, by rw [if_neg (by decide)]; kernel_rfl, by rw [if_neg (by decide)]; kernel_rfl, (by rw [if_neg (by decide)]; exact (by kernel_rfl : _ = some (Value.int 0 t0))), (if_pos rfl)⟩, Nat.zero_le _, Nat.le_refl _, .inl rfl, .inl rfl⟩
  refine ifC (nL hn₁ (v := key) (by rw [if_neg (by decide)]; kernel_rfl) (wpAny_Constant_none (is_none_gen (wpAny_truthy_bool ?_))) X7 X1)
  have fin : ∀ r s', BI s env.locals a p items.size x key r r s' → wpAny (model pw w) A (execs [.Return (some (.Name sLo q9)) r1] env) Q E s' := by
    intro r s' b
    obtain ⟨U, ⟨m, t, t', hn, ha, hx, hk, hlo, hhi⟩, _, hi, l, r'⟩ := b
    exact execs_one (wpAny_Return_some (nL hn hlo (h _ _ _ U ⟨hi, l, r'⟩) X2 X1))
  rcases hkey with rfl | ⟨ka, rfl⟩
  · exact execs_one (hW _ _ b₁ fun r s' b => fin r s' b)
  · exact execs_one (hW _ _ b₁ fun r s' b => fin r s' b)
end
end
end Mine
namespace Mine
open PySem PySem.W PySem.Calls PyProof.Rows
noncomputable section
noncomputable abbrev fdBR : FuncData := fdOf (ho96 P0)
theorem okBR : FnOk 96 fdBR := ⟨fun P => by kernel_rfl, fun P => by kernel_rfl, by kernel_rfl, by decide, by kernel_rfl, by kernel_rfl, by kernel_rfl⟩
section
variable {w : World} {A : Around} {s : Shared} {E : Value → Shared → Prop}
theorem br_bind2 (B : Base w s.heap) {a x : Value} : BindsTo s fdBR ⟨[a, x], []⟩ (bb a x (.int 0 2230) .none .none) := Mine.BindsTo.peeked B (by kernel_rfl)
theorem br_bind4 (B : Base w s.heap) {a x lo hi : Value} : BindsTo s fdBR ⟨[a, x, lo, hi], []⟩ (bb a x lo hi .none) := Mine.BindsTo.peeked B (by kernel_rfl)
theorem br_bind4k (B : Base w s.heap) {a x lo hi key : Value} : BindsTo s fdBR ⟨[a, x, lo, hi], [(Str.ofString "key", key)]⟩ (bb a x lo hi key) := Mine.BindsTo.peeked B (by kernel_rfl)
theorem br_bind2k (B : Base w s.heap) {a x key : Value} : BindsTo s fdBR ⟨[a, x], [(Str.ofString "key", key)]⟩ (bb a x (.int 0 2230) .none key) := Mine.BindsTo.peeked B (by kernel_rfl)
variable {a : Addr} {items : Array Value} {x : Str} {t t0 : Tok} {p : Nat → Bool} {args : Args} {Q : Value → Shared → Prop} {ka : Addr} {ks : Nat → List Nat}
theorem bl_none (hr : Room 10 A) (B : Base w s.heap) (hbind : BindsTo s fdBL args (bb (.ref a) (.str x t) (.int 0 t0) .none .none)) (hl : s.heap.IsList a items) (hsz : items.size < 2 ^ 62)
    (hp : ∀ i, i < items.size → ∃ y u, items[i]? = some (.str y u) ∧ p i = decide (y.cps.toList < x.cps.toList))
    (h : ∀ r k s', Upd noW s s' → Bis p items.size r → Q (.int r k) s') : wpAny (model pw w) A (call (.ref 114) args.pos args.kw) Q E s := by
  refine fn_call okBL hr.depth B hbind (by kernel_rfl) (by kernel_rfl) (fun L s₁ hL U hn => ?_)
  obtain ⟨o, ho, _⟩ := id hl
  have hne : a ≠ L := Nat.ne_of_lt (Nat.lt_of_lt_of_le (Heap.lt_size ho) hL)
  have hl₁ := isl_upd hl U id
  have X : BEnv (callEnv fdBL L 114) L := ⟨by kernel_rfl, by kernel_rfl, by kernel_rfl, by kernel_rfl, by kernel_rfl, by kernel_rfl, by kernel_rfl, by kernel_rfl⟩
  refine bis_core X (by kernel_rfl) (by kernel_rfl) (by kernel_rfl) (B.upd0 U) (Nat.le_trans B.2 hL) hn hl₁ hne hsz (.inl rfl) (fun s₂ Q' b hQ => ?_) (fun r k s' u b => h r k s' ?_ b)
  · rw [if_pos rfl]
    exact loop_left X (Nat.zero_le _) b (test_left_none X hl₁ hne hsz hp) hQ
  · exact U.then_fresh (u.mono fun b e => .inr (e ▸ hL))
theorem bl_key (hr : Room 10 A) (B : Base w s.heap) (hbind : BindsTo s fdBL args (bb (.ref a) (.str x t) (.int 0 t0) .none (.ref ka))) (hl : s.heap.IsList a items) (hsz : items.size < 2 ^ 62)
    (K : ∀ env, KeyOk w (A.deeper env) s ka items items.size ks) (hp : ∀ i, i < items.size → p i = decide (ks i < x.cps.toList))
    (h : ∀ r k s', Upd noW s s' → Bis p items.size r → Q (.int r k) s') : wpAny (model pw w) A (call (.ref 114) args.pos args.kw) Q E s := by
  refine fn_call okBL hr.depth B hbind (by kernel_rfl) (by kernel_rfl) (fun L s₁ hL U hn => ?_)
  obtain ⟨o, ho, _⟩ := id hl
  have hne : a ≠ L := Nat.ne_of_lt (Nat.lt_of_lt_of_le (Heap.lt_size ho) hL)
  have hl₁ := isl_upd hl U id
  have X : BEnv (callEnv fdBL L 114) L := ⟨by kernel_rfl, by kernel_rfl, by kernel_rfl, by kernel_rfl, by kernel_rfl, by kernel_rfl, by kernel_rfl, by kernel_rfl⟩
  refine bis_core X (by kernel_rfl) (by kernel_rfl) (by kernel_rfl) (B.upd0 U) (Nat.le_trans B.2 hL) hn hl₁ hne hsz (.inr ⟨ka, rfl⟩) (fun s₂ Q' b hQ => ?_) (fun r k s' u b => h r k s' ?_ b)
  · rw [if_neg (by intro h; cases h)]
    exact loop_left X (Nat.zero_le _) b (test_left_key X hl₁ hne hsz hL U (K _) hp) hQ
  · exact U.then_fresh (u.mono fun b e => .inr (e ▸ hL))
theorem br_none (hr : Room 10 A) (B : Base w s.heap) (hbind : BindsTo s fdBR args (bb (.ref a) (.str x t) (.int 0 t0) .none .none)) (hl : s.heap.IsList a items) (hsz : items.size < 2 ^ 62)
    (hp : ∀ i, i < items.size → ∃ y u, items[i]? = some (.str y u) ∧ (!p i) = decide (x.cps.toList < y.cps.toList))
    (h : ∀ r k s', Upd noW s s' → Bis p items.size r → Q (.int r k) s') : wpAny (model pw w) A (call (.ref 96) args.pos args.kw) Q E s := by
  refine fn_call okBR hr.depth B hbind (by kernel_rfl) (by kernel_rfl) (fun L s₁ hL U hn => ?_)
  obtain ⟨o, ho, _⟩ := id hl
  have hne : a ≠ L := Nat.ne_of_lt (Nat.lt_of_lt_of_le (Heap.lt_size ho) hL)
  have hl₁ := isl_upd hl U id
  have X : BEnv (callEnv fdBR L 96) L := ⟨by kernel_rfl, by kernel_rfl, by kernel_rfl, by kernel_rfl, by kernel_rfl, by kernel_rfl, by kernel_rfl, by kernel_rfl⟩
  refine bis_core X (by kernel_rfl) (by kernel_rfl) (by kernel_rfl) (B.upd0 U) (Nat.le_trans B.2 hL) hn hl₁ hne hsz (.inl rfl) (fun s₂ Q' b hQ => ?_) (fun r k s' u b => h r k s' ?_ b)
  · rw [if_pos rfl]
    exact loop_right X (Nat.zero_le _) b (test_right_none X hl₁ hne hsz hp) hQ
  · exact U.then_fresh (u.mono fun b e => .inr (e ▸ hL))
theorem br_key (hr : Room 10 A) (B : Base w s.heap) (hbind : BindsTo s fdBR args (bb (.ref a) (.str x t) (.int 0 t0) .none (.ref ka))) (hl : s.heap.IsList a items) (hsz : items.size < 2 ^ 62)
    (K : ∀ env, KeyOk w (A.deeper env) s ka items items.size ks) (hp : ∀ i, i < items.size → (!p i) = decide (x.cps.toList < ks i))
    (h : ∀ r k s', Upd noW s s' → Bis p items.size r → Q (.int r k) s') : wpAny (model pw w) A (call (.ref 96) args.pos args.kw) Q E s := by
  refine fn_call okBR hr.depth B hbind (by kernel_rfl) (by kernel_rfl) (fun L s₁ hL U hn => ?_)
  obtain ⟨o, ho, _⟩ := id hl
  have hne : a ≠ L := Nat.ne_of_lt (Nat.lt_of_lt_of_le (Heap.lt_size ho) hL)
  have hl₁ := isl_upd hl U id
  have X : BEnv (callEnv fdBR L 96) L := ⟨by kernel_rfl, by kernel_rfl, by kernel_rfl, by kernel_rfl, by kernel_rfl, by kernel_rfl, by kernel_rfl, by kernel_rfl⟩
  refine bis_core X (by kernel_rfl) (by kernel_rfl) (by kernel_rfl) (B.upd0 U) (Nat.le_trans B.2 hL) hn hl₁ hne hsz (.inr ⟨ka, rfl⟩) (fun s₂ Q' b hQ => ?_) (fun r k s' u b => h r k s' ?_ b)
  · rw [if_neg (by intro h; cases h)]
    exact loop_right X (Nat.zero_le _) b (test_right_key X hl₁ hne hsz hL U (K _) hp) hQ
  · exact U.then_fresh (u.mono fun b e => .inr (e ▸ hL))
end
end
end Mine
namespace Mine
open PySem PySem.W PySem.Calls PyProof.Rows
noncomputable section
noncomputable abbrev fdIL : FuncData := fdOf (ho105 P0)
theorem okIL : FnOk 105 fdIL := ⟨fun P => by kernel_rfl, fun P => by kernel_rfl, by kernel_rfl, by decide, by kernel_rfl, by kernel_rfl, by kernel_rfl⟩
noncomputable abbrev fdIR : FuncData := fdOf (ho87 P0)
theorem okIR : FnOk 87 fdIR := ⟨fun P => by kernel_rfl, fun P => by kernel_rfl, by kernel_rfl, by decide, by kernel_rfl, by kernel_rfl, by kernel_rfl⟩
noncomputable def insAt (l : List Value) (k : Nat) (y : Value) : List Value := l.take k ++ y :: l.drop k
section
variable {w : World} {A : Around} {s : Shared} {E : Value → Shared → Prop} {env : Env}
theorem il_bind2 (B : Base w s.heap) {a x : Value} : BindsTo s fdIL ⟨[a, x], []⟩ (bb a x (.int 0 2244) .none .none) := Mine.BindsTo.peeked B (by kernel_rfl)
theorem il_bind2k (B : Base w s.heap) {a x key : Value} : BindsTo s fdIL ⟨[a, x], [(Str.ofString "key", key)]⟩ (bb a x (.int 0 2244) .none key) := Mine.BindsTo.peeked B (by kernel_rfl)
theorem ir_bind2 (B : Base w s.heap) {a x : Value} : BindsTo s fdIR ⟨[a, x], []⟩ (bb a x (.int 0 2217) .none .none) := Mine.BindsTo.peeked B (by kernel_rfl)
theorem ir_bind2k (B : Base w s.heap) {a x key : Value} : BindsTo s fdIR ⟨[a, x], [(Str.ofString "key", key)]⟩ (bb a x (.int 0 2217) .none key) := Mine.BindsTo.peeked B (by kernel_rfl)
theorem sz10k : 10000 ≤ sizeLine := of_decide_eq_true (by kernel_rfl)
theorem fits_nat {k : Nat} (h : k < 2 ^ 62) : Builtin.List.listFitsIndex (k : Int) = true := fitsIndex_of (by omega) (by omega)
theorem mapSeq_list (f : Array Value → Array Value) (a : Array Value) (n : Nat) (hs : (f a).size ≠ a.size) : Obj.mapSeq f { cls := .type "list", data := .seq a n } = { cls := .type "list", data := .seq (f a) (n + 1) } := by
  simp [Obj.mapSeq, hs]
theorem ins_size (l : List Value) (k : Nat) (y : Value) : (insAt l k y).toArray.size ≠ l.toArray.size := by
  rw [List.size_toArray, List.size_toArray]; unfold insAt; simp; omega
noncomputable def insF (x : Int) (y : Value) (xs : Array Value) : Array Value := have k := if x < 0 then (x + (xs.size : Int)).toNat else min x.toNat xs.size; (xs.extract 0 k).push y ++ xs.extract k
theorem insF_eq {l : List Value} {x : Int} {k : Nat} {y : Value} (hx : x = k) (hk : k ≤ l.length) : insF x y l.toArray = (insAt l k y).toArray := by
  have e2 : (if x < 0 then (x + (l.toArray.size : Int)).toNat else min x.toNat l.toArray.size) = k := by
    rw [if_neg (by omega), List.size_toArray]; omega
  unfold insF
  rw [e2]
  exact kl_ins_eq l k y
theorem pl_insert' {a : Addr} {l : List Value} {x : Int} {k : Nat} {u : Tok} {y : Value} {Q : Value → Shared → Prop} (hx : x = k) (hl : s.heap.PlainList a l.toArray) (hk : k ≤ l.length) (hz : l.length ≤ 10000)
    (h : ∀ h', h'.PlainList a (insAt l k y).toArray → Heap.SameBut a s.heap h' → Q .none { s with heap := h' }) :
    wpAny (model pw w) A (call (.builtin "list.insert") [.ref a, .int x u, y]) Q E s := by
  obtain ⟨n, ho⟩ := hl
  have hf : Builtin.List.listFitsIndex x = true := by rw [hx]; exact fits_nat (by omega)
  have hh : (s.heap.update a (Obj.mapSeq (insF x y))).get? a = some { cls := .type "list", data := .seq (insAt l k y).toArray (n + 1) } := by
    have e := mapSeq_list (insF x y) l.toArray n (by rw [insF_eq hx hk]; exact ins_size l k y)
    rw [Heap.get?_update_self _ ho (by rw [e]; rfl), e, insF_eq hx hk]
  have c1 : ¬(!Builtin.List.listFitsIndex x) = true := by simp [hf]
  have c2 : l.toArray.size ≤ sizeLine := by rw [List.size_toArray]; exact Nat.le_trans hz sz10k
  clear hf hx
  have g := PySem.AutoSeq1.list_insert_list_int_val_1 a l.toArray n x u y c1 c2
  have ar := PySem.F.args_list_insert_3 (.ref a) (.int x u) y
  exact call_meets PySem.F.slot_list_insert ⟨_, ho, rfl⟩ PySem.F.entry_list_insert ar g ⟨ho, h _ ⟨n + 1, hh⟩ (Heap.SameBut.update ..)⟩
theorem pl_insert {a : Addr} {l : List Value} {k : Nat} {u : Tok} {y : Value} {Q : Value → Shared → Prop} (hl : s.heap.PlainList a l.toArray) (hk : k ≤ l.length) (hz : l.length ≤ 10000)
    (h : ∀ h', h'.PlainList a (insAt l k y).toArray → Heap.SameBut a s.heap h' → Q .none { s with heap := h' }) :
    wpAny (model pw w) A (call (.builtin "list.insert") [.ref a, .int k u, y]) Q E s := pl_insert' rfl hl hk hz h
end
end
end Mine
namespace Mine
open PySem PySem.W PySem.Calls PyProof.Rows
noncomputable section
noncomputable abbrev IEnv (env : Env) (L : Addr) : Prop := env.locals = L ∧ env.scope.kind = .function ∧ env.kindOf sLo = some .local ∧ env.kindOf sHi = some .local ∧ env.kindOf sA = some .local ∧ env.kindOf sX = some .local ∧ env.kindOf sKey = some .local
noncomputable abbrev sInsert : Str := Str.ofString "insert"
section
variable {w : World} {A : Around} {s : Shared} {E : Value → Shared → Prop} {env : Env}
variable {L a ab : Addr} {l : List Value} {x : Value} {t0 : Tok} {p : Nat → Bool} {Q : Flow → Shared → Prop} {fB : Str} {fdB : FuncData} {PK : Str → Prop}
theorem ins_tail {m : Str → Option Value} {r : Nat} {t : Tok} {p1 p2 p3 p4 p5 p6 : Pos} (X : IEnv env L) (hn : s.heap.Ns L m) (hm : m sA = some (.ref a)) (hlo : m sLo = some (.int r t)) (hx : m sX = some x) (hl : s.heap.PlainList a l.toArray) (hr : r ≤ l.length) (hz : l.length ≤ 10000)
    (hline : (p2.endLine == p5.line) = true) (hsw : swapsWith (.Call (.Attribute (.Name sA p1) sInsert p2) [.Name sLo p3, .Name sX p4] [] p5) none p6.line env = pure false) (hi : interactive env = false)
    (h : ∀ h', h'.PlainList a (insAt l r x).toArray → Heap.SameBut a s.heap h' → Q .next { s with heap := h' }) :
    wpAny (model pw w) A (execs [.Expr (.Call (.Attribute (.Name sA p1) sInsert p2) [.Name sLo p3, .Name sX p4] [] p5) p6] env) Q E s := by
  obtain ⟨rfl, X1, X2, X3, X5, X6, X7⟩ := X
  refine execs_one (wpAny_Expr ?_ hi hsw)
  refine wpAny_Call_method (T := "list") (id := "list.insert") rfl rfl hline PySem.F.plainAttrs_list PySem.F.slot_list_insert PySem.F.type_list_insert (nL hn hm ⟨hl.isList.typeIs, ?_, ?_⟩ X5 X1)
  · rintro _ ⟨⟩
    obtain ⟨n, ho⟩ := hl
    exact ⟨_, ho, rfl⟩
  · refine callWith_builtin rfl (evalArgs_plain (spliced_cons (nL hn hlo (spliced_cons (nL hn hx (spliced_nil ?_) X6 X1)) X2 X1)))
    exact pl_insert hl hr hz h
theorem ins_core_none {S2 : List Stmt} {k1 : Nat} {p1 p2 p3 p4 p5 p6 q1 q2 q3 q4 q5 q6 q7 q8 q9 r1 r2 r3 : Pos}
    (X : IEnv env L) (hg : env.globals = mainGlobals) (hB : env.kindOf fB = some .globalImplicit) (hv : ∀ P, mgF P fB = some (.ref ab)) (F : FnOk ab fdB) (hd : (fB == ("__debug__" : Str)) = false) (B : Base w s.heap) (hL : 163 ≤ L)
    (hn : s.heap.Ns L (fun y => (bb (.ref a) x (.int 0 t0) .none .none).reverse.lookup y)) (hl : s.heap.PlainList a l.toArray) (hne : a ≠ L) (hz : l.length ≤ 10000)
    (hcall : ∀ s' (Q' E' : Value → Shared → Prop), Upd noW s s' → (∀ r k s'', Upd noW s' s'' → Bis p l.length r → Q' (.int r k) s'') → wpAny (model pw w) A (call (.ref ab) [.ref a, x, .int 0 t0, .none] []) Q' E' s')
    (hline : (p2.endLine == p5.line) = true) (hsw : swapsWith (.Call (.Attribute (.Name sA p1) sInsert p2) [.Name sLo p3, .Name sX p4] [] p5) none p6.line env = pure false) (hi : interactive env = false)
    (h : ∀ r s', Upd (fun b => b = L ∨ b = a) s s' → Bis p l.length r → s'.heap.PlainList a (insAt l r x).toArray → Q .next s') :
    wpAny (model pw w) A (execs [.If (.Compare (.Name sKey q1) [.Is] [.Constant .none k1 q2] q3) [.Assign [.Name sLo q4] (.Call (.Name fB q5) [.Name sA q6, .Name sX q7, .Name sLo q8, .Name sHi q9] [] r1) r2] S2 r3,
      .Expr (.Call (.Attribute (.Name sA p1) sInsert p2) [.Name sLo p3, .Name sX p4] [] p5) p6] env) Q E s := by
  have X' := X
  obtain ⟨rfl, X1, X2, X3, X5, X6, X7⟩ := X
  refine ifC (nL hn (v := .none) (by kernel_rfl) (wpAny_Constant_none (is_none_none (wpAny_truthy_bool ?_))) X7 X1)
  refine asg (call_ (trees := [(false, eval (.Name sA q6) env), (false, eval (.Name sX q7) env), (false, eval (.Name sLo q8) env), (false, eval (.Name sHi q9) env)]) (kts := []) rfl rfl (nG B hv (gcall F (evalArgs_plain ?_)) hg hB X1 hd))
  refine spliced_cons (nL hn (v := .ref a) (by kernel_rfl) (spliced_cons (nL hn (v := x) (by kernel_rfl) (spliced_cons (nL hn (v := .int 0 t0) (by kernel_rfl) (spliced_cons (nL hn (v := .none) (by kernel_rfl) (spliced_nil ⟨B, ?_⟩) X3 X1)) X2 X1)) X6 X1)) X5 X1)
  refine hcall _ _ _ (.refl _ _) fun r k s₁ U₁ b => ?_
  refine sL (U₁.ns id hn) (fun s₂ U₂ hn₂ => wpAny_execs_nil ?_) X2 X1
  have U₂' : Upd (fun b => b = env.locals) s s₂ := (U₁.mono fun _ h => h.elim).trans U₂
  have hl₂ : s₂.heap.PlainList a l.toArray := hl.at fun o e => U₂'.get hne e
  refine ins_tail (x := x) X' hn₂ (by rw [if_neg (by decide)]; kernel_rfl) (if_pos rfl) (by rw [if_neg (by decide)]; kernel_rfl) hl₂ b.1 hz hline hsw hi fun h' hl' hs => ?_
  exact h r _ ((U₂'.mono fun _ h => .inl h).trans (Upd.same (t := s₂.toks) hs (.inr rfl))) b hl'
theorem ins_core_key {S1 : List Stmt} {k1 : Nat} {ka : Addr} {p1 p2 p3 p4 p5 p6 q1 q2 q3 q4 q5 q6 q7 q8 q9 r1 r2 r3 r4 r5 r6 r7 : Pos}
    (X : IEnv env L) (hg : env.globals = mainGlobals) (hB : env.kindOf fB = some .globalImplicit) (hv : ∀ P, mgF P fB = some (.ref ab)) (F : FnOk ab fdB) (hd : (fB == ("__debug__" : Str)) = false) (B : Base w s.heap) (hL : 163 ≤ L)
    (hn : s.heap.Ns L (fun y => (bb (.ref a) x (.int 0 t0) .none (.ref ka)).reverse.lookup y)) (hl : s.heap.PlainList a l.toArray) (hne : a ≠ L) (hz : l.length ≤ 10000)
    (hfn : IsFn s.heap ka) (hkey : ∀ (Q' E' : Value → Shared → Prop), (∀ s'' y u, Upd noW s s'' → PK y → Q' (.str y u) s'') → wpAny (model pw w) A (call (.ref ka) [x] []) Q' E' s)
    (hcall : ∀ s' y u (Q' E' : Value → Shared → Prop), Upd noW s s' → PK y → (∀ r k s'', Upd noW s' s'' → Bis p l.length r → Q' (.int r k) s'') → wpAny (model pw w) A (call (.ref ab) [.ref a, .str y u, .int 0 t0, .none] [(sKey, .ref ka)]) Q' E' s')
    (hline : (p2.endLine == p5.line) = true) (hsw : swapsWith (.Call (.Attribute (.Name sA p1) sInsert p2) [.Name sLo p3, .Name sX p4] [] p5) none p6.line env = pure false) (hi : interactive env = false)
    (h : ∀ r s', Upd (fun b => b = L ∨ b = a) s s' → Bis p l.length r → s'.heap.PlainList a (insAt l r x).toArray → Q .next s') :
    wpAny (model pw w) A (execs [.If (.Compare (.Name sKey q1) [.Is] [.Constant .none k1 q2] q3) S1 [.Assign [.Name sLo q4] (.Call (.Name fB q5) [.Name sA q6, .Call (.Name sKey q7) [.Name sX q8] [] q9, .Name sLo r2, .Name sHi r3] [⟨some sKey, .Name sKey r4, r5⟩] r6) r7] r1,
      .Expr (.Call (.Attribute (.Name sA p1) sInsert p2) [.Name sLo p3, .Name sX p4] [] p5) p6] env) Q E s := by
  have X' := X
  obtain ⟨rfl, X1, X2, X3, X5, X6, X7⟩ := X
  refine ifC (nL hn (v := .ref ka) (by kernel_rfl) (wpAny_Constant_none (is_ref_none (wpAny_truthy_bool ?_))) X7 X1)
  refine asg (call_ (trees := [(false, eval (.Name sA q6) env), (false, eval (.Call (.Name sKey q7) [.Name sX q8] [] q9) env), (false, eval (.Name sLo r2) env), (false, eval (.Name sHi r3) env)]) (kts := [(some sKey, eval (.Name sKey r4) env >>= fun v => standAt r6 >>= fun _ => pure v)]) rfl rfl (nG B hv (gcall F (evalArgs_kw rfl ?_)) hg hB X1 hd))
  obtain ⟨o, fd, ho, hdt⟩ := hfn
  refine spliced_cons (nL hn (v := .ref a) (by kernel_rfl) (spliced_cons (call_ (trees := [(false, eval (.Name sX q8) env)]) (kts := []) rfl rfl (nL hn (v := .ref ka) (by kernel_rfl) (callWith_function_kw (o := o) (fd := fd) (evalArgs_plain (spliced_cons (nL hn (v := x) (by kernel_rfl) (spliced_nil ⟨⟨ho, hdt⟩, ?_⟩) X6 X1)))) X7 X1))) X5 X1)
  refine hkey _ _ fun s₁ y u U₁ hy => ?_
  have hn₁ := U₁.ns id hn
  refine spliced_cons (nL hn₁ (v := .int 0 t0) (by kernel_rfl) (spliced_cons (nL hn₁ (v := .none) (by kernel_rfl) (spliced_nil ?_) X3 X1)) X2 X1)
  refine wpAny_evalAll_cons (wpAny_bind (nL hn₁ (v := .ref ka) (by kernel_rfl) (wpAny_bind (wpAny_standAt (wpAny_pure (wpAny_evalAll_nil ⟨B.upd0 U₁, ?_⟩)))) X7 X1))
  refine hcall _ y u _ _ U₁ hy fun r k s₂ U₂ b => ?_
  have U₂' : Upd noW s s₂ := U₁.trans U₂
  refine sL (U₂'.ns id hn) (fun s₃ U₃ hn₃ => wpAny_execs_nil ?_) X2 X1
  have U₃' : Upd (fun b => b = env.locals) s s₃ := (U₂'.mono fun _ h => h.elim).trans U₃
  have hl₃ : s₃.heap.PlainList a l.toArray := hl.at fun o e => U₃'.get hne e
  refine ins_tail (x := x) X' hn₃ (by rw [if_neg (by decide)]; kernel_rfl) (if_pos rfl) (by rw [if_neg (by decide)]; kernel_rfl) hl₃ b.1 hz hline hsw hi fun h' hl' hs => ?_
  exact h r _ ((U₃'.mono fun _ h => .inl h).trans (Upd.same (t := s₃.toks) hs (.inr rfl))) b hl'
end
end
end Mine
namespace Mine
open PySem PySem.W PySem.Calls PyProof.Rows
noncomputable section
section
variable {w : World} {A : Around} {s : Shared} {E : Value → Shared → Prop} {env : Env}
/-- what a key function answers -/
noncomputable def KeySpec (w : World) (s₀ : Shared) (ka : Addr) (dom : Value → List Nat → Prop) : Prop :=
  IsFn s₀.heap ka ∧ ∀ v k, dom v k → ∀ A', Room 20 A' → ∀ (s' : Shared) (Q' E' : Value → Shared → Prop), (∀ b o, b < s₀.heap.objs.size → s₀.heap.get? b = some o → s'.heap.get? b = some o) → s₀.heap.objs.size ≤ s'.heap.objs.size →
    (∀ s'' y u, Upd noW s' s'' → y.cps.toList = k → Q' (.str y u) s'') → wpAny (model pw w) A' (call (.ref ka) [v] []) Q' E' s'
theorem KeySpec.next {s₀ s₁ : Shared} {ka : Addr} {dom : Value → List Nat → Prop} (K : KeySpec w s₀ ka dom) (u : Upd noW s₀ s₁) : KeySpec w s₁ ka dom := by
  obtain ⟨⟨o, fd, ho, hd⟩, k⟩ := K
  exact ⟨⟨o, fd, u.get id ho, hd⟩, fun v i hv A' hr s' Q' E' keep hsz h => k v i hv A' hr s' Q' E' (fun b o hb e => keep b o (Nat.lt_of_lt_of_le hb u.size) (u.get id e)) (Nat.le_trans u.size hsz) h⟩
theorem KeySpec.ok {s₀ : Shared} {ka : Addr} {dom : Value → List Nat → Prop} {l : List Value} {ks : Nat → List Nat} (K : KeySpec w s₀ ka dom) (hr : Room 20 A) (hd : ∀ i (h : i < l.length), dom l[i] (ks i)) : KeyOk w A s₀ ka l.toArray l.toArray.size ks := by
  refine ⟨K.1, fun i hi => ?_⟩
  have hi' : i < l.length := by simpa using hi
  exact ⟨l[i], by simp [hi'], fun s' Q' E' keep hsz h => K.2 _ _ (hd i hi') _ hr s' Q' E' keep hsz h⟩
variable {a ka : Addr} {l : List Value} {x : Value} {t : Tok} {p : Nat → Bool} {Q : Value → Shared → Prop} {dom : Value → List Nat → Prop} {ks : Nat → List Nat} {kx : List Nat}
theorem il_none {x : Str} (hr : Room 40 A) (B : Base w s.heap) (hl : s.heap.PlainList a l.toArray) (hz : l.length ≤ 10000)
    (hp : ∀ i, i < l.length → ∃ y u, l[i]? = some (.str y u) ∧ p i = decide (y.cps.toList < x.cps.toList))
    (h : ∀ r s', Upd (fun b => b = a) s s' → Bis p l.length r → s'.heap.PlainList a (insAt l r (.str x t)).toArray → Q .none s') : wpAny (model pw w) A (call (.ref 105) [.ref a, .str x t] []) Q E s := by
  refine fn_call okIL hr.depth B (il_bind2 B) (by kernel_rfl) (by kernel_rfl) (fun L s₁ hL U hn => ?_)
  obtain ⟨n, ho⟩ := id hl
  have hne : a ≠ L := Nat.ne_of_lt (Nat.lt_of_lt_of_le (Heap.lt_size ho) hL)
  have hl₁ : s₁.heap.PlainList a l.toArray := hl.at fun o e => U.get id e
  refine ins_core_none (p := p) (L := L) (ab := 114) ⟨by kernel_rfl, by kernel_rfl, by kernel_rfl, by kernel_rfl, by kernel_rfl, by kernel_rfl, by kernel_rfl⟩ (by kernel_rfl) (by kernel_rfl) (fun P => by kernel_rfl) okBL (by kernel_rfl) (B.upd0 U) (Nat.le_trans B.2 hL) hn hl₁ hne hz (fun s' Q' E' U' hQ => ?_) (by kernel_rfl) (by kernel_rfl) (by kernel_rfl) (fun r s' u b hl' => ?_)
  · exact bl_none (args := ⟨[_, _, _, _], []⟩) (items := l.toArray) (hr.deeper (n := 39) _ |>.le (by decide)) (B.upd0 (U.trans U')) (bl_bind4 (B.upd0 (U.trans U'))) (hl₁.at fun o e => U'.get id e).isList (by rw [List.size_toArray]; omega) (by simpa using hp) (by simpa using hQ)
  · exact h r s' (U.mono (fun _ h => h.elim) |>.then_fresh (u.mono fun b e => e.elim (fun e => .inr (e ▸ hL)) fun e => .inl e)) b hl'
theorem ir_none {x : Str} (hr : Room 40 A) (B : Base w s.heap) (hl : s.heap.PlainList a l.toArray) (hz : l.length ≤ 10000)
    (hp : ∀ i, i < l.length → ∃ y u, l[i]? = some (.str y u) ∧ (!p i) = decide (x.cps.toList < y.cps.toList))
    (h : ∀ r s', Upd (fun b => b = a) s s' → Bis p l.length r → s'.heap.PlainList a (insAt l r (.str x t)).toArray → Q .none s') : wpAny (model pw w) A (call (.ref 87) [.ref a, .str x t] []) Q E s := by
  refine fn_call okIR hr.depth B (ir_bind2 B) (by kernel_rfl) (by kernel_rfl) (fun L s₁ hL U hn => ?_)
  obtain ⟨n, ho⟩ := id hl
  have hne : a ≠ L := Nat.ne_of_lt (Nat.lt_of_lt_of_le (Heap.lt_size ho) hL)
  have hl₁ : s₁.heap.PlainList a l.toArray := hl.at fun o e => U.get id e
  refine ins_core_none (p := p) (L := L) (ab := 96) ⟨by kernel_rfl, by kernel_rfl, by kernel_rfl, by kernel_rfl, by kernel_rfl, by kernel_rfl, by kernel_rfl⟩ (by kernel_rfl) (by kernel_rfl) (fun P => by kernel_rfl) okBR (by kernel_rfl) (B.upd0 U) (Nat.le_trans B.2 hL) hn hl₁ hne hz (fun s' Q' E' U' hQ => ?_) (by kernel_rfl) (by kernel_rfl) (by kernel_rfl) (fun r s' u b hl' => ?_)
  · exact br_none (args := ⟨[_, _, _, _], []⟩) (items := l.toArray) (hr.deeper (n := 39) _ |>.le (by decide)) (B.upd0 (U.trans U')) (br_bind4 (B.upd0 (U.trans U'))) (hl₁.at fun o e => U'.get id e).isList (by rw [List.size_toArray]; omega) (by simpa using hp) (by simpa using hQ)
  · exact h r s' (U.mono (fun _ h => h.elim) |>.then_fresh (u.mono fun b e => e.elim (fun e => .inr (e ▸ hL)) fun e => .inl e)) b hl'
theorem il_key (hr : Room 60 A) (B : Base w s.heap) (hl : s.heap.PlainList a l.toArray) (hz : l.length ≤ 10000) (K : KeySpec w s ka dom) (hd : ∀ i (h : i < l.length), dom l[i] (ks i)) (hx : dom x kx)
    (hp : ∀ i, i < l.length → p i = decide (ks i < kx))
    (h : ∀ r s', Upd (fun b => b = a) s s' → Bis p l.length r → s'.heap.PlainList a (insAt l r x).toArray → Q .none s') : wpAny (model pw w) A (call (.ref 105) [.ref a, x] [(Str.ofString "key", .ref ka)]) Q E s := by
  refine fn_call okIL hr.depth B (il_bind2k B) (by kernel_rfl) (by kernel_rfl) (fun L s₁ hL U hn => ?_)
  obtain ⟨n, ho⟩ := id hl
  have hne : a ≠ L := Nat.ne_of_lt (Nat.lt_of_lt_of_le (Heap.lt_size ho) hL)
  have hl₁ : s₁.heap.PlainList a l.toArray := hl.at fun o e => U.get id e
  have K₁ := K.next U
  have hr' := hr.deeper (n := 59) (callEnv fdIL L 105)
  refine ins_core_key (p := p) (L := L) (ab := 114) (PK := fun y => y.cps.toList = kx) ⟨by kernel_rfl, by kernel_rfl, by kernel_rfl, by kernel_rfl, by kernel_rfl, by kernel_rfl, by kernel_rfl⟩ (by kernel_rfl) (by kernel_rfl) (fun P => by kernel_rfl) okBL (by kernel_rfl) (B.upd0 U) (Nat.le_trans B.2 hL) hn hl₁ hne hz K₁.1
    (fun Q' E' hQ => K₁.2 x kx hx _ (hr'.le (by decide)) _ _ _ (fun b o _ e => e) (Nat.le_refl _) hQ) (fun s' y u Q' E' U' hy hQ => ?_) (by kernel_rfl) (by kernel_rfl) (by kernel_rfl) (fun r s' u b hl' => ?_)
  · refine bl_key (args := ⟨[_, _, _, _], [_]⟩) (items := l.toArray) (ks := ks) (hr'.le (by decide)) (B.upd0 (U.trans U')) (bl_bind4k (B.upd0 (U.trans U'))) (hl₁.at fun o e => U'.get id e).isList (by rw [List.size_toArray]; omega) (fun env => (K₁.next U').ok ((hr'.deeper (n := 58) env).le (by decide)) hd) ?_ (by simpa using hQ)
    intro i hi
    rw [hy]
    exact hp i (by simpa using hi)
  · exact h r s' (U.mono (fun _ h => h.elim) |>.then_fresh (u.mono fun b e => e.elim (fun e => .inr (e ▸ hL)) fun e => .inl e)) b hl'
theorem ir_key (hr : Room 60 A) (B : Base w s.heap) (hl : s.heap.PlainList a l.toArray) (hz : l.length ≤ 10000) (K : KeySpec w s ka dom) (hd : ∀ i (h : i < l.length), dom l[i] (ks i)) (hx : dom x kx)
    (hp : ∀ i, i < l.length → (!p i) = decide (kx < ks i))
    (h : ∀ r s', Upd (fun b => b = a) s s' → Bis p l.length r → s'.heap.PlainList a (insAt l r x).toArray → Q .none s') : wpAny (model pw w) A (call (.ref 87) [.ref a, x] [(Str.ofString "key", .ref ka)]) Q E s := by
  refine fn_call okIR hr.depth B (ir_bind2k B) (by kernel_rfl) (by kernel_rfl) (fun L s₁ hL U hn => ?_)
  obtain ⟨n, ho⟩ := id hl
  have hne : a ≠ L := Nat.ne_of_lt (Nat.lt_of_lt_of_le (Heap.lt_size ho) hL)
  have hl₁ : s₁.heap.PlainList a l.toArray := hl.at fun o e => U.get id e
  have K₁ := K.next U
  have hr' := hr.deeper (n := 59) (callEnv fdIR L 87)
  refine ins_core_key (p := p) (L := L) (ab := 96) (PK := fun y => y.cps.toList = kx) ⟨by kernel_rfl, by kernel_rfl, by kernel_rfl, by kernel_rfl, by kernel_rfl, by kernel_rfl, by kernel_rfl⟩ (by kernel_rfl) (by kernel_rfl) (fun P => by kernel_rfl) okBR (by kernel_rfl) (B.upd0 U) (Nat.le_trans B.2 hL) hn hl₁ hne hz K₁.1
    (fun Q' E' hQ => K₁.2 x kx hx _ (hr'.le (by decide)) _ _ _ (fun b o _ e => e) (Nat.le_refl _) hQ) (fun s' y u Q' E' U' hy hQ => ?_) (by kernel_rfl) (by kernel_rfl) (by kernel_rfl) (fun r s' u b hl' => ?_)
  · refine br_key (args := ⟨[_, _, _, _], [_]⟩) (items := l.toArray) (ks := ks) (hr'.le (by decide)) (B.upd0 (U.trans U')) (br_bind4k (B.upd0 (U.trans U'))) (hl₁.at fun o e => U'.get id e).isList (by rw [List.size_toArray]; omega) (fun env => (K₁.next U').ok ((hr'.deeper (n := 58) env).le (by decide)) hd) ?_ (by simpa using hQ)
    intro i hi
    rw [hy]
    exact hp i (by simpa using hi)
  · exact h r s' (U.mono (fun _ h => h.elim) |>.then_fresh (u.mono fun b e => e.elim (fun e => .inr (e ▸ hL)) fun e => .inl e)) b hl'
end
end
end Mine
namespace Mine
open PySem PySem.W PySem.Calls PyProof.Rows
noncomputable section
noncomputable abbrev fdB1 : FuncData := fdOf (ho32 P0)
theorem okB1 : FnOk 32 fdB1 := ⟨fun P => by kernel_rfl, fun P => by kernel_rfl, by kernel_rfl, by decide, by kernel_rfl, by kernel_rfl, by kernel_rfl⟩
noncomputable abbrev fdB3 : FuncData := fdOf (ho78 P0)
theorem okB3 : FnOk 78 fdB3 := ⟨fun P => by kernel_rfl, fun P => by kernel_rfl, by kernel_rfl, by decide, by kernel_rfl, by kernel_rfl, by kernel_rfl⟩
noncomputable def setEs (o : Obj) : Array (Int × Value) := match o.data with | .set es _ _ => es | _ => #[]
noncomputable def intElOk (e : Int × Value) : Bool := match e.2 with | .int i _ => e.1 == hashInt i && e.2.scannable | _ => false
noncomputable def b1Es : List (Int × Value) := (setEs (ho22 P0)).toList
noncomputable def inB1 (c : Nat) : Bool := b1Es.any fun e => Value.isInt (c : Int) e.2
theorem elemsOf_int {w : World} {es : List (Int × Value)} (h : es.all intElOk = true) : ElemsOf (intKind pw w) es := by
  intro e he
  have := List.all_eq_true.mp h e he
  unfold intElOk at this
  split at this
  · rename_i i t q
    simp only [Bool.and_eq_true, beq_iff_eq] at this
    exact ⟨⟨i, by rw [q]; show Value.isInt i (.int i t) = true; simp [Value.isInt], this.1⟩, this.2⟩
  · cases this
noncomputable def setT (o : Obj) : Nat × SetTable := match o.data with | .set _ ep t => (ep, t) | _ => default
theorem b1_setOf {w : World} {h : Heap} (B : Base w h) : h.SetOf (intKind pw w) 22 (fun k => b1Es.any fun e => Value.isInt k e.2) 27 := by
  refine ⟨ho22 w.params, setEs (ho22 w.params), (setT (ho22 w.params)).1, (setT (ho22 w.params)).2, B.get (by kernel_rfl), ⟨by kernel_rfl, by kernel_rfl, by kernel_rfl⟩, by kernel_rfl, elemsOf_int (by kernel_rfl), fun k => ?_, of_decide_eq_true (by kernel_rfl), by kernel_rfl, by kernel_rfl⟩
  have e : (setEs (ho22 w.params)).toList = b1Es := by kernel_rfl
  rw [e, List.any_eq_true]
  exact ⟨fun ⟨x, hx, q⟩ => ⟨x, hx, q⟩, fun ⟨x, hx, q⟩ => ⟨x, hx, q⟩⟩
section
variable {w : World} {A : Around} {s : Shared} {E : Value → Shared → Prop} {env : Env}
theorem b1_call {Q : Value → Shared → Prop} {c : Nat} {t : Tok} (hr : Room 5 A) (B : Base w s.heap) (h : ∀ s', Upd noW s s' → Q (.bool (inB1 c)) s') : wpAny (model pw w) A (call (.ref 32) [.str ⟨#[c]⟩ t] []) Q E s := by
  refine fn_call okB1 (binds := [(Str.ofString "code", .str ⟨#[c]⟩ t)]) hr.depth B (.of_eq (by kernel_rfl)) (by kernel_rfl) (by kernel_rfl) (fun L s₁ hL U hn => ?_)
  have B₁ := B.upd0 U
  refine wpAny_execs_cons (wpAny_Return_some (wpAny_Compare1 ?_))
  refine callB1 B₁ (id := "ord") (fun P => by kernel_rfl) (fun P => by kernel_rfl) (nL hn (v := .str ⟨#[c]⟩ t) (by kernel_rfl) (P.ord_of_char ?_))
  refine nG (s := { s₁ with toks := s₁.toks + 1 }) B₁ (v := .ref 22) (fun P => by kernel_rfl) ?_
  refine wpAny_inSet_of (knd := intKind pw w) (k := (c : Int)) (s := { s₁ with toks := s₁.toks + 1 }) (by show Value.isInt (c : Int) (.int c s₁.toks) = true; simp [Value.isInt]) (by rfl) (b1_setOf B₁) ?_
  exact h _ (U.trans (Upd.toks (t := s₁.toks + 1 + 1)))
end
end
end Mine
namespace Mine
open PySem PySem.W PySem.Calls PyProof.Rows
noncomputable section
noncomputable def dictEs (o : Obj) : Array DictEntry := match o.data with | .dict es _ => es | _ => #[]
noncomputable def b3Es : Array DictEntry := dictEs (ho33 P0)
noncomputable def intKeyOk (e : DictEntry) : Bool := match e.key with | .int i _ => e.hash == hashInt i | _ => false
noncomputable def strVal (e : DictEntry) : Bool := match e.val with | .str _ _ => true | _ => false
theorem b3_all : (b3Es.toList.all fun e => intKeyOk e && strVal e) = true := by kernel_rfl
noncomputable def b3At (c : Nat) : Option Value := findBy Value.isInt b3Es (c : Int)
noncomputable def b3Of (c : Nat) : List Nat := match b3At c with
  | some (.str x _) => x.cps.toList
  | _ => (Txt.lower ⟨#[c]⟩).cps.toList
theorem b3At_str {c : Nat} {v : Value} (h : b3At c = some v) : ∃ x t, v = .str x t := by
  unfold b3At findBy at h
  obtain ⟨e, he, rfl⟩ := Option.map_eq_some_iff.mp h
  have hm : e ∈ b3Es.toList := Array.mem_toList_iff.mpr (Array.mem_of_find?_eq_some he)
  have := List.all_eq_true.mp b3_all e hm
  simp only [Bool.and_eq_true] at this
  have h2 := this.2
  unfold strVal at h2
  split at h2
  · rename_i x t q; exact ⟨x, t, q⟩
  · cases h2
theorem b3_mapOf {w : World} {h : Heap} (B : Base w h) : h.MapOf (intKind pw w) 33 (findBy Value.isInt b3Es) := by
  refine ⟨ho33 w.params, b3Es, 650, B.get (by kernel_rfl), ⟨by kernel_rfl, by kernel_rfl, by kernel_rfl⟩, by kernel_rfl, fun e he => ?_, fun k => rfl⟩
  have := List.all_eq_true.mp b3_all e (Array.mem_toList_iff.mpr he)
  simp only [Bool.and_eq_true] at this
  have h1 := this.1
  unfold intKeyOk at h1
  split at h1
  · rename_i i t q
    exact ⟨i, by rw [q]; show Value.isInt i (.int i t) = true; simp [Value.isInt], by show e.hash = hashInt i; simpa using h1⟩
  · cases h1
section
variable {w : World} {A : Around} {s : Shared} {E : Value → Shared → Prop} {env : Env}
theorem b3_call {Q : Value → Shared → Prop} {c : Nat} {t : Tok} (hr : Room 5 A) (B : Base w s.heap) (h : ∀ y u s', Upd noW s s' → y.cps.toList = b3Of c → Q (.str y u) s') : wpAny (model pw w) A (call (.ref 78) [.str ⟨#[c]⟩ t] []) Q E s := by
  refine fn_call okB3 (binds := [(Str.ofString "code", .str ⟨#[c]⟩ t)]) hr.depth B (.of_eq (by kernel_rfl)) (by kernel_rfl) (by kernel_rfl) (fun L s₁ hL U hn => ?_)
  have B₁ := B.upd0 U
  refine asg ?_
  refine wpAny_Call_method (T := "dict") (id := "dict.get") rfl rfl (by kernel_rfl) PySem.F.plainAttrs_dict PySem.F.slot_dict_get PySem.F.type_dict_get (nG B₁ (v := .ref 33) (fun P => by kernel_rfl) ⟨(b3_mapOf B₁).typeIs, (b3_mapOf B₁).noDict, ?_⟩)
  refine wpAny_dict_get1 (knd := intKind pw w) (by kernel_rfl) (callB1 B₁ (id := "ord") (fun P => by kernel_rfl) (fun P => by kernel_rfl) (nL hn (v := .str ⟨#[c]⟩ t) (by kernel_rfl) (P.ord_of_char ?_)))
  refine ⟨(c : Int), _, by show Value.isInt (c : Int) (.int c s₁.toks) = true; simp [Value.isInt], b3_mapOf B₁, ?_⟩
  refine sL (s := { s₁ with toks := s₁.toks + 1 + 1 }) hn (fun s₂ U₂ hn₂ => ?_)
  have U₂' : Upd noW s s₂ := U.then_fresh ((Upd.toks.trans U₂).mono fun b e => .inr (e ▸ hL))
  cases hb : b3At c with
  | some v =>
    obtain ⟨x, tx, rfl⟩ := b3At_str hb
    have hv : (if Str.ofString "r" = Str.ofString "r" then some ((findBy Value.isInt b3Es (c : Int)).getD .none) else none) = some (.str x tx) := by
      rw [if_pos rfl]; unfold b3At at hb; rw [hb]; rfl
    refine ifC (nL hn₂ (v := .str x tx) hv (wpAny_Constant_none (isnot_str_none (wpAny_truthy_bool ?_))))
    refine wpAny_execs_cons (wpAny_Return_some (nL hn₂ (v := .str x tx) hv ?_))
    exact h x tx s₂ U₂' (by unfold b3Of; rw [hb])
  | none =>
    have hv : (if Str.ofString "r" = Str.ofString "r" then some ((findBy Value.isInt b3Es (c : Int)).getD .none) else none) = some .none := by
      rw [if_pos rfl]; unfold b3At at hb; rw [hb]; rfl
    refine ifC (nL hn₂ (v := .none) hv (wpAny_Constant_none (wpAny_isNot_self (by rfl) (wpAny_truthy_bool ?_))))
    refine wpAny_execs_nil ?_
    refine execs_one (wpAny_Return_some (Call_method0 rfl (by kernel_rfl) (nL hn₂ (v := .str ⟨#[c]⟩ t) (by rw [if_neg (by decide)]; kernel_rfl) (SB.lower ?_ ?_))))
    · exact fit_lower (by show 1 ≤ _; decide)
    · exact h _ _ _ (U₂'.trans .toks) (by unfold b3Of; rw [hb])
end
end
end Mine
namespace Mine
open PySem PySem.W PySem.Calls PyProof.Rows
/-! no run makes the heap shorter -/
noncomputable abbrev hs (s : Shared) : Nat := s.heap.objs.size
theorem hs_update (s : Shared) (a : Addr) (f : Obj → Obj) : hs { s with heap := s.heap.update a f } = hs s := (Heap.SameBut.update s.heap a f).1
theorem hs_push (s : Shared) (o : Obj) : hs { s with heap := s.heap.push o } = hs s + 1 := Heap.size_push ..
theorem runs_hs {M : Model} {Γ : Ctx} {p : Pos} {t : Sem Fin} {fs : List Frame} {s s' : Shared} {e : End} (h : Runs M Γ p t fs s e s') : hs s ≤ hs s' := by
  induction h with
  | update _ _ ih => rw [hs_update] at ih; exact ih
  | alloc _ ih => rw [hs_push] at ih; omega
  | _ => (try simp only [hs, Shared.setGen] at *) <;> omega
theorem wakes_hs {M : Model} {Γ : Ctx} {p : Pos} {g : Nat} {r : Resume} {s s' : Shared} {res : GenResult} (h : Wakes M Γ p g r s res s') : hs s ≤ hs s' := by
  unfold Wakes at h
  split at h
  · exact h.elim
  · split at h
    · obtain ⟨_, s₁, hr, _, _, rfl⟩ := h; exact (runs_hs hr : hs (s.setGen g .running) ≤ hs s₁)
    · rw [h.2]; exact Nat.le_refl _
    · rw [h.2]; exact Nat.le_refl _
  · obtain ⟨_, s₁, hr, _, _, rfl⟩ := h; exact (runs_hs hr : hs (s.setGen g .running) ≤ hs s₁)
  · rw [h.2]; exact Nat.le_refl _
  · rw [h.2]; exact Nat.le_refl _
theorem wp_hs {α : Type} (M : Model) (Γ : Ctx) (n : Nat) (t : Sem α) : ∀ (Q : α → Pos → Shared → Prop) (E : Value → Pos → Shared → Prop) (p : Pos) (s : Shared), n ≤ hs s → Sem.wp M Γ t (fun a p' s' => n ≤ hs s' → Q a p' s') (fun e p' s' => n ≤ hs s' → E e p' s') p s →
    Sem.wp M Γ t Q E p s := by
  induction t with
  | pure a => exact fun Q E p s hn h => h hn
  | raise e => exact fun Q E p s hn h => h hn
  | unsupported _ => exact fun Q E p s _ h => h
  | finish _ => exact fun Q E p s _ h => h
  | register _ _ => exact fun Q E p s _ h => h
  | fork _ _ => exact fun Q E p s _ h => h
  | yield _ _ _ _ => exact fun Q E p s _ h => h
  | await _ _ _ _ _ => exact fun Q E p s _ h => h
  | rule _ k ih => exact fun Q E p s hn h => ih () Q E p s hn h
  | «at» p' k ih => exact fun Q E p s hn h => ih () Q E p' s hn h
  | point _ k ih => exact fun Q E p s hn h => ih () Q E p s hn h
  | load a _ k ih => exact fun Q E p s hn ⟨o, ho, h⟩ => ⟨o, ho, ih o Q E p s hn h⟩
  | loadIfAlive a k ih => exact fun Q E p s hn h => ih _ Q E p s hn h
  | update a _ f k ih => exact fun Q E p s hn h => ⟨h.1, ih () Q E p _ (by rw [hs_update]; exact hn) h.2⟩
  | alloc o k ih => exact fun Q E p s hn h => ih _ Q E p _ (by rw [hs_push]; exact Nat.le_succ_of_le hn) h
  | fresh k ih => exact fun Q E p s hn h => ih _ Q E p _ hn h
  | ask k ih => exact fun Q E p s hn h => ih _ Q E p s hn h
  | choose src m k ih => exact fun Q E p s hn h => ⟨h.1, ih _ Q E p _ hn h.2⟩
  | os q _ k ih => exact fun Q E p s hn h => ih _ Q E p _ hn h
  | call c hd _ _ k ih => exact fun Q E p s hn ⟨r, s', hr, h⟩ => ⟨r, s', hr, ih r Q E p s' (Nat.le_trans hn (runs_hs hr)) h⟩
  | handled own k ih => exact fun Q E p s hn h => ih _ Q E p s hn h
  | genState g k ih => exact fun Q E p s hn ⟨st, hst, h⟩ => ⟨st, hst, ih _ Q E p s hn h⟩
  | newGen c k ih => exact fun Q E p s hn h => ih _ Q E p _ hn h
  | resume g r _ k ih => exact fun Q E p s hn ⟨res, s', hw, h⟩ => ⟨res, s', hw, ih res Q E p s' (Nat.le_trans hn (wakes_hs hw)) h⟩
  | stack k ih => exact fun Q E p s hn h => ih _ Q E p s hn h
  | thread k ih => exact fun Q E p s hn h => ih _ Q E p s hn h
section
variable {α : Type} {M : Model} {A : Around} {s : Shared} {E : Value → Shared → Prop}
theorem with_hs {t : Sem α} {Q : α → Shared → Prop} (h : wpAny M A t (fun a s' => hs s ≤ hs s' → Q a s') E s) : wpAny M A t Q E s :=
  fun Γ p hΓ => wp_hs M Γ (hs s) t _ _ p s (Nat.le_refl _) (Sem.wp_mono M Γ t (post' := fun a _ s' => hs s ≤ hs s' → Q a s') (exc' := fun e _ s' => hs s ≤ hs s' → E e s') (fun _ _ _ q => q) (fun _ _ _ q _ => q) _ _ (h Γ p hΓ))
end
end Mine
namespace Mine
open PySem PySem.W PySem.Calls PyProof.Rows
noncomputable abbrev setM (m : Str → Option Value) (x : Str) (v : Value) : Str → Option Value := fun y => if y = x then some v else m y
/-- an iterator that binds its target -/
structure Feed (w : World) (A : Around) (it : Value) (target : Expr) (fp wr : List Addr) (n : Nat) (St : Nat → Heap → Prop) (B : Nat → (Str → Option Value) → (Str → Option Value) → Prop) (ok : Env → Prop) : Prop where
  sub : ∀ b ∈ wr, b ∈ fp
  frame : ∀ i h h', St i h → (∀ b ∈ fp, ∀ o, h.get? b = some o → h'.get? b = some o) → St i h'
  turn : ∀ i (s : Shared) (env : Env) (m : Str → Option Value) (Q : Shared → Prop) (E : Value → Shared → Prop), i < n → St i s.heap → ok env → env.locals ∉ fp → s.heap.Ns env.locals m →
    (∀ s' m', Upd (fun b => b ∈ wr ∨ b = env.locals) s s' → St (i + 1) s'.heap → s'.heap.Ns env.locals m' → B i m m' → Q s') →
    wpAny (model pw w) A (pyNext it) (fun r s₁ => ∃ v, r = some v ∧ wpAny (model pw w) A (letOwnedTupleGo target it v) (fun _ s₂ => wpAny (model pw w) A (assign target env v) (fun _ s₃ => Q s₃) E s₂) E s₁) E s
  done : ∀ (s : Shared) (Q : Option Value → Shared → Prop) (E : Value → Shared → Prop), St n s.heap → (∀ s', Upd (fun b => b ∈ wr) s s' → Q none s') → wpAny (model pw w) A (pyNext it) Q E s
  self : ∀ i (s : Shared) (Q : Value → Shared → Prop) (E : Value → Shared → Prop), St i s.heap → Q it s → wpAny (model pw w) A (pyIter it) Q E s
section
variable {w : World} {A : Around}
noncomputable abbrev LocEnv (x : Str) (env : Env) : Prop := env.kindOf x = some .local ∧ (env.scope.kind == .class || (env.scope.kind == .module && env.locals != env.globals)) = false
theorem Feed.ofWalks {I : Addr} {fp wr : List Addr} {n : Nat} {P : Nat → Value → Prop} {St : Nat → Heap → Prop} {x : Str} {px : Pos} (W : Walks pw w A I fp wr n P St) :
    Feed w A (.ref I) (.Name x px) fp wr n St (fun i m m' => ∃ v, P i v ∧ m' = setM m x v) (LocEnv x) where
  sub := W.sub
  frame := W.frame
  turn := fun i s env m Q E hi hst hok hfp hn hQ => by
    refine with_hs (W.item i s _ E hi hst fun v h' tk hP hst' hk hsz => ⟨v, rfl, ?_⟩)
    have U : Upd (fun b => b ∈ wr) s { s with heap := h', toks := tk } := Upd.of_heap hsz fun b o nb e => hk b o nb e
    refine wpAny_pure ?_
    have hn' : h'.Ns env.locals m := hn.at' fun o e => hk _ o (fun q => hfp (W.sub _ q)) e
    refine wpAny_assign_Name (wpAny_storeName_local hok.1 hn' (fun h'' hn'' hs'' => ?_) hok.2)
    refine hQ _ _ ((U.mono fun _ h => .inl h).trans (Upd.same (W := fun b => b ∈ wr ∨ b = env.locals) (t := tk + 1) hs'' (Or.inr rfl))) (W.frame _ _ _ hst' fun b hb o e => hs''.extBut b o (fun q => hfp (q ▸ hb)) e) hn'' ⟨v, hP, rfl⟩
  done := fun s Q E hst hQ => with_hs (W.done s _ E hst fun h' tk hk hsz => hQ _ (Upd.of_heap hsz fun b o nb e => hk b o nb e))
  self := W.self
end
section
variable {w : World} {A : Around} {R : Result → Shared → Prop} {s : Shared} {E : Value → Shared → Prop}
noncomputable abbrev testsOf (ifs : List Expr) (env : Env) : Sem Bool := forIn ifs true fun c r => if r = true then do let ok ← isTrue c env (eval c env); pure (ForInStep.yield ok) else pure (ForInStep.yield r)
theorem list_loop {elt target iter : Expr} {ifs : List Expr} {scope : Scope} {pos : Pos} {it : Value} {D : Addr} {cenv : Env} {fp wr : List Addr} {n : Nat} {St : Nat → Heap → Prop} {B : Nat → (Str → Option Value) → (Str → Option Value) → Prop} {ok : Env → Prop} {m₀ : Str → Option Value} (F : Feed w A it target fp wr n St B ok) (hok : ok cenv)
    (hDC : D ≠ cenv.locals) (hDf : D ∉ fp) (hCf : cenv.locals ∉ fp) (hn : n ≤ 10000) (hst : St 0 s.heap) (hacc : s.heap.PlainList D #[]) (hns : s.heap.Ns cenv.locals m₀)
    (Wd : Addr → Prop) (hWd : ∀ b, Wd b → b ∉ fp ∧ b ≠ D ∧ b ≠ cenv.locals) (O : Nat → List Value → Shared → Prop) (hO : O 0 [] s)
    (stable : ∀ i ys s s', O i ys s → Upd (fun b => b ∈ wr ∨ b = cenv.locals ∨ b = D) s s' → O i ys s')
    (step : ∀ i ys s₁ m m' (E' : Value → Shared → Prop), i < n → O i ys s₁ → B i m m' → s₁.heap.Ns cenv.locals m' → s₁.heap.PlainList D ys.toArray → Upd (fun b => Wd b ∨ b ∈ wr ∨ b = cenv.locals ∨ b = D) s s₁ →
      wpAny (model pw w) A (testsOf ifs cenv) (fun t s₂ => if t = true then wpAny (model pw w) A (eval elt cenv) (fun y s₃ => Upd Wd s₁ s₃ ∧ O (i + 1) (ys ++ [y]) s₃) E' s₂ else Upd Wd s₁ s₂ ∧ O (i + 1) ys s₂) E' s₁)
    (fin : ∀ s' ys m, O n ys s' → ys.length ≤ n → s'.heap.PlainList D ys.toArray → s'.heap.Ns cenv.locals m → Upd (fun b => Wd b ∨ b ∈ wr ∨ b = cenv.locals ∨ b = D) s s' → R (.ok .next) s') :
    codeAny (model pw w) A (.compLoop (.ListComp elt [⟨target, iter, ifs, 0⟩] scope pos) 0 it (.ref D) cenv) R s := by
  refine codeAny_loop rfl (fun k s' => ∃ i ys m, k = n - i ∧ i ≤ n ∧ ys.length ≤ i ∧ St i s'.heap ∧ O i ys s' ∧ s'.heap.PlainList D ys.toArray ∧ s'.heap.Ns cenv.locals m ∧ Upd (fun b => Wd b ∨ b ∈ wr ∨ b = cenv.locals ∨ b = D) s s') (fun k s' hI => ?_) n
    ⟨0, [], m₀, rfl, Nat.zero_le _, Nat.le_refl _, hst, hO, hacc, hns, .refl _ _⟩
  obtain ⟨i, ys, m, rfl, hi, hys, hst', hO', hacc', hns', U⟩ := hI
  show wpAny _ A ((compTurn (.ListComp elt [⟨target, iter, ifs, 0⟩] scope pos) 0 it (.ref D) cenv).onRaise (fun x => do noteFrame x cenv; theTreesLotGoes x)) _ _ s'
  refine wpAny_noted ?_
  rw [compTurn_list]
  refine wpAny_bind (wpAny_standAt (wpAny_bind ?_))
  rcases Nat.lt_or_ge i n with hlt | hge
  · refine wpAny_mono (F.turn i s' cenv m (fun s₃ => ∃ m', Upd (fun b => b ∈ wr ∨ b = cenv.locals) s' s₃ ∧ St (i + 1) s₃.heap ∧ s₃.heap.Ns cenv.locals m' ∧ B i m m') _ hlt hst' hok hCf hns' fun s₃ m' a b c d => ⟨m', a, b, c, d⟩) (fun r s₁ q => ?_) fun _ _ q => q
    obtain ⟨v, rfl, q⟩ := q
    refine wpAny_bind (wpAny_mono q (fun _ s₂ q => wpAny_bind (wpAny_mono q (fun _ s₃ q => ?_) fun _ _ q => q)) fun _ _ q => q)
    obtain ⟨m', U₃, hst₃, hns₃, hB⟩ := q
    have hO₃ : O i ys s₃ := stable _ _ _ _ hO' (U₃.mono fun b h => h.elim .inl fun h => .inr (.inl h))
    have hacc₃ : s₃.heap.PlainList D ys.toArray := hacc'.at fun o e => U₃.get (fun q => q.elim (fun q => hDf (F.sub _ q)) hDC) e
    have U₃' : Upd (fun b => Wd b ∨ b ∈ wr ∨ b = cenv.locals ∨ b = D) s s₃ := U.trans (U₃.mono fun b h => .inr (h.elim .inl fun h => .inr (.inl h)))
    refine wpAny_bind (wpAny_mono (step i ys s₃ m m' _ hlt hO₃ hB hns₃ hacc₃ U₃') (fun t s₄ q => ?_) fun _ _ q => q)
    cases t with
    | false =>
      simp only [Bool.false_eq_true, if_false] at q ⊢
      obtain ⟨U₄, hO₄⟩ := q
      refine wpAny_pure ⟨rfl, n - (i + 1), by omega, i + 1, ys, m', rfl, hlt, by omega, F.frame _ _ _ hst₃ (fun b hb o e => U₄.get (fun q => (hWd b q).1 hb) e), hO₄, hacc₃.at fun o e => U₄.get (fun q => (hWd _ q).2.1 rfl) e, U₄.ns (fun q => (hWd _ q).2.2 rfl) hns₃, U₃'.trans (U₄.mono fun _ h => .inl h)⟩
    | true =>
      simp only [if_true] at q ⊢
      refine wpAny_bind (wpAny_bind (wpAny_mono q (fun y s₅ q => ?_) fun _ _ q => q))
      obtain ⟨U₅, hO₅⟩ := q
      have hacc₅ : s₅.heap.PlainList D ys.toArray := hacc₃.at fun o e => U₅.get (fun q => (hWd _ q).2.1 rfl) e
      refine wpAny_bind (wpAny_list_append_plain hacc₅ (fun h' hl' hs' => ?_) (by rw [List.size_toArray]; exact Nat.le_trans (Nat.le_trans hys (Nat.le_trans hi hn)) sz10k))
      have U₆ : Upd (fun b => b = D) s₅ { s₅ with heap := h', toks := s₅.toks } := Upd.same hs' rfl
      have hl₆ : h'.PlainList D (ys ++ [y]).toArray := by
        have e : ys.toArray.push y = (ys ++ [y]).toArray := by simp
        rw [← e]; exact hl'
      refine wpAny_pure (wpAny_pure ⟨rfl, n - (i + 1), by omega, i + 1, ys ++ [y], m', rfl, hlt, by simpa using hys, F.frame _ _ _ hst₃ (fun b hb o e => U₆.get (fun q => hDf (q ▸ hb)) (U₅.get (fun q => (hWd b q).1 hb) e)), stable _ _ _ _ hO₅ (U₆.mono fun b h => .inr (.inr h)), hl₆, U₆.ns (fun q => hDC q.symm) (U₅.ns (fun q => (hWd _ q).2.2 rfl) hns₃), (U₃'.trans (U₅.mono fun _ h => .inl h)).trans (U₆.mono fun b h => .inr (.inr (.inr h)))⟩)
  · have e : i = n := Nat.le_antisymm hi hge
    subst e
    refine F.done s' _ _ hst' fun s₁ U₁ => wpAny_pure ?_
    exact fin s₁ ys m (stable _ _ _ _ hO' (U₁.mono fun b h => .inl h)) hys (hacc'.at fun o e => U₁.get (fun q => hDf (F.sub _ q)) e) (U₁.ns (fun q => hCf (F.sub _ q)) hns') (U.trans (U₁.mono fun b h => .inr (.inl h)))
end
end Mine
namespace Mine
open PySem PySem.W PySem.Calls PyProof.Rows
section
variable {w : World} {A : Around} {s : Shared} {E : Value → Shared → Prop} {env : Env}
/-- what a list comprehension needs once its iterator stands -/
structure LC (w : World) (A : Around) (env : Env) (target elt : Expr) (ifs : List Expr) (scope : Scope) (cl : List (Str × Addr)) (it : Value) (s₂ : Shared) (fin : Addr → Addr → List Value → Shared → Prop)
    (fp wr : List Addr) (n : Nat) (St : Nat → Heap → Prop) (B : Nat → (Str → Option Value) → (Str → Option Value) → Prop) (ok : Env → Prop) (Wd : Addr → Prop) (O : Addr → Addr → Nat → List Value → Shared → Prop) : Prop where
  feed : Feed w A it target fp wr n St B ok
  few : n ≤ 10000
  st : St 0 s₂.heap
  fpl : ∀ b ∈ fp, b < s₂.heap.objs.size
  okC : ∀ C, ok (compEnvC scope cl C env)
  wd : ∀ b, Wd b → b ∉ fp ∧ b < s₂.heap.objs.size
  start : ∀ C D s', s₂.heap.objs.size ≤ C → s₂.heap.objs.size ≤ D → C ≠ D → Upd noW s₂ s' → O C D 0 [] s'
  stable : ∀ C D i ys s s', O C D i ys s → Upd (fun b => b ∈ wr ∨ b = C ∨ b = D) s s' → O C D i ys s'
  step : ∀ C D i ys s₁ m m' (E' : Value → Shared → Prop), s₂.heap.objs.size ≤ C → s₂.heap.objs.size ≤ D → C ≠ D → i < n → O C D i ys s₁ → B i m m' → s₁.heap.Ns C m' → s₁.heap.PlainList D ys.toArray → Upd (fun b => Wd b ∨ b ∈ wr) s₂ s₁ →
      wpAny (model pw w) A (testsOf ifs (compEnvC scope cl C env)) (fun t s₃ => if t = true then wpAny (model pw w) A (eval elt (compEnvC scope cl C env)) (fun y s₄ => Upd Wd s₁ s₄ ∧ O C D (i + 1) (ys ++ [y]) s₄) E' s₃ else Upd Wd s₁ s₃ ∧ O C D (i + 1) ys s₃) E' s₁
  done : ∀ C D ys s' m, s₂.heap.objs.size ≤ C → s₂.heap.objs.size ≤ D → C ≠ D → O C D n ys s' → ys.length ≤ n → s'.heap.PlainList D ys.toArray → s'.heap.Ns C m → Upd (fun b => Wd b ∨ b ∈ wr) s₂ s' → fin C D ys s'
theorem list_block {target elt iter : Expr} {ifs : List Expr} {scope : Scope} {cl : List (Str × Addr)} {pos : Pos} {it : Value} {s₂ : Shared} {fin : Addr → Addr → List Value → Shared → Prop}
    {fp wr : List Addr} {n : Nat} {St : Nat → Heap → Prop} {B : Nat → (Str → Option Value) → (Str → Option Value) → Prop} {ok : Env → Prop} {Wd : Addr → Prop} {O : Addr → Addr → Nat → List Value → Shared → Prop}
    {RR : Value → Addr → Result → Shared → Prop} (hcell : ∀ y ∈ scope.names, y.2 ≠ .cell) (hkind : scope.kind = .function)
    (H : LC w A env target elt ifs scope cl it s₂ fin fp wr n St B ok Wd O) (hR : ∀ C D ys s', fin C D ys s' → RR (.ref D) C (.ok .next) s') :
    wpAny (model pw w) A (newList []) (fun acc s₃ => wpAny (model pw w) A (newFunctionEnv scope env.globals cl [] env.qual none .none (some env)) (fun cenv s₄ =>
      codeAny (model pw w) A (.compStart (.ListComp elt [⟨target, iter, ifs, 0⟩] scope pos) 0 it acc { cenv with scope := relabel scope env }) (RR acc cenv.locals) s₄) E s₃) E s₂ := by
  refine wpAny_newObj_type (hd := by size_fits) (wpAny_newFunctionEnv hcell (by intro y hy; simp at hy) (fun h₁ hns₁ hsb₁ => ?_) hkind)
  dsimp only at hns₁ hsb₁ ⊢
  generalize hH2 : s₂.heap.push { cls := .type "list", dict := none, data := .seq ([] : List Value).toArray } = H2 at hns₁ hsb₁ ⊢
  have hC : H2.objs.size = s₂.heap.objs.size + 1 := by rw [← hH2, Heap.size_push]
  have hDC : s₂.heap.objs.size ≠ H2.objs.size := by rw [hC]; exact Nat.ne_of_lt (Nat.lt_succ_self _)
  have hCle : s₂.heap.objs.size ≤ H2.objs.size := by rw [hC]; exact Nat.le_succ _
  have below : ∀ b, b < s₂.heap.objs.size → b ≠ H2.objs.size ∧ b ≠ s₂.heap.objs.size := fun b hb => ⟨by rw [hC]; exact Nat.ne_of_lt (Nat.lt_succ_of_lt hb), Nat.ne_of_lt hb⟩
  have hDf : s₂.heap.objs.size ∉ fp := fun hm => Nat.lt_irrefl _ (H.fpl _ hm)
  have hCf : H2.objs.size ∉ fp := fun hm => by have := H.fpl _ hm; rw [hC] at this; exact Nat.lt_irrefl _ (Nat.lt_of_succ_lt this)
  have old : ∀ b o, s₂.heap.get? b = some o → h₁.get? b = some o := fun b o e => hsb₁.extBut b o (below b (Heap.lt_size e)).1 (Heap.get?_push_of_some _ (hH2 ▸ Heap.get?_push_of_some _ e))
  have hacc : h₁.PlainList s₂.heap.objs.size #[] := ⟨_, hsb₁.extBut _ _ hDC (Heap.get?_push_of_some _ (hH2 ▸ Heap.get?_push_size _ rfl))⟩
  have hsz : s₂.heap.objs.size ≤ h₁.objs.size := by rw [hsb₁.1, Heap.size_push]; exact Nat.le_succ_of_le hCle
  have loop : ∀ s₃ : Shared, s₃ = { s₂ with heap := h₁, toks := s₂.toks + ([] : List (Str × Value)).length } →
      codeAny (model pw w) A (.compLoop (.ListComp elt [⟨target, iter, ifs, 0⟩] scope pos) 0 it (.ref s₂.heap.objs.size) (compEnvC scope cl H2.objs.size env)) (RR (.ref s₂.heap.objs.size) H2.objs.size) s₃ := by
    rintro s₃ rfl
    have U₀ : Upd noW s₂ { s₂ with heap := h₁, toks := s₂.toks + ([] : List (Str × Value)).length } := Upd.of_heap hsz fun b o _ e => old b o e
    have all : ∀ s', Upd (fun b => Wd b ∨ b ∈ wr ∨ b = H2.objs.size ∨ b = s₂.heap.objs.size) { s₂ with heap := h₁, toks := s₂.toks + ([] : List (Str × Value)).length } s' → Upd (fun b => Wd b ∨ b ∈ wr) s₂ s' := fun s' u =>
      (U₀.mono fun _ h => h.elim).then_fresh (u.mono fun b h => by
        rcases h with h | h | h | h
        · exact .inl (.inl h)
        · exact .inl (.inr h)
        · exact .inr (h ▸ hCle)
        · exact .inr (h ▸ Nat.le_refl _))
    refine list_loop (cenv := compEnvC scope cl H2.objs.size env) (m₀ := fun x => ([] : List (Str × Value)).reverse.lookup x) H.feed (H.okC _) hDC hDf hCf H.few (H.feed.frame _ _ _ H.st fun b _ o e => old b o e) hacc hns₁ Wd (fun b hb => ⟨(H.wd b hb).1, (below b (H.wd b hb).2).2, (below b (H.wd b hb).2).1⟩)
      (O H2.objs.size s₂.heap.objs.size) (H.start _ _ _ hCle (Nat.le_refl _) hDC.symm U₀) (fun i ys s s' h u => H.stable _ _ _ _ _ _ h u)
      (fun i ys s₁ m m' E' hi hO hB hn hl u => H.step _ _ _ _ _ _ _ _ hCle (Nat.le_refl _) hDC.symm hi hO hB hn hl (all _ u)) fun s' ys m hO hy hl hn u => ?_
    exact hR _ _ ys _ (H.done _ _ _ _ _ hCle (Nat.le_refl _) hDC.symm hO hy hl hn (all _ u))
  exact codeAny_compStart_list (loop _ rfl) (H.feed.self 0 _ _ _ (H.feed.frame _ _ _ H.st fun b _ o e => old b o e) (loop _ rfl))
/-- a list comprehension as a value -/
theorem list_comp {target elt iter : Expr} {ifs : List Expr} {scope : Scope} {cl : List (Str × Addr)} {pos : Pos} {Q : Value → Shared → Prop}
    (hclos : closureFor scope env = pure cl) (hcell : ∀ y ∈ scope.names, y.2 ≠ .cell) (hkind : scope.kind = .function) (hnames : ∀ y ∈ scope.names, y.2 = .local → scope.names.lookup y.1 = some .local)
    (h : wpAny (model pw w) A (eval iter env) (fun xv s₁ => wpAny (model pw w) A (pyIter xv) (fun it s₂ =>
      ∃ fp wr n St B ok Wd O, LC w A env target elt ifs scope cl it s₂ (fun C D _ys s' => (∃ m, s'.heap.Ns C m) ∧ ∀ s'', Upd (fun b => b = C) s' s'' → Q (.ref D) s'') fp wr n St B ok Wd O) E s₁) E s)
    (hs : ∀ x, foldedSetIterable iter env x = pure x := by intro _; rfl) :
    wpAny (model pw w) A (eval (.ListComp elt [⟨target, iter, ifs, 0⟩] scope pos) env) Q E s := by
  rw [eval_ListComp]
  refine wpAny_comprehension_free (use := none) rfl hs hclos hkind hnames (wpAny_mono h (fun xv s₁ h₁ => wpAny_mono h₁ (fun it s₂ h₂ => ?_) fun _ _ e => e) fun _ _ e => e)
  obtain ⟨fp, wr, n, St, B, ok, Wd, O, H⟩ := h₂
  refine list_block (RR := fun acc C => compPost (model pw w) A E none Q acc C) hcell hkind H ?_
  rintro C D ys s' ⟨⟨m, hn⟩, hQ⟩
  exact ⟨m, hn, fun h' hs' => hQ _ (Upd.same (t := s'.toks) hs' rfl)⟩
/-- a list comprehension stored at once -/
theorem list_comp_to {target elt iter : Expr} {ifs : List Expr} {scope : Scope} {cl : List (Str × Addr)} {pos py spos : Pos} {y : Str} {rest : List Stmt} {Q : Flow → Shared → Prop}
    (hsw : swapsWith (.ListComp elt [⟨target, iter, ifs, 0⟩] scope pos) (some (.Name y py)) spos.line env = pure true)
    (hclos : closureFor scope env = pure cl) (hcell : ∀ y ∈ scope.names, y.2 ≠ .cell) (hkind : scope.kind = .function) (hnames : ∀ y ∈ scope.names, y.2 = .local → scope.names.lookup y.1 = some .local)
    (h : wpAny (model pw w) A (eval iter env) (fun xv s₁ => wpAny (model pw w) A (pyIter xv) (fun it s₂ =>
      ∃ fp wr n St B ok Wd O, LC w A env target elt ifs scope cl it s₂ (fun C D _ys s' => wpAny (model pw w) A (storeName env y (.ref D)) (fun _ s'' => (∃ m, s''.heap.Ns C m) ∧ ∀ s₃, Upd (fun b => b = C) s'' s₃ → wpAny (model pw w) A (execs rest env) Q E s₃) E s') fp wr n St B ok Wd O) E s₁) E s)
    (hs : ∀ x, foldedSetIterable iter env x = pure x := by intro _; rfl) :
    wpAny (model pw w) A (execs (.Assign [.Name y py] (.ListComp elt [⟨target, iter, ifs, 0⟩] scope pos) spos :: rest) env) Q E s := by
  refine wpAny_execs_cons ?_
  rw [exec_Assign_Name_used _ _ _ _ hsw]
  refine wpAny_bind (wpAny_standAt (wpAny_bind ?_))
  show wpAny _ A (do let _ ← comprehension (.ListComp elt [⟨target, iter, ifs, 0⟩] scope pos) scope env _ (newList []) false (eval iter env) (some (assign (.Name y py) env))) _ _ s
  refine wpAny_bind (wpAny_mono (wpAny_comprehension_free (use := some (assign (.Name y py) env)) (Q := fun _ s' => wpAny (model pw w) A (execs rest env) Q E s') rfl hs hclos hkind hnames
    (wpAny_mono h (fun xv s₁ h₁ => wpAny_mono h₁ (fun it s₂ h₂ => ?_) fun _ _ e => e) fun _ _ e => e)) (fun _ s' hq => wpAny_pure (wpAny_pure hq)) fun _ _ e => e)
  obtain ⟨fp, wr, n, St, B, ok, Wd, O, H⟩ := h₂
  refine list_block (RR := fun acc C => compPost (model pw w) A E (some (assign (.Name y py) env)) (fun _ s' => wpAny (model pw w) A (execs rest env) Q E s') acc C) hcell hkind H ?_
  intro C D ys s' hq
  show wpAny _ A (assign (.Name y py) env (.ref D)) _ _ _
  refine wpAny_assign_Name (wpAny_mono hq (fun _ s'' q => ?_) fun _ _ q => q)
  obtain ⟨⟨m, hn⟩, hQ⟩ := q
  exact ⟨m, hn, fun h' hs' => hQ _ (Upd.same (t := s''.toks) hs' rfl)⟩
end
end Mine
namespace Mine
open PySem PySem.W PySem.Calls PyProof.Rows
noncomputable section
noncomputable abbrev fdCodes : FuncData := fdOf (ho150 P0)
theorem okCodes : FnOk 150 fdCodes := ⟨fun P => by kernel_rfl, fun P => by kernel_rfl, by kernel_rfl, by decide, by kernel_rfl, by kernel_rfl, by kernel_rfl⟩
noncomputable abbrev tx (x : Str) : List Nat := x.cps.toList
noncomputable def zs (ks : List Nat) : List Int := ks.map fun (k : Nat) => Int.ofNat k
theorem IntsAre.snoc {vs : List Value} {ks : List Int} {k : Int} {t : Tok} : IntsAre vs ks → IntsAre (vs ++ [.int k t]) (ks ++ [k])
  | .nil => .cons k t .nil
  | .cons n u r => .cons n u (IntsAre.snoc r)
theorem StrsAre.snoc {vs : List Value} {ks : List Str} {k : Str} {t : Tok} : StrsAre vs ks → StrsAre (vs ++ [.str k t]) (ks ++ [k])
  | .nil => .cons k t .nil
  | .cons n u r => .cons n u (StrsAre.snoc r)
section
variable {w : World} {A : Around} {s : Shared} {E : Value → Shared → Prop} {env : Env}
theorem codes_call {Q : Value → Shared → Prop} {x : Str} {t : Tok} (hr : Room 5 A) (hh : A.handled = none) (B : Base w s.heap) (hx : x.cps.size ≤ 10000)
    (h : ∀ D vs s', s.heap.objs.size ≤ D → Upd noW s s' → s'.heap.PlainList D vs.toArray → IntsAre vs (zs (tx x)) → Q (.ref D) s') : wpAny (model pw w) A (call (.ref 150) [.str x t] []) Q E s := by
  refine fn_call okCodes (binds := [(Str.ofString "text", .str x t)]) hr.depth B (.of_eq (by kernel_rfl)) (by kernel_rfl) (by kernel_rfl) (fun L s₁ hL U hn => ?_)
  have B₁ := B.upd0 U
  refine wpAny_execs_cons (wpAny_Return_some ?_)
  refine list_comp (cl := []) (by kernel_rfl) (by decide +kernel) (by kernel_rfl) (by decide +kernel) (nL hn (v := .str x t) (by kernel_rfl) (wpAny_pyIter_str fun o St W st => ?_))
  have U₁ : Upd noW s₁ { s₁ with heap := s₁.heap.push o } := Upd.push (t := s₁.toks)
  refine ⟨_, _, _, _, _, _, noW, fun C D i ys s' => IntsAre ys (zs ((tx x).take i)), Feed.ofWalks (W _ hh), hx, st, ?_, ?_, ?_, ?_, ?_, ?_, ?_⟩
  · intro b hb; rw [List.mem_singleton.mp hb, Heap.size_push]; exact Nat.lt_succ_self _
  · intro C; exact ⟨by kernel_rfl, by kernel_rfl⟩
  · exact fun b h => h.elim
  · intro C D s' _ _ _ _; (rw [List.take_zero]; exact .nil)
  · intro C D i ys s s' h _; exact h
  · rintro C D i ys s₂ m m' E' hC hD hCD hi hO ⟨v, ⟨c, u, hc, rfl⟩, rfl⟩ hns hl U₂
    refine wpAny_tests_nil ?_
    simp only [if_true]
    have B₂ : Base w s₂.heap := (B₁.upd0 U₁).upd U₂ fun b hb => .inr (by rcases hb with hb | hb; exact hb.elim; rw [List.mem_singleton.mp hb]; exact B₁.2)
    refine callB1 (id := "ord") B₂ (fun P => by kernel_rfl) (fun P => by kernel_rfl) (nL hns (v := .str ⟨#[c]⟩ u) (if_pos rfl) (P.ord_of_char ⟨.toks, ?_⟩))
    have e : (tx x).take (i + 1) = (tx x).take i ++ [c] := by
      have : (tx x)[i]? = some c := by simpa using hc
      rw [List.take_add_one, this]; rfl
    rw [e]; unfold zs; rw [List.map_append]
    exact IntsAre.snoc hO
  · intro C D ys s' m hC hD hCD hO hy hl hns U₂
    refine ⟨⟨m, hns⟩, fun s'' U₃ => ?_⟩
    have hlen : (tx x).take x.cps.size = tx x := List.take_of_length_le (by simp)
    rw [hlen] at hO
    have hsz : s₁.heap.objs.size ≤ D := Nat.le_trans U₁.size hD
    have hsC : s₁.heap.objs.size ≤ C := Nat.le_trans U₁.size hC
    refine h D ys s'' (Nat.le_trans U.size hsz) ?_ (hl.at fun o e => U₃.get (fun q => hCD q.symm) e) hO
    have U₄ : Upd noW s₁ s' := U₁.then_fresh (U₂.mono fun b hb => by
      rcases hb with hb | hb
      · exact .inl hb
      · rw [List.mem_singleton.mp hb]; exact .inr (Nat.le_refl _))
    exact (U.trans U₄).then_fresh (U₃.mono fun b hb => .inr (hb ▸ Nat.le_trans U.size hsC))
end
end
end Mine
namespace Mine
open PySem PySem.W PySem.Calls PyProof.Rows
noncomputable section
theorem tx_join (e : Str) (he : tx e = []) : ∀ ys : List Str, tx (Str.join e ys) = (ys.map tx).flatten
  | [] => rfl
  | [x] => by simp [join_one]
  | x :: y :: r => by
    rw [join_cons_cons]
    have := tx_join e he (y :: r)
    show (x.cps ++ e.cps ++ (Str.join e (y :: r)).cps).toList = _
    rw [Array.toList_append, Array.toList_append]
    show tx x ++ tx e ++ tx (Str.join e (y :: r)) = _
    rw [this, he]; simp
noncomputable def prep (l : List Nat) : List Nat := ((l.filter fun c => !inB1 c).map b3Of).flatten
noncomputable abbrev fdPrep : FuncData := fdOf (ho145 P0)
theorem okPrep : FnOk 145 fdPrep := ⟨fun P => by kernel_rfl, fun P => by kernel_rfl, by kernel_rfl, by decide, by kernel_rfl, by kernel_rfl, by kernel_rfl⟩
noncomputable def valLen (e : DictEntry) : Bool := match e.val with | .str x _ => decide (x.cps.size ≤ 18) | _ => true
theorem b3_short : (b3Es.toList.all valLen) = true := by kernel_rfl
theorem b3Of_len (c : Nat) : (b3Of c).length ≤ 18 := by
  unfold b3Of
  split
  · rename_i x t h
    unfold b3At findBy at h
    obtain ⟨e, he, hv⟩ := Option.map_eq_some_iff.mp h
    have hm : e ∈ b3Es.toList := Array.mem_toList_iff.mpr (Array.mem_of_find?_eq_some he)
    have := List.all_eq_true.mp b3_short e hm
    unfold valLen at this
    rw [hv] at this
    simpa using this
  · have := len_lower ⟨#[c]⟩
    have e : (Txt.lower ⟨#[c]⟩).cps.toList.length = (Txt.lower ⟨#[c]⟩).length := by simp [Str.length]
    rw [e]
    have : (⟨#[c]⟩ : Str).length = 1 := rfl
    omega
section
variable {w : World} {A : Around} {s : Shared} {E : Value → Shared → Prop} {env : Env}
theorem StrsAre.len : ∀ {vs : List Value} {ys : List Str}, StrsAre vs ys → vs.length = ys.length
  | _, _, .nil => rfl
  | _, _, .cons _ _ r => by simp [StrsAre.len r]
theorem sum_len_le : ∀ {zs : List Str} {ks : List (List Nat)}, zs.map tx = ks → (∀ k ∈ ks, k.length ≤ 18) → (zs.map (·.length)).sum ≤ 18 * ks.length
  | [], _, rfl, _ => by simp
  | z :: zs, _, rfl, h => by
    have h1 := h (tx z) (by simp)
    have h2 := sum_len_le (zs := zs) rfl (fun k hk => h k (by simp at hk ⊢; exact .inr hk))
    have e : z.length = (tx z).length := by simp [Str.length]
    simp only [List.map_cons, List.sum_cons, List.length_cons]
    omega
theorem prep_call {Q : Value → Shared → Prop} {x : Str} {t : Tok} (hr : Room 10 A) (hh : A.handled = none) (B : Base w s.heap) (hx : x.cps.size ≤ 10000)
    (h : ∀ y k s', Upd noW s s' → tx y = prep (tx x) → Q (.str y k) s') : wpAny (model pw w) A (call (.ref 145) [.str x t] []) Q E s := by
  refine fn_call okPrep (binds := [(Str.ofString "text", .str x t)]) hr.depth B (.of_eq (by kernel_rfl)) (by kernel_rfl) (by kernel_rfl) (fun L s₁ hL U hn => ?_)
  have B₁ := B.upd0 U
  have hr' := hr.deeper (n := 9) (callEnv fdPrep L 145)
  refine wpAny_execs_cons (wpAny_Return_some (Call_method1 rfl rfl (by kernel_rfl) (wpAny_Constant_str ?_)))
  have T₁ : Upd noW s₁ { s₁ with toks := s₁.toks + 1 } := .toks
  refine ⟨"str", "str.join", PySem.F.plainAttrs_str, PySem.F.slot_str_join, PySem.F.type_str_join, typeIs_str _ _ _, (by rintro _ ⟨⟩), ?_⟩
  refine callWith_builtin rfl (evalArgs_plain (spliced_cons ?_))
  refine list_comp (s := { s₁ with toks := s₁.toks + 1 }) (cl := []) (by kernel_rfl) (by decide +kernel) (by kernel_rfl) (by decide +kernel) (nL (s := { s₁ with toks := s₁.toks + 1 }) hn (v := .str x t) (by kernel_rfl) (wpAny_pyIter_str fun o St W st => ?_))
  have U₁ : Upd noW s₁ { s₁ with heap := s₁.heap.push o, toks := s₁.toks + 1 } := Upd.push
  refine ⟨_, _, _, _, _, _, noW, fun C D i ys s' => ys.length ≤ i ∧ ∃ zs : List Str, StrsAre ys zs ∧ zs.map tx = (((tx x).take i).filter fun c => !inB1 c).map b3Of, Feed.ofWalks (W _ hh), hx, st, ?_, ?_, ?_, ?_, ?_, ?_, ?_⟩
  · intro b hb; rw [List.mem_singleton.mp hb, Heap.size_push]; exact Nat.lt_succ_self _
  · intro C; exact ⟨by kernel_rfl, by kernel_rfl⟩
  · exact fun b h => h.elim
  · intro C D s' _ _ _ _; exact ⟨Nat.le_refl _, [], .nil, by rw [List.take_zero]; rfl⟩
  · intro C D i ys s s' h _; exact h
  · rintro C D i ys s₂ m m' E' hC hD hCD hi ⟨hyl, zs, hz, he⟩ ⟨v, ⟨c, u, hc, rfl⟩, rfl⟩ hns hl U₂
    have B₂ : Base w s₂.heap := (B₁.upd0 U₁).upd U₂ fun b hb => .inr (by rcases hb with hb | hb; exact hb.elim; rw [List.mem_singleton.mp hb]; exact B₁.2)
    have e : (tx x).take (i + 1) = (tx x).take i ++ [c] := by
      have : (tx x)[i]? = some c := by simpa using hc
      rw [List.take_add_one, this]; rfl
    refine wpAny_tests_one (wpAny_isTrue_Not (wpAny_isTrue_value (callG1 okB1 B₂ (fun P => by kernel_rfl) (nL hns (v := .str ⟨#[c]⟩ u) (if_pos rfl) ⟨B₂, b1_call (hr'.le (by decide)) B₂ fun s₃ U₃ => wpAny_truthy_bool ?_⟩))))
    cases hb : inB1 c with
    | true =>
      simp only [Bool.not_true, Bool.false_eq_true, if_false]
      refine ⟨U₃, Nat.le_succ_of_le hyl, zs, hz, ?_⟩
      rw [e, List.filter_append, he]; simp [hb]
    | false =>
      simp only [Bool.not_false, if_true]
      refine callG1 okB3 (B₂.upd0 U₃) (fun P => by kernel_rfl) (nL (U₃.ns id hns) (v := .str ⟨#[c]⟩ u) (if_pos rfl) ⟨B₂.upd0 U₃, b3_call (hr'.le (by decide)) (B₂.upd0 U₃) fun y k s₄ U₄ hy => ?_⟩)
      refine ⟨U₃.trans U₄, by simpa using hyl, zs ++ [y], StrsAre.snoc hz, ?_⟩
      rw [e, List.filter_append, List.map_append, he]; simp [hb]; exact hy
  · rintro C D ys s' m hC hD hCD ⟨hyl, zs, hz, he⟩ hy hl hns U₂
    refine ⟨⟨m, hns⟩, fun s'' U₃ => spliced_nil ?_⟩
    have hlen : (tx x).take x.cps.size = tx x := List.take_of_length_le (by simp)
    rw [hlen] at he
    have hsC : s₁.heap.objs.size ≤ C := Nat.le_trans U₁.size hC
    have hl'' : s''.heap.PlainList D ys.toArray := hl.at fun o e => U₃.get (fun q => hCD q.symm) e
    refine join_list hl''.isList (by simpa using hz) ?_ fun t' k => ?_
    · have h1 := sum_len_le he (fun k hk => by obtain ⟨c, _, rfl⟩ := List.mem_map.mp hk; exact b3Of_len c)
      have h2 := congrArg List.length he
      have h3 := StrsAre.len hz
      simp only [List.length_map] at h1 h2
      have h4 : (Str.ofString "").length = 0 := by kernel_rfl
      rw [h4]
      omega
    · have U₄ : Upd noW s₁ s' := U₁.then_fresh (U₂.mono fun b hb => by
        rcases hb with hb | hb
        · exact .inl hb
        · rw [List.mem_singleton.mp hb]; exact .inr (Nat.le_refl _))
      refine h _ _ _ (((U.trans U₄).then_fresh (U₃.mono fun b hb => .inr (hb ▸ Nat.le_trans U.size hsC))).trans .toks) ?_
      have ej := tx_join (Str.ofString "") (by kernel_rfl) zs
      rw [he, ← eq_of_beq (join_plain_closes (Str.ofString "") zs)] at ej
      exact ej
end
end
end Mine
namespace Mine
open PySem PySem.W PySem.Calls PyProof.Rows
section
variable {w : World} {A : Around} {R : Result → Shared → Prop} {s : Shared} {E : Value → Shared → Prop} {env : Env}
theorem for_loop {target : Expr} {it : Value} {body : List Stmt} {fp wr : List Addr} {n : Nat} {St : Nat → Heap → Prop} {B : Nat → (Str → Option Value) → (Str → Option Value) → Prop} {ok : Env → Prop} {m₀ : Str → Option Value} (F : Feed w A it target fp wr n St B ok) (hok : ok env)
    (hLf : env.locals ∉ fp) (hst : St 0 s.heap) (hns : s.heap.Ns env.locals m₀) (J : Nat → (Str → Option Value) → Shared → Prop) (hJ : J 0 m₀ s)
    (step : ∀ i m s₁ s₂ m' (E' : Value → Shared → Prop), i < n → J i m s₁ → Upd (fun b => b ∈ wr ∨ b = env.locals) s₁ s₂ → s₂.heap.Ns env.locals m' → B i m m' →
      wpAny (model pw w) A (execs body env) (fun f s₃ => match f with
        | .next | .cont => Upd (fun b => b ∉ fp) s₂ s₃ ∧ ∃ m₂, s₃.heap.Ns env.locals m₂ ∧ J (i + 1) m₂ s₃
        | .brk => False
        | .ret v => R (.ok (.ret v)) s₃) E' s₂)
    (fin : ∀ m s₁ s₂, J n m s₁ → s₂.heap.Ns env.locals m → Upd (fun b => b ∈ wr) s₁ s₂ → R (.ok .next) s₂) :
    codeAny (model pw w) A (.forLoop target it body [] env) R s := by
  refine codeAny_forLoop_any (fun k s' => ∃ i m, k = n - i ∧ i ≤ n ∧ St i s'.heap ∧ s'.heap.Ns env.locals m ∧ J i m s') (fun k s' hI => ?_) n ⟨0, m₀, rfl, Nat.zero_le _, hst, hns, hJ⟩
  obtain ⟨i, m, rfl, hi, hst', hns', hJ'⟩ := hI
  rcases Nat.lt_or_ge i n with hlt | hge
  · refine wpAny_mono (F.turn i s' env m (fun s₃ => ∃ m', Upd (fun b => b ∈ wr ∨ b = env.locals) s' s₃ ∧ St (i + 1) s₃.heap ∧ s₃.heap.Ns env.locals m' ∧ B i m m') _ hlt hst' hok hLf hns' fun s₃ m' a b c d => ⟨m', a, b, c, d⟩) (fun r s₁ q => ?_) fun _ _ q => q
    obtain ⟨v, rfl, q⟩ := q
    refine wpAny_mono q (fun _ s₂ q => wpAny_mono q (fun _ s₃ q => ?_) fun _ _ q => q) fun _ _ q => q
    obtain ⟨m', U₃, hst₃, hns₃, hB⟩ := q
    refine wpAny_mono (step i m s' s₃ m' _ hlt hJ' U₃ hns₃ hB) (fun f s₄ q => ?_) fun _ _ q => q
    cases f with
    | brk => exact q.elim
    | ret v => exact q
    | next =>
      obtain ⟨U₄, m₂, hns₄, hJ₄⟩ := q
      exact ⟨n - (i + 1), by omega, i + 1, m₂, rfl, hlt, F.frame _ _ _ hst₃ (fun b hb o e => U₄.get (fun q => q hb) e), hns₄, hJ₄⟩
    | cont =>
      obtain ⟨U₄, m₂, hns₄, hJ₄⟩ := q
      exact ⟨n - (i + 1), by omega, i + 1, m₂, rfl, hlt, F.frame _ _ _ hst₃ (fun b hb o e => U₄.get (fun q => q hb) e), hns₄, hJ₄⟩
  · have e : i = n := Nat.le_antisymm hi hge
    subst e
    refine F.done s' _ _ hst' fun s₁ U₁ => wpAny_execs_nil ?_
    exact fin m s' s₁ hJ' (U₁.ns (fun q => hLf (F.sub _ q)) hns') U₁
theorem for_stmt {target iter : Expr} {body rest : List Stmt} {pos : Pos} {Q : Flow → Shared → Prop}
    (h : wpAny (model pw w) A (eval iter env) (fun xv s₁ => wpAny (model pw w) A (pyIter xv) (fun it s₂ =>
      ∃ (fp wr : List Addr) (n : Nat) (St : Nat → Heap → Prop) (B : Nat → (Str → Option Value) → (Str → Option Value) → Prop) (ok : Env → Prop) (m₀ : Str → Option Value) (J : Nat → (Str → Option Value) → Shared → Prop), Feed w A it target fp wr n St B ok ∧ ok env ∧ env.locals ∉ fp ∧ St 0 s₂.heap ∧ s₂.heap.Ns env.locals m₀ ∧ J 0 m₀ s₂ ∧
        (∀ i m s₁ s₂ m' (E' : Value → Shared → Prop), i < n → J i m s₁ → Upd (fun b => b ∈ wr ∨ b = env.locals) s₁ s₂ → s₂.heap.Ns env.locals m' → B i m m' →
          wpAny (model pw w) A (execs body env) (fun f s₃ => match f with
            | .next | .cont => Upd (fun b => b ∉ fp) s₂ s₃ ∧ ∃ m₂, s₃.heap.Ns env.locals m₂ ∧ J (i + 1) m₂ s₃
            | .brk => False
            | .ret v => Q (.ret v) s₃) E' s₂) ∧
        (∀ m s₁ s₂, J n m s₁ → s₂.heap.Ns env.locals m → Upd (fun b => b ∈ wr) s₁ s₂ → wpAny (model pw w) A (execs rest env) Q E s₂)) E s₁) E s)
    (hs : ∀ x, foldedSetIterable iter env x = pure x := by intro _; rfl) :
    wpAny (model pw w) A (execs (.For target iter body [] pos :: rest) env) Q E s := by
  refine wpAny_execs_cons (wpAny_For (wpAny_mono h (fun xv s₁ q => wpAny_mono q (fun it s₂ q => ?_) fun _ _ q => q) fun _ _ q => q) hs)
  obtain ⟨fp, wr, n, St, B, ok, m₀, J, F, hok, hLf, hst, hns, hJ, step, fin⟩ := q
  exact for_loop (R := fun r s' => match r with | .ok f => (match f with | .next => wpAny (model pw w) A (execs rest env) Q E s' | f => Q f s') | .error e => cameBackBy (model pw w) A env E e s') F hok hLf hst hns J hJ (fun i m s₁ s₂ m' E' a b c d e => step i m s₁ s₂ m' E' a b c d e) fin
end
section
variable {w : World} {A : Around} {s : Shared} {E : Value → Shared → Prop} {env : Env}
theorem Feed.zip2 {x y : Str} {px py pt : Pos} {k : Nat} (hh : A.handled = none) {z TI TO i1 i2 l1 l2 : Addr} (D : ZipApart z TI TO i1 i2 l1 l2) (xs ys : Array Value) :
    Feed w A (.ref z) (.Tuple [.Name x px, .Name y py] k pt) [z, TI, TO, i1, i2, l1, l2] [z, TO, i1, i2] (min xs.size ys.size)
      (fun i h => IsZip h z TI TO .none ∧ IsPair h TI (.ref i1) (.ref i2) ∧ (∃ a b, IsPair h TO a b) ∧ h.IsListIter i1 l1 i ∧ h.IsListIter i2 l2 i ∧ h.IsList l1 xs ∧ h.IsList l2 ys)
      (fun i m m' => ∃ a b, xs[i]? = some a ∧ ys[i]? = some b ∧ m' = setM (setM m x a) y b) (fun env => LocEnv x env ∧ LocEnv y env) where
  sub := (WalksT.zip2 (prog := pw) (w := w) hh z TI TO i1 i2 l1 l2 D xs ys).sub
  frame := (WalksT.zip2 (prog := pw) (w := w) hh z TI TO i1 i2 l1 l2 D xs ys).frame
  done := fun s Q E hst hQ => with_hs ((WalksT.zip2 (prog := pw) (w := w) hh z TI TO i1 i2 l1 l2 D xs ys).done s _ E hst fun h' tk hk hsz => hQ _ (Upd.of_heap hsz fun b o nb e => hk b o nb e))
  self := (WalksT.zip2 (prog := pw) (w := w) hh z TI TO i1 i2 l1 l2 D xs ys).self
  turn := fun i s env m Q E hi hst hok hfp hn hQ => by
    have W := WalksT.zip2 (prog := pw) (w := w) hh z TI TO i1 i2 l1 l2 D xs ys
    have hfw : env.locals ∉ [z, TO, i1, i2] := fun q => hfp (W.sub _ q)
    refine with_hs (W.item i s _ E hi hst fun T vals h' tk hP hT hIT hmid hk hsz => ⟨.ref T, rfl, ?_⟩)
    obtain ⟨a, b, ha, hb, rfl⟩ := hP
    have hTw : T ∉ [z, TO, i1, i2] := W.apart _ _ _ hmid
    refine with_hs (W.go _ _ _ _ _ _ _ _ hmid fun h'' hst'' hk' hsz' => ?_)
    have hIT' : h''.IsTuple T #[a, b] := by obtain ⟨o, ho, r⟩ := hIT; exact ⟨o, hk' _ o hTw ho, r⟩
    have U : Upd (fun b => b ∈ [z, TO, i1, i2]) s { s with heap := h'', toks := tk } := Upd.of_heap (Nat.le_trans hsz hsz') fun b o nb e => hk' b o nb (hk b o nb e)
    refine with_hs (wpAny_assign_Tuple hh (s := { s with heap := h'', toks := tk }) hIT' rfl rfl fun h₃ hx₃ => ?_)
    have hn₂ : h''.Ns env.locals m := hn.at' fun o e => hk' _ o hfw (hk _ o hfw e)
    have hLs : env.locals ≠ h''.objs.size := by obtain ⟨o, _, _, e, _⟩ := hn₂; exact Nat.ne_of_lt (Heap.lt_size e)
    have hn₃ : h₃.Ns env.locals m := hn₂.at' fun o e => hx₃ _ _ hLs e
    show wpAny _ _ (assignInOrder [assign (.Name x px) env, assign (.Name y py) env] [a, b]) _ _ _
    refine assignInOrder_cons (wpAny_assign_Name (wpAny_storeName_local hok.1.1 hn₃ (fun h₄ hn₄ hs₄ => ?_) hok.1.2))
    refine assignInOrder_cons (wpAny_assign_Name (wpAny_storeName_local hok.2.1 hn₄ (fun h₅ hn₅ hs₅ => assignInOrder_nil fun hsz₅ => ?_) hok.2.2))
    have old : ∀ b o, b ≠ env.locals → h''.get? b = some o → h₅.get? b = some o := fun b o nb e => hs₅.extBut _ _ nb (hs₄.extBut _ _ nb (hx₃ _ _ (Nat.ne_of_lt (Heap.lt_size e)) e))
    refine hQ _ _ ((U.mono fun _ h => .inl h).trans (Upd.of_heap (W := fun b => b ∈ [z, TO, i1, i2] ∨ b = env.locals) hsz₅ fun b o nb e => old b o (fun q => nb (.inr q)) e)) ?_ hn₅ ⟨a, b, ha, hb, rfl⟩
    exact W.frame _ _ _ hst'' fun b hb o e => old b o (fun q => hfp (q ▸ hb)) e
end
end Mine
namespace Mine
open PySem PySem.W PySem.Calls PyProof.Rows
noncomputable section
noncomputable def wayOf : List Nat → List Nat → Int
  | a :: l, b :: r => if a = b then wayOf l r else if a < b then -1 else 1
  | _, _ => 0
theorem wayOf_at : ∀ {i : Nat} {l r : List Nat} {a b : Nat}, l.take i = r.take i → l[i]? = some a → r[i]? = some b → a ≠ b → wayOf l r = if a < b then -1 else 1
  | 0, x :: l, y :: r, a, b, _, ha, hb, hne => by
    simp at ha hb; subst ha; subst hb; simp [wayOf, hne]
  | i + 1, x :: l, y :: r, a, b, h, ha, hb, hne => by
    simp at h ha hb
    obtain ⟨rfl, h⟩ := h
    simp [wayOf]
    exact wayOf_at h ha hb hne
  | 0, [], _, _, _, _, ha, _, _ => by simp at ha
  | 0, _ :: _, [], _, _, _, _, hb, _ => by simp at hb
  | _ + 1, [], _, _, _, _, ha, _, _ => by simp at ha
  | _ + 1, _ :: _, [], _, _, _, _, hb, _ => by simp at hb
theorem wayOf_same : ∀ {l r : List Nat}, l.take (min l.length r.length) = r.take (min l.length r.length) → wayOf l r = 0
  | [], _, _ => by simp [wayOf]
  | _ :: _, [], _ => by simp [wayOf]
  | x :: l, y :: r, h => by
    have e : min (x :: l).length (y :: r).length = min l.length r.length + 1 := by simp
    rw [e] at h
    simp at h
    obtain ⟨rfl, h⟩ := h
    simp [wayOf]
    exact wayOf_same h
theorem IntsAre.at' : ∀ {vs : List Value} {ns : List Int} {i : Nat} {v : Value}, IntsAre vs ns → vs[i]? = some v → ∃ k t, ns[i]? = some k ∧ v = .int k t
  | _, _, 0, _, .cons n t _, h => by simp at h; exact ⟨n, t, rfl, h.symm⟩
  | _, _, i + 1, _, .cons n t r, h => by simp at h; simpa using IntsAre.at' r h
  | _, _, _, _, .nil, h => by simp at h
theorem IntsAre.len : ∀ {vs : List Value} {ns : List Int}, IntsAre vs ns → vs.length = ns.length
  | _, _, .nil => rfl
  | _, _, .cons _ _ r => by simp [IntsAre.len r]
theorem zs_len (l : List Nat) : (zs l).length = l.length := by simp [zs]
theorem zs_at {l : List Nat} {i : Nat} {k : Int} (h : (zs l)[i]? = some k) : ∃ a : Nat, l[i]? = some a ∧ k = a := by
  unfold zs at h
  rw [List.getElem?_map] at h
  obtain ⟨a, ha, rfl⟩ := Option.map_eq_some_iff.mp h
  exact ⟨a, ha, rfl⟩
theorem zipApart {N l1 l2 : Nat} (h1 : l1 < N) (h2 : l2 < N) : ZipApart (N + 4) (N + 2) (N + 3) N (N + 1) l1 l2 := by
  constructor <;> (show (_ : Nat) ≠ _; omega)
noncomputable abbrev fdWay : FuncData := fdOf (ho157 P0)
theorem okWay : FnOk 157 fdWay := ⟨fun P => by kernel_rfl, fun P => by kernel_rfl, by kernel_rfl, by decide, by kernel_rfl, by kernel_rfl, by kernel_rfl⟩
section
variable {w : World} {A : Around} {s : Shared} {E : Value → Shared → Prop} {env : Env}
/-- zip of two lists gives a feed -/
theorem zip_feed {l1 l2 : Addr} {xs ys : Array Value} {Q : Value → Shared → Prop} (hh : A.handled = none) (h1 : s.heap.IsList l1 xs) (h2 : s.heap.IsList l2 ys)
    (h : ∀ z fp wr St s₂, (∀ (x y : Str) (px py pt : Pos) (k : Nat), Feed w A z (.Tuple [.Name x px, .Name y py] k pt) fp wr (min xs.size ys.size) St (fun i m m' => ∃ a b, xs[i]? = some a ∧ ys[i]? = some b ∧ m' = setM (setM m x a) y b) (fun env => LocEnv x env ∧ LocEnv y env)) →
      St 0 s₂.heap → (∀ b ∈ fp, (s.heap.objs.size ≤ b ∨ b = l1 ∨ b = l2) ∧ b < s₂.heap.objs.size) → (∀ b ∈ wr, s.heap.objs.size ≤ b) → Upd noW s s₂ → wpAny (model pw w) A (pyIter z) (fun it s₃ => it = z ∧ s₃ = s₂) E s₂ → Q z s₂) :
    wpAny (model pw w) A (call (.type "zip") [.ref l1, .ref l2] []) Q E s := by
  refine with_hs (call_zip_2 h1 h2 fun h' a1 a2 a3 a4 a5 hsz hk hgrow => ?_)
  have hb1 : l1 < s.heap.objs.size := by obtain ⟨o, ho, _⟩ := h1; exact Heap.lt_size ho
  have hb2 : l2 < s.heap.objs.size := by obtain ⟨o, ho, _⟩ := h2; exact Heap.lt_size ho
  have F := fun x y px py pt k => Feed.zip2 (w := w) (A := A) (x := x) (y := y) (px := px) (py := py) (pt := pt) (k := k) hh (zipApart hb1 hb2) xs ys
  have st : IsZip h' (s.heap.objs.size + 4) (s.heap.objs.size + 2) (s.heap.objs.size + 3) .none ∧ IsPair h' (s.heap.objs.size + 2) (.ref s.heap.objs.size) (.ref (s.heap.objs.size + 1)) ∧ (∃ a b, IsPair h' (s.heap.objs.size + 3) a b) ∧ h'.IsListIter s.heap.objs.size l1 0 ∧ h'.IsListIter (s.heap.objs.size + 1) l2 0 ∧ h'.IsList l1 xs ∧ h'.IsList l2 ys :=
    ⟨a1, a2, ⟨_, _, a3⟩, a4, a5, h1.at fun o e => hk _ o e, h2.at fun o e => hk _ o e⟩
  have big : ∀ n : Nat, n < 5 → s.heap.objs.size + n < h'.objs.size := fun n hn => by rw [hsz]; exact Nat.add_lt_add_left hn _
  refine h _ _ _ _ { s with heap := h' } F st ?_ ?_ (Upd.of_heap (tk := s.toks) hgrow fun b o _ e => hk b o e) ((F (Str.ofString "") (Str.ofString "") p0 p0 p0 0).self 0 _ _ _ st ⟨rfl, rfl⟩)
  · intro b hb
    have l1' : l1 < h'.objs.size := Nat.lt_of_lt_of_le hb1 hgrow
    have l2' : l2 < h'.objs.size := Nat.lt_of_lt_of_le hb2 hgrow
    simp only [List.mem_cons, List.not_mem_nil, or_false] at hb
    rcases hb with rfl | rfl | rfl | rfl | rfl | rfl | rfl
    · exact ⟨.inl (Nat.le_add_right _ _), big 4 (by decide)⟩
    · exact ⟨.inl (Nat.le_add_right _ _), big 2 (by decide)⟩
    · exact ⟨.inl (Nat.le_add_right _ _), big 3 (by decide)⟩
    · exact ⟨.inl (Nat.le_refl _), big 0 (by decide)⟩
    · exact ⟨.inl (Nat.le_add_right _ _), big 1 (by decide)⟩
    · exact ⟨.inr (.inl rfl), l1'⟩
    · exact ⟨.inr (.inr rfl), l2'⟩
  · intro b hb
    simp only [List.mem_cons, List.not_mem_nil, or_false] at hb
    rcases hb with rfl | rfl | rfl | rfl
    · exact Nat.le_add_right _ _
    · exact Nat.le_add_right _ _
    · exact Nat.le_refl _
    · exact Nat.le_add_right _ _
end
end
end Mine
namespace Mine
open PySem PySem.W PySem.Calls PyProof.Rows
noncomputable section
section
variable {w : World} {A : Around} {s : Shared} {E : Value → Shared → Prop} {env : Env}
theorem lt_of_ns {h : Heap} {a : Addr} {m} (x : h.Ns a m) : a < h.objs.size := let ⟨_, _, _, e, _⟩ := x; Heap.lt_size e
theorem way_call {Q : Value → Shared → Prop} {x y : Str} {t u : Tok} (hr : Room 10 A) (hh : A.handled = none) (B : Base w s.heap) (hx : x.cps.size ≤ 10000) (hy : y.cps.size ≤ 10000)
    (h : ∀ k s', Upd noW s s' → Q (.int (wayOf (tx x) (tx y)) k) s') : wpAny (model pw w) A (call (.ref 157) [.str x t, .str y u] []) Q E s := by
  refine fn_call okWay (binds := [(Str.ofString "one", .str x t), (Str.ofString "two", .str y u)]) hr.depth B (.of_eq (by kernel_rfl)) (by kernel_rfl) (by kernel_rfl) (fun L s₁ hL U hn => ?_)
  have B₁ := B.upd0 U
  have hr' := hr.deeper (n := 9) (callEnv fdWay L 157)
  refine for_stmt ?_
  refine call_ (trees := [(false, eval _ _), (false, eval _ _)]) (kts := []) rfl rfl (nB B₁ (v := .type "zip") (fun P => by kernel_rfl) (fun P => by kernel_rfl) (PyProof.Rows.callWith_type rfl (evalArgs_plain (spliced_cons ?_))))
  refine callG1 okCodes B₁ (fun P => by kernel_rfl) (nL hn (v := .str x t) (by kernel_rfl) ⟨B₁, codes_call (hr'.le (by decide)) hh B₁ hx fun D1 v1 s₂ hD1 U₂ hl1 hi1 => ?_⟩)
  have B₂ := B₁.upd0 U₂
  have hn₂ := U₂.ns id hn
  refine spliced_cons (callG1 okCodes B₂ (fun P => by kernel_rfl) (nL hn₂ (v := .str y u) (by kernel_rfl) ⟨B₂, codes_call (hr'.le (by decide)) hh B₂ hy fun D2 v2 s₃ hD2 U₃ hl2 hi2 => spliced_nil ?_⟩))
  have B₃ := B₂.upd0 U₃
  have hn₃ := U₃.ns id hn₂
  have hL1 : L < D1 := Nat.lt_of_lt_of_le (lt_of_ns hn) hD1
  have hL2 : L < D2 := Nat.lt_of_lt_of_le (lt_of_ns hn₂) hD2
  refine zip_feed (hh := hh) (hl1.at fun o e => U₃.get id e).isList hl2.isList fun z fp wr St s₄ F st hfp hwr U₄ hit => ?_
  refine wpAny_mono hit (fun it s₅ q => ?_) fun _ _ q => q
  obtain ⟨rfl, rfl⟩ := q
  have hn₄ := U₄.ns id hn₃
  have hLf : L ∉ fp := fun hb => by
    rcases (hfp _ hb).1 with q | q | q
    · exact absurd (lt_of_ns hn₃) (Nat.not_lt.mpr q)
    · exact absurd hL1 (Nat.not_lt.mpr (Nat.le_of_eq q.symm))
    · exact absurd hL2 (Nat.not_lt.mpr (Nat.le_of_eq q.symm))
  have e1 : v1.length = (tx x).length := by rw [IntsAre.len hi1, zs_len]
  have e2 : v2.length = (tx y).length := by rw [IntsAre.len hi2, zs_len]
  have U₀ : Upd noW s s₅ := ((U.trans U₂).trans U₃).trans U₄
  refine ⟨fp, wr, _, St, _, _, _, fun i _ s' => (tx x).take i = (tx y).take i ∧ Upd (fun b => b ∈ wr ∨ b = L) s₅ s', F _ _ _ _ _ _, ⟨⟨by kernel_rfl, by kernel_rfl⟩, by kernel_rfl, by kernel_rfl⟩, hLf, st, hn₄, ⟨rfl, .refl _ _⟩, ?_, ?_⟩
  · rintro i m s₆ s₇ m' E' hi ⟨hJ, U₅⟩ U₆ hn₇ ⟨va, vb, ha, hb, rfl⟩
    have U₇ : Upd (fun b => b ∈ wr ∨ b = L) s₅ s₇ := U₅.trans U₆
    have U₈ : Upd noW s s₇ := U₀.then_fresh (U₇.mono fun b hb => .inr (by
      rcases hb with hb | hb
      · exact Nat.le_trans (((U.trans U₂).trans U₃).size) (hwr _ hb)
      · rw [hb]; exact hL))
    obtain ⟨ka, ta, hka, rfl⟩ := IntsAre.at' hi1 (i := i) (by simpa using ha)
    obtain ⟨kb, tb, hkb, rfl⟩ := IntsAre.at' hi2 (i := i) (by simpa using hb)
    obtain ⟨a, ha', rfl⟩ := zs_at hka
    obtain ⟨b, hb', rfl⟩ := zs_at hkb
    have ga : (setM (setM m (Str.ofString "a") (.int (a : Int) ta)) (Str.ofString "b") (.int (b : Int) tb)) (Str.ofString "a") = some (.int (a : Int) ta) := by
      show (if _ then _ else _) = _
      rw [if_neg (by decide)]; exact if_pos rfl
    have gb : (setM (setM m (Str.ofString "a") (.int (a : Int) ta)) (Str.ofString "b") (.int (b : Int) tb)) (Str.ofString "b") = some (.int (b : Int) tb) := if_pos rfl
    refine ifC (nL hn₇ ga (nL hn₇ gb (ne_int (wpAny_truthy_bool ?_))))
    by_cases hab : a = b
    · subst hab
      simp only [bne_self_eq_false, Bool.false_eq_true, if_false]
      refine wpAny_execs_nil (wpAny_execs_nil ⟨.refl _ _, _, hn₇, ?_, U₇⟩)
      rw [List.take_add_one, List.take_add_one, hJ, ha', hb']
    · have hne : ((a : Int) != (b : Int)) = true := by rw [bne_iff_ne]; omega
      rw [hne]
      simp only [if_true]
      have hw := wayOf_at hJ ha' hb' hab
      refine execs_one (wpAny_Return_some (wpAny_IfExp (wpAny_isTrue_Compare1 (nL hn₇ ga (nL hn₇ gb (lt_int (wpAny_truthy_bool ?_)))))))
      by_cases hlt : a < b
      · rw [decide_eq_true (by omega)]
        simp only [if_true]
        refine wpAny_UnaryOp (wpAny_Constant_int (neg_int ?_))
        rw [if_pos hlt] at hw
        have := h (s₇.toks + 1) _ (U₈.trans (.toks (t := s₇.toks + 1 + 1)))
        rw [hw] at this
        exact this
      · rw [decide_eq_false (by omega)]
        simp only [Bool.false_eq_true, if_false]
        refine wpAny_Constant_int ?_
        rw [if_neg hlt] at hw
        have := h s₇.toks _ (U₈.trans (.toks (t := s₇.toks + 1)))
        rw [hw] at this
        exact this
  · rintro m s₆ s₇ ⟨hJ, U₅⟩ hn₇ U₆
    have U₇ : Upd (fun b => b ∈ wr ∨ b = L) s₅ s₇ := U₅.trans (U₆.mono fun _ h => .inl h)
    have U₈ : Upd noW s s₇ := U₀.then_fresh (U₇.mono fun b hb => .inr (by
      rcases hb with hb | hb
      · exact Nat.le_trans (((U.trans U₂).trans U₃).size) (hwr _ hb)
      · rw [hb]; exact hL))
    refine execs_one (wpAny_Return_some (wpAny_Constant_int ?_))
    have hw : wayOf (tx x) (tx y) = 0 := by
      have e3 : min v1.toArray.size v2.toArray.size = min (tx x).length (tx y).length := by rw [List.size_toArray, List.size_toArray, e1, e2]
      rw [e3] at hJ
      exact wayOf_same hJ
    have := h s₇.toks _ (U₈.trans (.toks (t := s₇.toks + 1)))
    rw [hw] at this
    exact this
end
end
end Mine
namespace Mine
open PySem PySem.W PySem.Calls PyProof.Rows
noncomputable section
noncomputable def litsI : List Expr → Option (List Int)
  | [] => some []
  | .Constant (.int i) _ _ :: r => (litsI r).map (i :: ·)
  | _ => none
noncomputable abbrev fdFam : FuncData := fdOf (ho135 P0)
theorem okFam : FnOk 135 fdFam := ⟨fun P => by kernel_rfl, fun P => by kernel_rfl, by kernel_rfl, by decide, by kernel_rfl, by kernel_rfl, by kernel_rfl⟩
noncomputable def famRet : Stmt → Option (List Int × Str)
  | .Return (some (.Tuple [.List es _, .Constant (.str x) _ _] _ _)) _ => (litsI es).map (·, x)
  | _ => none
noncomputable def famAt : List Stmt → Nat → Option (List Int × Str)
  | .If _ (r :: _) _ _ :: _, 0 => famRet r
  | r :: _, 0 => famRet r
  | _ :: b, k + 1 => famAt b k
  | [], _ => none
noncomputable def famL (k : Nat) : List Int × Str := (famAt (bodyOf fdFam) k).getD ([], ⟨#[]⟩)
section
variable {w : World} {A : Around} {s : Shared} {E : Value → Shared → Prop} {env : Env}
theorem lits_eval {pos : Pos} : ∀ {es : List Expr} {ns : List Int} {s : Shared} {Q : List Value → Shared → Prop}, litsI es = some ns → (∀ vs k, IntsAre vs ns → Q vs { s with toks := k }) → wpAny (model pw w) A (spliced (backTo pos (starEach es env))) Q E s
  | [], _, s, Q, h, q => by cases h; exact spliced_nil (q [] s.toks .nil)
  | e :: r, ns, s, Q, h, q => by
    unfold litsI at h
    split at h
    · rename_i h'; cases h'
    · rename_i i kk p r' h'
      cases h'
      obtain ⟨ms, hm, rfl⟩ := Option.map_eq_some_iff.mp h
      show wpAny _ _ (spliced ((false, eval (.Constant (.int i) kk p) env) :: backTo pos (starEach r env))) _ _ _
      exact spliced_cons (wpAny_Constant_int (lits_eval (s := { s with toks := s.toks + 1 }) hm fun vs k hv => q _ k (.cons i _ hv)))
    · cases h
theorem ret_fam {st : Stmt} {ns : List Int} {x : Str} {Q : Flow → Shared → Prop} (hst : famRet st = some (ns, x))
    (h : ∀ T l vs t s', s.heap.objs.size ≤ l → l < T → Upd noW s s' → s'.heap.IsTuple T #[.ref l, .str x t] → s'.heap.PlainList l vs.toArray → IntsAre vs ns → Q (.ret (.ref T)) s') (hn : ns.length ≤ 10000) :
    wpAny (model pw w) A (execs [st] env) Q E s := by
  unfold famRet at hst
  split at hst
  · rename_i es p1 x' c p2 k p3 p4
    obtain ⟨ms, hm, e⟩ := Option.map_eq_some_iff.mp hst
    cases e
    refine execs_one (wpAny_Return_some (wpAny_Tuple ?_))
    show wpAny _ _ (spliced [(false, eval (.List es p1) env), (false, eval (.Constant (.str x) c p2) env)]) _ _ _
    refine spliced_cons (wpAny_List (lits_eval hm fun vs k hv => ⟨?_, ?_⟩))
    · rw [IntsAre.len hv]; exact Nat.le_trans hn sz10k
    · refine spliced_cons (wpAny_Constant_str (spliced_nil ⟨(by show 2 ≤ sizeLine; exact Nat.le_trans (by decide) sz10k), ?_⟩))
      have U : Upd noW s { s with heap := (s.heap.push { cls := .type "list", data := .seq vs.toArray }).push { cls := .type "tuple", data := .seq [Value.ref s.heap.objs.size, .str x k].toArray }, toks := k + 1 } :=
        Upd.of_heap (by rw [Heap.size_push, Heap.size_push]; omega) fun b o _ e => Heap.get?_push_of_some _ (Heap.get?_push_of_some _ e)
      refine h _ s.heap.objs.size vs k _ (Nat.le_refl _) ?_ U ⟨_, Heap.get?_push_size _ rfl, rfl, _, rfl⟩ ⟨_, Heap.get?_push_of_some _ (Heap.get?_push_size _ rfl)⟩ hv
      show s.heap.objs.size < (s.heap.push _).objs.size
      rw [Heap.size_push]; exact Nat.lt_succ_self _
  · cases hst
theorem fam_no {st : Stmt} {p1 p2 p3 p4 : Pos} {c : Nat} {i : Int} {k : Nat} {t : Tok} {rest : List Stmt} {Q : Flow → Shared → Prop} {m} (hn : s.heap.Ns env.locals m) (hm : m (Str.ofString "which") = some (.int (k : Int) t)) (hl : env.kindOf (Str.ofString "which") = some .local) (hk : env.scope.kind = .function) (hi : (k : Int) ≠ i)
    (h : ∀ s', Upd noW s s' → wpAny (model pw w) A (execs rest env) Q E s') :
    wpAny (model pw w) A (execs (.If (.Compare (.Name (Str.ofString "which") p1) [.Eq] [.Constant (.int i) c p2] p3) [st] [] p4 :: rest) env) Q E s := by
  refine ifC (nL hn hm (wpAny_Constant_int (eq_int (wpAny_truthy_bool ?_))) hl hk)
  rw [beq_eq_false_iff_ne.mpr hi]
  exact wpAny_execs_nil (h { s with toks := s.toks + 1 } .toks)
theorem fam_yes {st : Stmt} {p1 p2 p3 p4 : Pos} {c : Nat} {i : Int} {k : Nat} {t : Tok} {rest : List Stmt} {Q : Flow → Shared → Prop} {m} {ns : List Int} {x : Str} (hn : s.heap.Ns env.locals m) (hm : m (Str.ofString "which") = some (.int (k : Int) t)) (hl : env.kindOf (Str.ofString "which") = some .local) (hk : env.scope.kind = .function) (hi : (k : Int) = i)
    (hst : famRet st = some (ns, x)) (hlen : ns.length ≤ 10000)
    (h : ∀ T l vs t s', s.heap.objs.size ≤ l → l < T → Upd noW s s' → s'.heap.IsTuple T #[.ref l, .str x t] → s'.heap.PlainList l vs.toArray → IntsAre vs ns → Q (.ret (.ref T)) s') :
    wpAny (model pw w) A (execs (.If (.Compare (.Name (Str.ofString "which") p1) [.Eq] [.Constant (.int i) c p2] p3) [st] [] p4 :: rest) env) Q E s := by
  refine ifC (nL hn hm (wpAny_Constant_int (eq_int (wpAny_truthy_bool ?_))) hl hk)
  rw [hi, beq_self_eq_true]
  exact ret_fam (s := { s with toks := s.toks + 1 }) hst (fun T l vs t s' a b c d e f => h T l vs t s' a b ((Upd.toks (t := s.toks + 1)).trans c) d e f) hlen
theorem fam_len {k : Nat} (hk : k < 6) : (famL k).1.length ≤ 10000 := by
  have : ∀ j : Fin 6, (famL j.val).1.length ≤ 10000 := fun j => of_decide_eq_true (by revert j; decide +kernel)
  exact this ⟨k, hk⟩
set_option maxHeartbeats 4000000 in
theorem fam_call {Q : Value → Shared → Prop} {k : Nat} {t : Tok} (hk : k < 6) (hr : Room 5 A) (B : Base w s.heap)
    (h : ∀ T l vs t s', s.heap.objs.size ≤ l → l < T → Upd noW s s' → s'.heap.IsTuple T #[.ref l, .str (famL k).2 t] → s'.heap.PlainList l vs.toArray → IntsAre vs (famL k).1 → Q (.ref T) s') : wpAny (model pw w) A (call (.ref 135) [.int k t] []) Q E s := by
  refine fn_call okFam (binds := [(Str.ofString "which", .int k t)]) hr.depth B (.of_eq (by kernel_rfl)) (by kernel_rfl) (by kernel_rfl) (fun L s₁ hL U hn => ?_)
  have hm : (fun x => List.lookup x [(Str.ofString "which", Value.int (k : Int) t)].reverse) (Str.ofString "which") = some (.int (k : Int) t) := by kernel_rfl
  have hlen := fam_len hk
  have fin : ∀ s', Upd noW s₁ s' → ∀ T l vs t s'', s'.heap.objs.size ≤ l → l < T → Upd noW s' s'' → s''.heap.IsTuple T #[.ref l, .str (famL k).2 t] → s''.heap.PlainList l vs.toArray → IntsAre vs (famL k).1 → Q (retv (.ret (.ref T))) s'' :=
    fun s' U' T l vs t s'' hl hT U'' a b c => h T l vs t s'' (Nat.le_trans (U.trans U').size hl) hT ((U.trans U').trans U'') a b c
  have hc : k = 0 ∨ k = 1 ∨ k = 2 ∨ k = 3 ∨ k = 4 ∨ k = 5 := by omega
  generalize hF : famL k = F at fin hlen
  rcases hc with rfl | rfl | rfl | rfl | rfl | rfl
  · exact fam_yes hn hm (by kernel_rfl) (by kernel_rfl) rfl (ns := F.1) (x := F.2) (by subst hF; kernel_rfl) hlen (fin s₁ (.refl _ _))
  · refine fam_no hn hm (by kernel_rfl) (by kernel_rfl) (by decide) fun s₂ U₂ => ?_
    exact fam_yes (U₂.ns id hn) hm (by kernel_rfl) (by kernel_rfl) rfl (ns := F.1) (x := F.2) (by subst hF; kernel_rfl) hlen (fin s₂ U₂)
  · refine fam_no hn hm (by kernel_rfl) (by kernel_rfl) (by decide) fun s₂ U₂ => ?_
    refine fam_no (U₂.ns id hn) hm (by kernel_rfl) (by kernel_rfl) (by decide) fun s₃ U₃ => ?_
    exact fam_yes ((U₂.trans U₃).ns id hn) hm (by kernel_rfl) (by kernel_rfl) rfl (ns := F.1) (x := F.2) (by subst hF; kernel_rfl) hlen (fin s₃ (U₂.trans U₃))
  · refine fam_no hn hm (by kernel_rfl) (by kernel_rfl) (by decide) fun s₂ U₂ => ?_
    refine fam_no (U₂.ns id hn) hm (by kernel_rfl) (by kernel_rfl) (by decide) fun s₃ U₃ => ?_
    refine fam_no ((U₂.trans U₃).ns id hn) hm (by kernel_rfl) (by kernel_rfl) (by decide) fun s₄ U₄ => ?_
    exact fam_yes (((U₂.trans U₃).trans U₄).ns id hn) hm (by kernel_rfl) (by kernel_rfl) rfl (ns := F.1) (x := F.2) (by subst hF; kernel_rfl) hlen (fin s₄ ((U₂.trans U₃).trans U₄))
  · refine fam_no hn hm (by kernel_rfl) (by kernel_rfl) (by decide) fun s₂ U₂ => ?_
    refine fam_no (U₂.ns id hn) hm (by kernel_rfl) (by kernel_rfl) (by decide) fun s₃ U₃ => ?_
    refine fam_no ((U₂.trans U₃).ns id hn) hm (by kernel_rfl) (by kernel_rfl) (by decide) fun s₄ U₄ => ?_
    refine fam_no (((U₂.trans U₃).trans U₄).ns id hn) hm (by kernel_rfl) (by kernel_rfl) (by decide) fun s₅ U₅ => ?_
    exact fam_yes ((((U₂.trans U₃).trans U₄).trans U₅).ns id hn) hm (by kernel_rfl) (by kernel_rfl) rfl (ns := F.1) (x := F.2) (by subst hF; kernel_rfl) hlen (fin s₅ (((U₂.trans U₃).trans U₄).trans U₅))
  · refine fam_no hn hm (by kernel_rfl) (by kernel_rfl) (by decide) fun s₂ U₂ => ?_
    refine fam_no (U₂.ns id hn) hm (by kernel_rfl) (by kernel_rfl) (by decide) fun s₃ U₃ => ?_
    refine fam_no ((U₂.trans U₃).ns id hn) hm (by kernel_rfl) (by kernel_rfl) (by decide) fun s₄ U₄ => ?_
    refine fam_no (((U₂.trans U₃).trans U₄).ns id hn) hm (by kernel_rfl) (by kernel_rfl) (by decide) fun s₅ U₅ => ?_
    refine fam_no ((((U₂.trans U₃).trans U₄).trans U₅).ns id hn) hm (by kernel_rfl) (by kernel_rfl) (by decide) fun s₆ U₆ => ?_
    exact ret_fam (ns := F.1) (x := F.2) (by subst hF; kernel_rfl) (fin s₆ ((((U₂.trans U₃).trans U₄).trans U₅).trans U₆)) hlen
end
end
end Mine
namespace Mine
open PySem PySem.W PySem.Calls PyProof.Rows
section
variable {w : World} {A : Around} {s : Shared} {E : Value → Shared → Prop} {env : Env}
theorem mapSeq_any (f : Array Value → Array Value) (a : Array Value) (n : Nat) : ∃ n', Obj.mapSeq f { cls := .type "list", data := .seq a n } = { cls := .type "list", data := .seq (f a) n' } := by
  by_cases hs : (f a).size = a.size
  · exact ⟨n, by simp [Obj.mapSeq, hs]⟩
  · exact ⟨n + 1, by simp [Obj.mapSeq, hs]⟩
theorem pl_update {h : Heap} {l : Addr} {items : Array Value} (x : h.PlainList l items) (f : Array Value → Array Value) : (h.update l (Obj.mapSeq f)).PlainList l (f items) := by
  obtain ⟨n, ho⟩ := x
  obtain ⟨n', e⟩ := mapSeq_any f items n
  exact ⟨n', by rw [Heap.get?_update_self _ ho (by rw [e]; rfl), e]⟩
theorem pl_pop {l : Addr} {vs : List Value} {k : Nat} {t : Tok} {y : Value} {Q : Value → Shared → Prop} (hl : s.heap.PlainList l vs.toArray) (hk : vs[k]? = some y) (hz : vs.length ≤ 10000)
    (h : ∀ h', h'.PlainList l (vs.eraseIdx k).toArray → Heap.SameBut l s.heap h' → Q y { s with heap := h' }) :
    wpAny (model pw w) A (call (.builtin "list.pop") [.ref l, .int k t] []) Q E s := by
  have hlt : k < vs.length := by
    by_cases q : k < vs.length
    · exact q
    · rw [List.getElem?_eq_none (by omega)] at hk; cases hk
  have hU := pl_update hl (fun xs => xs.eraseIdxIfInBounds k)
  have e : vs.toArray.eraseIdxIfInBounds k = (vs.eraseIdx k).toArray := by
    simp [Array.eraseIdxIfInBounds, hlt]
  rw [e] at hU
  obtain ⟨n, ho⟩ := hl
  obtain ⟨x, hx⟩ : ∃ x : Int, x = k := ⟨_, rfl⟩
  rw [← hx]
  have hf : Builtin.List.listFitsIndex x = true := by rw [hx]; exact fits_nat (by omega)
  have hi : seqIndex? x vs.toArray.size = some k := by
    unfold seqIndex?
    rw [hx]
    simp
    omega
  have hz' : vs.toArray.size ≤ sizeLine := by rw [List.size_toArray]; exact Nat.le_trans hz sz10k
  have hy : vs.toArray[k]? = some y := by simpa using hk
  have ar := PySem.F.args_list_pop_2 (.ref l) (.int x t)
  exact call_meets PySem.F.slot_list_pop ⟨_, ho, rfl⟩ PySem.F.entry_list_pop ar (PySem.MeetsSeq.list_pop_at l vs.toArray n x t k y hf hi hy hz') ⟨ho, h _ hU (Heap.SameBut.update ..)⟩
theorem pl_add {l b : Addr} {vs ws : List Value} {Q : Value → Shared → Prop} (hl : s.heap.PlainList l vs.toArray) (hb : s.heap.PlainList b ws.toArray) (hz : vs.length + ws.length ≤ 10000)
    (h : ∀ s', Upd noW s s' → s'.heap.PlainList s.heap.objs.size (vs ++ ws).toArray → Q (.ref s.heap.objs.size) s') :
    wpAny (model pw w) A (binaryOp .Add (.ref l) (.ref b)) Q E s := by
  obtain ⟨n, ho⟩ := hl
  obtain ⟨n2, ho2⟩ := hb
  have e : vs.toArray ++ ws.toArray = (vs ++ ws).toArray := by simp
  refine concat_meets ⟨_, ho, rfl⟩ ⟨_, ho2, rfl⟩ noFill_list_add seq_list_add PySem.F.slot_list_add PySem.F.entry_list_add (PySem.F.args_list_add_2 _ _) (list_addW l b vs.toArray ws.toArray n n2 none none #[] #[] (by simp; exact Nat.le_trans hz sz10k)) ⟨ho, ho2, ?_⟩
  rw [e]
  exact h _ (.push (t := s.toks)) ⟨0, Heap.get?_push_size _ rfl⟩
theorem pl_set_last {l : Addr} {vs : List Value} {t : Tok} {v : Value} {Q : Unit → Shared → Prop} (hl : s.heap.PlainList l vs.toArray) (hne : 0 < vs.length) (hz : vs.length ≤ 10000)
    (h : ∀ h', h'.PlainList l (vs.set (vs.length - 1) v).toArray → Heap.SameBut l s.heap h' → Q () { s with heap := h' }) :
    wpAny (model pw w) A (setItem (.ref l) (.int (-1) t) v) Q E s := by
  have hT := hl.isList.typeIs
  have hU := pl_update hl (fun xs => xs.setIfInBounds (vs.length - 1) v)
  have e : vs.toArray.setIfInBounds (vs.length - 1) v = (vs.set (vs.length - 1) v).toArray := by simp
  rw [e] at hU
  obtain ⟨n, ho⟩ := id hl
  unfold setItem
  try with_reducible refine wpAny_holding ?_
  first | refine wpAny_bind (wpAny_pure ?_) | skip
  refine wpAny_bind (wpAny_sequenceKey hT (by decide) ?_)
  refine wpAny_bind (wpAny_callSpecial?_slot (name := Str.ofString "__setitem__") hT slot_list_setitem
    (wpAny_call_entry slot_list_setitem hT entry_list_setitem ?_ (args_list_setitem _ _ _)))
  show wpAny _ _ (Builtin.List.listSubscript? (.int (-1) t) >>= _) _ _ s
  refine wpAny_bind (wpAny_listSubscript_int (by decide) ?_)
  have hx : vs.toArray[vs.length - 1]? = some vs[vs.length - 1] := by simp
  show wpAny _ _ ((Builtin.List.listItems (.ref l) >>= fun xs => pure ((seqIndex? (Int.negSucc 0) xs.size).bind fun i => xs[i]?.map (i, ·))) >>= _) _ _ s
  refine wpAny_bind (wpAny_bind ?_)
  show wpAny _ _ (seqItems? (.ref l) >>= _) _ _ s
  refine wpAny_bind (wpAny_seqItems ho rfl (wpAny_pure (wpAny_pure ?_)))
  have hidx : seqIndex? (Int.negSucc 0) vs.toArray.size = some (vs.length - 1) := by
    rw [seqIndex_neg (by decide) (by rw [List.size_toArray]; omega)]
    congr 1
    rw [List.size_toArray]; omega
  rw [hidx]
  simp only [Option.bind_some, hx, Option.map_some]
  show wpAny _ _ (setSeqItemAt l (vs.length - 1) v >>= _) _ _ s
  refine wpAny_bind (wpAny_setSeqItemAt ho rfl ?_)
  first
    | exact wpAny_bind (wpAny_pure (wpAny_pure ⟨.none, rfl, wpAny_pure (h _ hU (Heap.SameBut.update ..))⟩))
    | exact wpAny_pure ⟨.none, rfl, wpAny_pure (h _ hU (Heap.SameBut.update ..))⟩
end
end Mine
namespace Mine
open PySem PySem.W PySem.Calls PyProof.Rows
/-- the positions of a pattern, in one list: one existential in place of many -/
noncomputable def posN : List Pos → Nat → Pos
  | [], _ => ⟨0, 0, 0, 0⟩
  | x :: _, 0 => x
  | _ :: l, n + 1 => posN l n
noncomputable def natN : List Nat → Nat → Nat
  | [], _ => 0
  | x :: _, 0 => x
  | _ :: l, n + 1 => natN l n
noncomputable abbrev Pr := Nat × List Nat
inductive PairsAre (h : Heap) (P : Addr → Prop) : List Value → List Pr → Prop
  | nil : PairsAre h P [] []
  | cons {a : Addr} {c : Nat} {y : Str} {t u : Tok} {vs : List Value} {qs : List Pr} : P a → h.PlainList a #[.str ⟨#[c]⟩ t, .str y u] → PairsAre h P vs qs → PairsAre h P (.ref a :: vs) ((c, tx y) :: qs)
namespace PairsAre
variable {h h' : Heap} {P P' : Addr → Prop}
theorem keep (k : ∀ a, P a → ∀ o, h.get? a = some o → h'.get? a = some o) : ∀ {vs : List Value} {qs : List Pr}, PairsAre h P vs qs → PairsAre h' P vs qs
  | _, _, .nil => .nil
  | _, _, .cons p l r => .cons p (l.at fun o e => k _ p o e) (r.keep k)
theorem mono (k : ∀ a, P a → P' a) : ∀ {vs : List Value} {qs : List Pr}, PairsAre h P vs qs → PairsAre h P' vs qs
  | _, _, .nil => .nil
  | _, _, .cons p l r => .cons (k _ p) l (r.mono k)
theorem len : ∀ {vs : List Value} {qs : List Pr}, PairsAre h P vs qs → vs.length = qs.length
  | _, _, .nil => rfl
  | _, _, .cons _ _ r => by simp [r.len]
theorem snoc {a : Addr} {c : Nat} {y : Str} {t u : Tok} (p : P a) (l : h.PlainList a #[.str ⟨#[c]⟩ t, .str y u]) : ∀ {vs : List Value} {qs : List Pr}, PairsAre h P vs qs → PairsAre h P (vs ++ [.ref a]) (qs ++ [(c, tx y)])
  | _, _, .nil => .cons p l .nil
  | _, _, .cons p' l' r => .cons p' l' (snoc p l r)
theorem get : ∀ {vs : List Value} {qs : List Pr} {i : Nat} {v : Value}, PairsAre h P vs qs → vs[i]? = some v → ∃ a c y t u, v = .ref a ∧ P a ∧ h.PlainList a #[.str ⟨#[c]⟩ t, .str y u] ∧ qs[i]? = some (c, tx y)
  | _, _, 0, _, .cons p l r, e => by simp at e; exact ⟨_, _, _, _, _, e.symm, p, l, rfl⟩
  | _, _, i + 1, _, .cons p l r, e => by simp at e; simpa using r.get e
  | _, _, _, _, .nil, e => by simp at e
theorem erase : ∀ {vs : List Value} {qs : List Pr} (i : Nat), PairsAre h P vs qs → PairsAre h P (vs.eraseIdx i) (qs.eraseIdx i)
  | _, _, 0, .cons _ _ r => r
  | _, _, i + 1, .cons p l r => .cons p l (r.erase i)
  | _, _, _, .nil => .nil
theorem setAt {a : Addr} {c : Nat} {y : Str} {t u : Tok} (p : P a) (l : h.PlainList a #[.str ⟨#[c]⟩ t, .str y u]) : ∀ {vs : List Value} {qs : List Pr} (i : Nat), PairsAre h P vs qs → PairsAre h P (vs.set i (.ref a)) (qs.set i (c, tx y))
  | _, _, 0, .cons _ _ r => .cons p l r
  | _, _, i + 1, .cons p' l' r => .cons p' l' (r.setAt p l i)
  | _, _, _, .nil => .nil
theorem snocGet {vs ws : List Value} {qs rs : List Pr} {i : Nat} {v : Value} (x : PairsAre h P vs qs) (z : PairsAre h P ws rs) (e : vs[i]? = some v) : ∃ q, qs[i]? = some q ∧ PairsAre h P (ws ++ [v]) (rs ++ [q]) := by
  obtain ⟨a, c, y, t, u, rfl, p, l, hq⟩ := x.get e
  exact ⟨_, hq, z.snoc p l⟩
end PairsAre
theorem fmod_nat (a b : Nat) : (a : Int).fmod b = ((a % b : Nat) : Int) := by
  rw [Int.fmod_eq_emod_of_nonneg _ (by omega)]; omega
theorem fdiv_nat (a b : Nat) : (a : Int).fdiv b = ((a / b : Nat) : Int) := by
  rw [Int.fdiv_eq_ediv_of_nonneg _ (by omega)]; omega
noncomputable section
noncomputable abbrev fdStock : FuncData := fdOf (ho140 P0)
theorem okStock : FnOk 140 fdStock := ⟨fun P => by kernel_rfl, fun P => by kernel_rfl, by kernel_rfl, by decide, by kernel_rfl, by kernel_rfl, by kernel_rfl⟩
/-- one turn of the picking -/
noncomputable abbrev PSt := List Pr × Nat × List Pr
noncomputable def pick1 (x : PSt) : PSt := (x.1.eraseIdx (x.2.1 % x.1.length), x.2.1 / x.1.length, x.2.2 ++ (x.1[x.2.1 % x.1.length]?).toList)
noncomputable def pickN : Nat → PSt → PSt
  | 0, x => x
  | n + 1, x => pick1 (pickN n x)
noncomputable def famWords (k : Nat) : List Str := Txt.split (famL k).2 (Str.ofString " ")
noncomputable def poolOf (k : Nat) : List Pr := ((famL k).1.zip (famWords k)).map fun x => (x.1.toNat, tx x.2)
noncomputable def stBodyDrop (k : Nat) : List Stmt := (bodyOf fdStock).drop k
noncomputable def litsAt : Nat → Option (List Int)
  | k => match (bodyOf fdStock)[k]? with
    | some (.Assign _ (.BinOp (.List es _) _ _ _) _) => litsI es
    | some (.Assign _ (.List es _) _) => litsI es
    | _ => none
noncomputable def unseenL : List Int := (litsAt 5).getD [] ++ (List.range 16).map fun i => Int.ofNat (65024 + i)
noncomputable def besideL : List Int := (litsAt 6).getD []
noncomputable def lastSet (l : List Pr) (q : Pr) : List Pr := l.set (l.length - 1) q
noncomputable def stockOf (cell many : Nat) : List Pr :=
  let x := pickN many (poolOf (cell / 7 % 6), cell / 42, [])
  let u := (unseenL.getD (x.2.1 % 27) 0).toNat
  let b := (besideL.getD (x.2.1 % 16) 0).toNat
  if cell % 7 = 0 then lastSet x.2.2 (u, []) else if cell % 7 = 1 then lastSet x.2.2 (b, [b]) else x.2.2
end
end Mine
namespace Mine
open PySem PySem.W PySem.Calls PyProof.Rows
noncomputable section
section
variable {w : World} {A : Around} {s : Shared} {E : Value → Shared → Prop} {env : Env}
/-- l[r % k] for a list of ints -/
theorem ints_item {lst : Str} {xs : List Int} {Db : Addr} {vs : List Value} {r k : Nat} {tr : Tok} {p1 p2 p3 p4 p5 : Pos} {c : Nat} {m} {Q : Value → Shared → Prop} (hn : s.heap.Ns env.locals m) (hlst : m lst = some (.ref Db)) (hr : m (Str.ofString "rest") = some (.int (r : Int) tr))
    (hl : s.heap.PlainList Db vs.toArray) (hi : IntsAre vs xs) (hk : 0 < k) (hkx : k ≤ xs.length) (hx : k < 1000)
    (h1 : env.kindOf lst = some .local) (h2 : env.kindOf (Str.ofString "rest") = some .local) (h3 : env.scope.kind = .function) (h4 : (lst == ("__debug__" : Str)) = false)
    (h : ∀ t t', Q (.int (xs.getD (r % k) 0) t) { s with toks := t' }) :
    wpAny (model pw w) A (eval (.Subscript (.Name lst p1) (.BinOp (.Name (Str.ofString "rest") p2) .Mod (.Constant (.int (k : Int)) c p3) p4) p5) env) Q E s := by
  refine wpAny_Subscript_BinOp_late (nL hn hlst (wpAny_BinOp (nL hn hr (wpAny_Constant_int (mod_int (by omega) ?_)) h2 h3)) h1 h3 h4)
  rw [fmod_nat]
  have hlt : r % k < xs.length := Nat.lt_of_lt_of_le (Nat.mod_lt _ hk) hkx
  have hlv : vs.length = xs.length := IntsAre.len hi
  have hv : vs[r % k]? = some vs[r % k] := by simp [hlv, hlt]
  obtain ⟨z, tz, hz, hvz⟩ := IntsAre.at' hi hv
  refine ⟨"list", _, slot_list_getitem.lookup, hl.isList.typeIs, wpAny_getItem_list (s := { s with toks := s.toks + 1 + 1 }) hl.isList (by omega) ?_ (x := vs[r % k]) ?_ ?_⟩
  · have := Nat.mod_lt r hk
    omega
  · have e : ((r % k : Nat) : Int).toNat = r % k := Int.toNat_natCast _
    rw [e]; simp [hlv, hlt]
  · rw [hvz]
    have e : xs.getD (r % k) 0 = z := by rw [List.getD_eq_getElem?_getD, hz]; rfl
    have := h tz (s.toks + 1 + 1)
    rw [e] at this
    exact this
noncomputable abbrev stEnv (L : Addr) : Env := callEnv fdStock L 140
theorem st9 {L D : Addr} {m} {Q : Flow → Shared → Prop} (hn : s.heap.Ns L m) (hm : m (Str.ofString "picked") = some (.ref D)) (h : Q (.ret (.ref D)) s) : wpAny (model pw w) A (execs (stBodyDrop 9) (stEnv L)) Q E s := by
  refine execs_one (wpAny_Return_some ?_)
  exact nL (env := stEnv L) hn hm h
/-- the facts that stand in the last stages -/
structure StF (s₀ s : Shared) (L : Addr) (m : Str → Option Value) (cell r : Nat) (D : Addr) (ps : List Value) (qs : List Pr) (P : Addr → Prop) : Prop where
  hL : hs s₀ ≤ L
  upd : Upd (fun b => hs s₀ ≤ b) s₀ s
  ns : s.heap.Ns L m
  cell : ∃ t, m (Str.ofString "cell") = some (.int (cell : Int) t)
  rest : ∃ t, m (Str.ofString "rest") = some (.int (r : Int) t)
  picked : m (Str.ofString "picked") = some (.ref D)
  hD : hs s₀ ≤ D
  DL : D ≠ L
  pl : s.heap.PlainList D ps.toArray
  few : ps.length ≤ 10000
  some' : 0 < ps.length
  pairs : PairsAre s.heap P ps qs
  apart : ∀ a, P a → hs s₀ ≤ a ∧ a ≠ D ∧ a ≠ L ∧ a < hs s
  beside : ∃ Db vs, m (Str.ofString "beside") = some (.ref Db) ∧ Db ≠ D ∧ s.heap.PlainList Db vs.toArray ∧ IntsAre vs besideL
  unseen : ∃ Db vs, m (Str.ofString "unseen") = some (.ref Db) ∧ Db ≠ D ∧ s.heap.PlainList Db vs.toArray ∧ IntsAre vs unseenL
theorem StF.toks {s₀ s : Shared} {L : Addr} {m} {cell r : Nat} {D : Addr} {ps : List Value} {qs : List Pr} {P : Addr → Prop} (F : StF s₀ s L m cell r D ps qs P) (t : Nat) : StF s₀ { s with toks := t } L m cell r D ps qs P :=
  { F with upd := F.upd.trans .toks }
theorem beside_ok : (besideL.all fun i => decide (0 ≤ i) && decide (i ≤ 1114111)) = true ∧ besideL.length = 16 := ⟨by kernel_rfl, by kernel_rfl⟩
theorem unseen_ok : (unseenL.all fun i => decide (0 ≤ i) && decide (i ≤ 1114111)) = true ∧ unseenL.length = 27 := ⟨by kernel_rfl, by kernel_rfl⟩
theorem chr_range {l : List Int} (h : (l.all fun i => decide (0 ≤ i) && decide (i ≤ 1114111)) = true) (i : Nat) : 0 ≤ l.getD i 0 ∧ l.getD i 0 ≤ 1114111 := by
  rw [List.getD_eq_getElem?_getD]
  cases e : l[i]? with
  | none => simp
  | some v =>
    have := List.all_eq_true.mp h v (List.mem_of_getElem? e)
    simpa using this
/-- picked[-1] = [one, two] -/
theorem set_pair {s₀ : Shared} {L : Addr} {m} {cell r : Nat} {D : Addr} {ps : List Value} {qs : List Pr} {P : Addr → Prop} (F : StF s₀ s L m cell r D ps qs P) {e1 e2 : Expr} {p1 p2 p3 p4 p5 p6 : Pos} {c : Nat} {ch : Nat} {y : Str} {Q : Flow → Shared → Prop}
    (he : ∀ (Q' : List Value → Shared → Prop) (E' : Value → Shared → Prop), (∀ t u k, Q' [.str ⟨#[ch]⟩ t, .str y u] { s with toks := k }) → wpAny (model pw w) A (spliced (backTo p1 (starEach [e1, e2] (stEnv L)))) Q' E' s)
    (hsw : swapsWith (.List [e1, e2] p1) (some (.Subscript (.Name (Str.ofString "picked") p2) (.UnaryOp .USub (.Constant (.int 1) c p3) p4) p5)) p6.line (stEnv L) = pure false)
    (h : ∀ s' a ps', StF s₀ s' L m cell r D ps' (lastSet qs (ch, tx y)) (fun b => P b ∨ b = a) → Q .next s') :
    wpAny (model pw w) A (exec (.Assign [.Subscript (.Name (Str.ofString "picked") p2) (.UnaryOp .USub (.Constant (.int 1) c p3) p4) p5] (.List [e1, e2] p1) p6) (stEnv L)) Q E s := by
  refine wpAny_Assign_Subscript (wpAny_List (he _ _ fun t u k => ⟨(by show 2 ≤ sizeLine; exact Nat.le_trans (by decide) sz10k), ?_⟩)) hsw
  have U1 : Upd noW s { s with heap := s.heap.push { cls := .type "list", data := .seq [Value.str ⟨#[ch]⟩ t, .str y u].toArray }, toks := k } := .push
  have hnew : (s.heap.push { cls := .type "list", data := .seq [Value.str ⟨#[ch]⟩ t, .str y u].toArray }).PlainList s.heap.objs.size [Value.str ⟨#[ch]⟩ t, .str y u].toArray := ⟨0, Heap.get?_push_size _ rfl⟩
  generalize hS : ({ s with heap := s.heap.push { cls := .type "list", data := .seq [Value.str ⟨#[ch]⟩ t, .str y u].toArray }, toks := k } : Shared) = s₁ at U1
  have hnew' : s₁.heap.PlainList s.heap.objs.size [Value.str ⟨#[ch]⟩ t, .str y u].toArray := by rw [← hS]; exact hnew
  have hsz : hs s < hs s₁ := by rw [← hS]; show s.heap.objs.size < (s.heap.push _).objs.size; rw [Heap.size_push]; exact Nat.lt_succ_self _
  have goal : wpAny (model pw w) A (eval (.Name (Str.ofString "picked") p2) (stEnv L)) (fun ov s₂ => wpAny (model pw w) A (eval (.UnaryOp .USub (.Constant (.int 1) c p3) p4) (stEnv L)) (fun iv s₃ => wpAny (model pw w) A (setItem ov iv (.ref s.heap.objs.size)) (fun _ => Q .next) E s₃) E s₂) E s₁ := by
    refine nL (env := stEnv L) (U1.ns id F.ns) F.picked (wpAny_UnaryOp (wpAny_Constant_int (neg_int ?_)))
    refine pl_set_last (s := { s₁ with toks := s₁.toks + 1 + 1 }) (vs := ps) (F.pl.at fun o e => U1.get id e) F.some' F.few fun h' hl' hsb => ?_
    have U2 : Upd (fun b => b = D) s₁ { s₁ with heap := h', toks := s₁.toks + 1 + 1 } := Upd.same hsb rfl
    have sD : D < hs s := by obtain ⟨n, ho⟩ := F.pl; exact Heap.lt_size ho
    have nD : s.heap.objs.size ≠ D := Nat.ne_of_gt sD
    have nL' : s.heap.objs.size ≠ L := Nat.ne_of_gt (lt_of_ns F.ns)
    have hs0 : hs s₀ ≤ hs s := F.upd.size
    refine h _ s.heap.objs.size _ ⟨F.hL, F.upd.trans ((U1.mono fun _ h => h.elim).trans (U2.mono fun b e => e ▸ F.hD)), U2.ns F.DL.symm (U1.ns id F.ns), F.cell, F.rest, F.picked, F.hD, F.DL, hl', by rw [List.length_set]; exact F.few, by rw [List.length_set]; exact F.some', ?_, ?_, ?_, ?_⟩
    · have pr : PairsAre h' (fun b => P b ∨ b = s.heap.objs.size) ps qs := (F.pairs.keep (h' := h') fun a pa o e => U2.get (F.apart a pa).2.1 (U1.get id e)).mono fun _ p => .inl p
      have := pr.setAt (a := s.heap.objs.size) (c := ch) (y := y) (t := t) (u := u) (.inr rfl) (hnew'.at fun o e => U2.get nD e) (ps.length - 1)
      rw [F.pairs.len] at this ⊢
      exact this
    · rintro a (pa | rfl)
      · exact ⟨(F.apart a pa).1, (F.apart a pa).2.1, (F.apart a pa).2.2.1, Nat.lt_of_lt_of_le (Nat.lt_trans (F.apart a pa).2.2.2 hsz) U2.size⟩
      · exact ⟨hs0, nD, nL', Nat.lt_of_lt_of_le hsz U2.size⟩
    · obtain ⟨Db, vs, hm, hne, hl, hi⟩ := F.beside
      exact ⟨Db, vs, hm, hne, (hl.at fun o e => U2.get hne (U1.get id e)), hi⟩
    · obtain ⟨Db, vs, hm, hne, hl, hi⟩ := F.unseen
      exact ⟨Db, vs, hm, hne, (hl.at fun o e => U2.get hne (U1.get id e)), hi⟩
  exact goal
end
end
end Mine
namespace Mine
open PySem PySem.W PySem.Calls PyProof.Rows
noncomputable section
section
variable {w : World} {A : Around} {s : Shared} {E : Value → Shared → Prop} {env : Env}
noncomputable def FinSt (s₀ : Shared) (Q : Flow → Shared → Prop) (res : List Pr) : Prop :=
  ∀ s' D ps', hs s₀ ≤ D → Upd (fun b => hs s₀ ≤ b) s₀ s' → s'.heap.PlainList D ps'.toArray → PairsAre s'.heap (fun a => hs s₀ ≤ a ∧ a ≠ D) ps' res → Q (.ret (.ref D)) s'
theorem st9' {s₀ : Shared} {L : Addr} {m} {cell r : Nat} {D : Addr} {ps : List Value} {qs : List Pr} {P : Addr → Prop} {Q : Flow → Shared → Prop} (F : StF s₀ s L m cell r D ps qs P) (h : FinSt s₀ Q qs) : wpAny (model pw w) A (execs (stBodyDrop 9) (stEnv L)) Q E s :=
  st9 F.ns F.picked (h s D ps F.hD F.upd F.pl (F.pairs.mono fun a p => ⟨(F.apart a p).1, (F.apart a p).2.1⟩))
theorem Base.upd' {s₀ s : Shared} (B : Base w s₀.heap) (u : Upd (fun b => hs s₀ ≤ b) s₀ s) : Base w s.heap := B.upd u fun _ h => .inr (Nat.le_trans B.2 h)
/-- chr(l[rest % k]) -/
theorem chr_item {s₀ : Shared} {lst : Str} {xs : List Int} {Db L : Addr} {vs : List Value} {r k : Nat} {tr : Tok} {p1 p2 p3 p4 p5 p6 p7 : Pos} {c : Nat} {m} {Q : Value → Shared → Prop} (B : Base w s₀.heap) (U : Upd (fun b => hs s₀ ≤ b) s₀ s) (hn : s.heap.Ns L m) (hlst : m lst = some (.ref Db)) (hr : m (Str.ofString "rest") = some (.int (r : Int) tr))
    (hl : s.heap.PlainList Db vs.toArray) (hi : IntsAre vs xs) (hk : 0 < k) (hkx : k ≤ xs.length) (hx : k < 1000) (hok : (xs.all fun i => decide (0 ≤ i) && decide (i ≤ 1114111)) = true)
    (h1 : (stEnv L).kindOf lst = some .local) (h4 : (lst == ("__debug__" : Str)) = false)
    (h : ∀ t t', Q (.str ⟨#[(xs.getD (r % k) 0).toNat]⟩ t) { s with toks := t' }) :
    wpAny (model pw w) A (eval (.Call (.Name (Str.ofString "chr") p6) [.Subscript (.Name lst p1) (.BinOp (.Name (Str.ofString "rest") p2) .Mod (.Constant (.int (k : Int)) c p3) p4) p5] [] p7) (stEnv L)) Q E s := by
  refine callB1 (env := stEnv L) (id := "chr") (B.upd' U) (fun P => by kernel_rfl) (fun P => by kernel_rfl) (ints_item (env := stEnv L) hn hlst hr hl hi hk hkx hx h1 (by kernel_rfl) (by kernel_rfl) h4 fun t t' => ?_)
  exact chr_of_range (chr_range hok _).1 (chr_range hok _).2 (h _ _)
theorem cell_test {L : Addr} {m} {cell : Nat} {t : Tok} {k c1 c2 : Nat} {p1 p2 p3 p4 p5 p6 : Pos} {body rest : List Stmt} {Q : Flow → Shared → Prop} (hn : s.heap.Ns L m) (hm : m (Str.ofString "cell") = some (.int (cell : Int) t))
    (hy : cell % 7 = k → ∀ tk, wpAny (model pw w) A (execs body (stEnv L)) (fun f s' => match f with | .next => wpAny (model pw w) A (execs rest (stEnv L)) Q E s' | f => Q f s') E { s with toks := tk })
    (hno : cell % 7 ≠ k → ∀ tk, wpAny (model pw w) A (execs rest (stEnv L)) Q E { s with toks := tk }) :
    wpAny (model pw w) A (execs (.If (.Compare (.BinOp (.Name (Str.ofString "cell") p1) .Mod (.Constant (.int 7) c1 p2) p3) [.Eq] [.Constant (.int (k : Int)) c2 p4] p5) body [] p6 :: rest) (stEnv L)) Q E s := by
  refine ifC (wpAny_BinOp (nL (env := stEnv L) hn hm (wpAny_Constant_int (mod_int (by decide) (wpAny_Constant_int (eq_int (wpAny_truthy_bool ?_)))))))
  have e : (cell : Int).fmod 7 = ((cell % 7 : Nat) : Int) := fmod_nat cell 7
  rw [e]
  by_cases q : cell % 7 = k
  · have : (((cell % 7 : Nat) : Int) == (k : Int)) = true := by rw [q]; exact beq_self_eq_true _
    rw [this]; exact hy q _
  · have : (((cell % 7 : Nat) : Int) == (k : Int)) = false := by rw [beq_eq_false_iff_ne]; omega
    rw [this]; exact wpAny_execs_nil (hno q _)
noncomputable def besideAt (r : Nat) : Nat := (besideL.getD (r % 16) 0).toNat
noncomputable def unseenAt (r : Nat) : Nat := (unseenL.getD (r % 27) 0).toNat
set_option maxHeartbeats 2000000 in
theorem st8 {s₀ : Shared} {L : Addr} {m} {cell r : Nat} {D : Addr} {ps : List Value} {qs : List Pr} {P : Addr → Prop} {Q : Flow → Shared → Prop} (B : Base w s₀.heap) (F : StF s₀ s L m cell r D ps qs P) (h : FinSt s₀ Q (if cell % 7 = 1 then lastSet qs (besideAt r, [besideAt r]) else qs)) :
    wpAny (model pw w) A (execs (stBodyDrop 8) (stEnv L)) Q E s := by
  obtain ⟨t, hc⟩ := F.cell
  obtain ⟨tr, hr⟩ := F.rest
  refine cell_test (k := 1) F.ns hc (fun q tk => ?_) (fun q tk => ?_)
  · rw [if_pos q] at h
    obtain ⟨Db, vs, hm, hne, hl, hi⟩ := F.beside
    refine execs_one (set_pair (F.toks tk) (ch := besideAt r) (y := ⟨#[besideAt r]⟩) (fun Q' E' hq => ?_) (by kernel_rfl) fun s' a ps' F' => st9' F' h)
    refine spliced_cons (chr_item (s := { s with toks := tk }) (k := 16) B (F.upd.trans .toks) F.ns hm hr hl hi (by decide) (Nat.le_of_eq beside_ok.2.symm) (by decide) beside_ok.1 (by kernel_rfl) (by kernel_rfl) fun t1 k1 => ?_)
    refine spliced_cons (chr_item (s := { s with toks := k1 }) (k := 16) B (F.upd.trans .toks) F.ns hm hr hl hi (by decide) (Nat.le_of_eq beside_ok.2.symm) (by decide) beside_ok.1 (by kernel_rfl) (by kernel_rfl) fun t2 k2 => ?_)
    exact spliced_nil (hq _ _ _)
  · rw [if_neg q] at h
    exact st9' (F.toks tk) h
set_option maxHeartbeats 2000000 in
theorem st7 {s₀ : Shared} {L : Addr} {m} {cell r : Nat} {D : Addr} {ps : List Value} {qs : List Pr} {P : Addr → Prop} {Q : Flow → Shared → Prop} (B : Base w s₀.heap) (F : StF s₀ s L m cell r D ps qs P)
    (h : FinSt s₀ Q (if cell % 7 = 0 then lastSet qs (unseenAt r, []) else if cell % 7 = 1 then lastSet qs (besideAt r, [besideAt r]) else qs)) :
    wpAny (model pw w) A (execs (stBodyDrop 7) (stEnv L)) Q E s := by
  obtain ⟨t, hc⟩ := F.cell
  obtain ⟨tr, hr⟩ := F.rest
  refine cell_test (k := 0) F.ns hc (fun q tk => ?_) (fun q tk => ?_)
  · rw [if_pos q] at h
    obtain ⟨Db, vs, hm, hne, hl, hi⟩ := F.unseen
    refine execs_one (set_pair (F.toks tk) (ch := unseenAt r) (y := Str.ofString "") (fun Q' E' hq => ?_) (by kernel_rfl) fun s' a ps' F' => st8 B F' ?_)
    · refine spliced_cons (chr_item (s := { s with toks := tk }) (k := 27) B (F.upd.trans .toks) F.ns hm hr hl hi (by decide) (Nat.le_of_eq unseen_ok.2.symm) (by decide) unseen_ok.1 (by kernel_rfl) (by kernel_rfl) fun t1 k1 => ?_)
      refine spliced_cons ?_
      refine wpAny_Constant_str (k := 0) (pos := p0) ?_
      exact spliced_nil (hq _ _ _)
    · rw [if_neg (by omega)]
      exact h
  · rw [if_neg q] at h
    exact st8 B (F.toks tk) h
end
end
end Mine
namespace Mine
open PySem PySem.W PySem.Calls PyProof.Rows
noncomputable section
section
variable {w : World} {A : Around} {s : Shared} {E : Value → Shared → Prop} {env : Env}
structure StC (s₀ s : Shared) (L : Addr) (m : Str → Option Value) (cell r : Nat) (D : Addr) (ps : List Value) (qs : List Pr) (P : Addr → Prop) : Prop where
  hL : hs s₀ ≤ L
  upd : Upd (fun b => hs s₀ ≤ b) s₀ s
  ns : s.heap.Ns L m
  cell : ∃ t, m (Str.ofString "cell") = some (.int (cell : Int) t)
  rest : ∃ t, m (Str.ofString "rest") = some (.int (r : Int) t)
  picked : m (Str.ofString "picked") = some (.ref D)
  hD : hs s₀ ≤ D
  DL : D ≠ L
  pl : s.heap.PlainList D ps.toArray
  few : ps.length ≤ 10000
  some' : 0 < ps.length
  pairs : PairsAre s.heap P ps qs
  apart : ∀ a, P a → hs s₀ ≤ a ∧ a ≠ D ∧ a ≠ L ∧ a < hs s
theorem StC.set {s₀ s s' : Shared} {L : Addr} {m} {cell r : Nat} {D : Addr} {ps : List Value} {qs : List Pr} {P : Addr → Prop} (F : StC s₀ s L m cell r D ps qs P) {x : Str} {v : Value} (U : Upd (fun b => b = L) s s') (hn : s'.heap.Ns L (setM m x v))
    (h1 : Str.ofString "cell" ≠ x) (h2 : Str.ofString "rest" ≠ x) (h3 : Str.ofString "picked" ≠ x) : StC s₀ s' L (setM m x v) cell r D ps qs P where
  hL := F.hL
  upd := F.upd.trans (U.mono fun b e => e ▸ F.hL)
  ns := hn
  cell := let ⟨t, e⟩ := F.cell; ⟨t, (if_neg h1).trans e⟩
  rest := let ⟨t, e⟩ := F.rest; ⟨t, (if_neg h2).trans e⟩
  picked := (if_neg h3).trans F.picked
  hD := F.hD
  DL := F.DL
  pl := F.pl.at fun o e => U.get F.DL e
  few := F.few
  some' := F.some'
  pairs := F.pairs.keep fun a p o e => U.get (F.apart a p).2.2.1 e
  apart := fun a p => ⟨(F.apart a p).1, (F.apart a p).2.1, (F.apart a p).2.2.1, Nat.lt_of_lt_of_le (F.apart a p).2.2.2 U.size⟩
theorem StC.step {s₀ s s' : Shared} {L : Addr} {m} {cell r : Nat} {D : Addr} {ps : List Value} {qs : List Pr} {P : Addr → Prop} (F : StC s₀ s L m cell r D ps qs P) (U : Upd noW s s') : StC s₀ s' L m cell r D ps qs P where
  hL := F.hL
  upd := F.upd.trans (U.mono fun _ h => h.elim)
  ns := U.ns id F.ns
  cell := F.cell
  rest := F.rest
  picked := F.picked
  hD := F.hD
  DL := F.DL
  pl := F.pl.at fun o e => U.get id e
  few := F.few
  some' := F.some'
  pairs := F.pairs.keep fun a p o e => U.get id e
  apart := fun a p => ⟨(F.apart a p).1, (F.apart a p).2.1, (F.apart a p).2.2.1, Nat.lt_of_lt_of_le (F.apart a p).2.2.2 U.size⟩
theorem lits6 : litsAt 6 = some besideL := by kernel_rfl
theorem st6 {s₀ : Shared} {L : Addr} {m} {cell r : Nat} {D : Addr} {ps : List Value} {qs : List Pr} {P : Addr → Prop} {Q : Flow → Shared → Prop} (B : Base w s₀.heap) (F : StC s₀ s L m cell r D ps qs P)
    {Db : Addr} {us : List Value} (hm : m (Str.ofString "unseen") = some (.ref Db)) (n1 : Db ≠ D) (n2 : Db ≠ L) (hul : s.heap.PlainList Db us.toArray) (hui : IntsAre us unseenL)
    (h : FinSt s₀ Q (if cell % 7 = 0 then lastSet qs (unseenAt r, []) else if cell % 7 = 1 then lastSet qs (besideAt r, [besideAt r]) else qs)) :
    wpAny (model pw w) A (execs (stBodyDrop 6) (stEnv L)) Q E s := by
  refine asg ?_
  refine wpAny_List ?_
  refine lits_eval (ns := besideL) ?_ ?_
  · kernel_rfl
  intro vs k hv
  refine ⟨?_, ?_⟩
  · rw [IntsAre.len hv, beside_ok.2]; exact Nat.le_trans (by decide) sz10k
  have U1 : Upd noW s { s with heap := s.heap.push { cls := .type "list", data := .seq vs.toArray }, toks := k } := .push
  have hl : (s.heap.push { cls := .type "list", data := .seq vs.toArray }).PlainList s.heap.objs.size vs.toArray := ⟨0, Heap.get?_push_size _ rfl⟩
  have F1 := F.step U1
  refine sL (env := stEnv L) F1.ns fun s₂ U₂ hn₂ => ?_
  have F2 := F1.set (x := Str.ofString "beside") (v := .ref s.heap.objs.size) U₂ hn₂ (by decide) (by decide) (by decide)
  have sL' : s.heap.objs.size ≠ L := Nat.ne_of_gt (lt_of_ns F.ns)
  have sD' : s.heap.objs.size ≠ D := Nat.ne_of_gt (by obtain ⟨n, ho⟩ := F.pl; exact Heap.lt_size ho)
  exact st7 B ⟨F2.hL, F2.upd, F2.ns, F2.cell, F2.rest, F2.picked, F2.hD, F2.DL, F2.pl, F2.few, F2.some', F2.pairs, F2.apart,
    ⟨_, vs, if_pos rfl, sD', hl.at fun o e => U₂.get sL' e, hv⟩, ⟨Db, us, (if_neg (by decide)).trans hm, n1, hul.at fun o e => U₂.get n2 (U1.get id e), hui⟩⟩ h
end
end
end Mine
namespace Mine
open PySem PySem.W PySem.Calls PyProof.Rows
noncomputable section
section
variable {w : World} {A : Around} {s : Shared} {E : Value → Shared → Prop} {env : Env}
theorem intsAre_of {f : Nat → Int} : ∀ {n : Nat} {vs : List Value}, vs.length = n → (∀ i v, vs[i]? = some v → ∃ t, v = Value.int (f i) t) → IntsAre vs ((List.range n).map f)
  | 0, [], _, _ => .nil
  | n + 1, v :: vs, hl, h => by
    obtain ⟨t, rfl⟩ := h 0 v rfl
    have ih := intsAre_of (f := fun i => f (i + 1)) (n := n) (vs := vs) (by simpa using hl) (fun i u hu => h (i + 1) u (by simpa using hu))
    have e : (List.range (n + 1)).map f = f 0 :: (List.range n).map fun i => f (i + 1) := by
      rw [List.range_succ_eq_map, List.map_cons, List.map_map]; rfl
    rw [e]
    exact .cons _ t ih
  | 0, _ :: _, hl, _ => by simp at hl
  | _ + 1, [], hl, _ => by simp at hl
theorem execs_eq {a b : List Stmt} {Q : Flow → Shared → Prop} (h : a = b) (x : wpAny (model pw w) A (execs b env) Q E s) : wpAny (model pw w) A (execs a env) Q E s := h ▸ x
theorem list_of_range {r : Addr} {a b c : Int} {t u v : Tok} {n : Nat} {Q : Value → Shared → Prop} (hh : A.handled = none) (hr : IsRange s.heap r a b c t u v) (h1 : Builtin.Range.small a b c = true) (h2 : Builtin.Range.rangeSize a b c = n) (h3 : n ≤ 2 ^ 24)
    (h : ∀ R vs s', hs s ≤ R → R < hs s' → Upd noW s s' → s'.heap.PlainList R vs.toArray → IntsAre vs ((List.range n).map fun (i : Nat) => a + i * c) → Q (.ref R) s') : wpAny (model pw w) A (call (.type "list") [.ref r] []) Q E s := by
  refine with_hs (call_list_range hh hr h1 h2 h3 fun h' tk acc' c' hk hS' hacc hsz => ?_)
  refine h _ acc'.toList _ (Nat.le_refl _) (Heap.lt_size hS') (Upd.of_heap hsz fun b o _ e => hk b o e) ⟨c', by rw [Array.toArray_toList]; exact hS'⟩ (intsAre_of (by rw [Array.length_toList]; exact hacc.1) fun i v hv => hacc.2 i v (by rw [← Array.getElem?_toList]; exact hv))
theorem unseen_split : ∃ a, litsAt 5 = some a ∧ unseenL = a ++ (List.range 16).map (fun i => Int.ofNat (65024 + i)) ∧ a.length = 11 :=
  ⟨(litsAt 5).getD [], by kernel_rfl, rfl, by kernel_rfl⟩
theorem range_same : ((List.range 16).map fun (i : Nat) => (65024 : Int) + i * 1) = (List.range 16).map (fun i => Int.ofNat (65024 + i)) := by kernel_rfl
theorem st5_eval {s₀ : Shared} {L : Addr} {Q : Value → Shared → Prop} {as : List Int} {es : List Expr} {p1 p2 p3 p4 p5 p6 p7 p8 : Pos} {c1 c2 : Nat} (hh : A.handled = none) (B : Base w s₀.heap) (U : Upd (fun b => hs s₀ ≤ b) s₀ s) (ha : litsI es = some as) (hlen : as.length = 11)
    (h : ∀ R vs s', hs s ≤ R → R < hs s' → Upd noW s s' → s'.heap.PlainList R vs.toArray → IntsAre vs (as ++ (List.range 16).map (fun i => Int.ofNat (65024 + i))) → Q (.ref R) s') :
    wpAny (model pw w) A (eval (.BinOp (.List es p1) .Add (.Call (.Name (Str.ofString "list") p2) [.Call (.Name (Str.ofString "range") p3) [.Constant (.int 65024) c1 p4, .Constant (.int 65040) c2 p5] [] p6] [] p7) p8) (stEnv L)) Q E s := by
  refine wpAny_BinOp ?_
  refine wpAny_List ?_
  refine lits_eval ha ?_
  intro vs k hv
  refine ⟨?_, ?_⟩
  · rw [IntsAre.len hv, hlen]; exact Nat.le_trans (by decide) sz10k
  have U1 : Upd noW s { s with heap := s.heap.push { cls := .type "list", data := .seq vs.toArray }, toks := k } := .push
  have hl : (s.heap.push { cls := .type "list", data := .seq vs.toArray }).PlainList s.heap.objs.size vs.toArray := ⟨0, Heap.get?_push_size _ rfl⟩
  generalize hS : ({ s with heap := s.heap.push { cls := .type "list", data := .seq vs.toArray }, toks := k } : Shared) = s₁ at U1
  have hl1 : s₁.heap.PlainList s.heap.objs.size vs.toArray := by rw [← hS]; exact hl
  have B1 := (B.upd' U).upd0 U1
  refine call_ (trees := [(false, _)]) (kts := []) rfl rfl ?_
  refine nB (env := stEnv L) B1 (v := .type "list") (fun P => by kernel_rfl) (fun P => by kernel_rfl) ?_
  refine PyProof.Rows.callWith_type rfl (evalArgs_plain (spliced_cons ?_))
  refine call_ (trees := [(false, _), (false, _)]) (kts := []) rfl rfl ?_
  refine nB (env := stEnv L) B1 (v := .type "range") (fun P => by kernel_rfl) (fun P => by kernel_rfl) ?_
  refine PyProof.Rows.callWith_type rfl (evalArgs_plain (spliced_cons ?_))
  refine wpAny_Constant_int (k := 0) (pos := p0) ?_
  refine spliced_cons ?_
  refine wpAny_Constant_int (k := 0) (pos := p0) ?_
  refine spliced_nil (call_range_2 ?_)
  refine spliced_nil ?_
  have hR : IsRange (s₁.heap.push { cls := .type "range", data := .fields #[.int 65024 s₁.toks, .int 65040 (s₁.toks + 1), .int 1 (s₁.toks + 1 + 1)] }) s₁.heap.objs.size 65024 65040 1 s₁.toks (s₁.toks + 1) (s₁.toks + 1 + 1) := Heap.get?_push_size _ rfl
  have U2 : Upd noW s₁ { s₁ with heap := s₁.heap.push { cls := .type "range", data := .fields #[.int 65024 s₁.toks, .int 65040 (s₁.toks + 1), .int 1 (s₁.toks + 1 + 1)] }, toks := s₁.toks + 1 + 1 + 1 } := .push
  refine list_of_range (n := 16) hh hR (by decide) (by decide) (by decide) fun R ws s₂ hR1 hR2 U3 hl2 hi2 => ?_
  have U4 : Upd noW s₁ s₂ := U2.trans U3
  rw [range_same] at hi2
  have hl1' : s₂.heap.PlainList s.heap.objs.size vs.toArray := hl1.at fun o e => U4.get id e
  have e1 := IntsAre.len hv
  have e2 := IntsAre.len hi2
  rw [hlen] at e1
  rw [List.length_map, List.length_range] at e2
  refine pl_add hl1' hl2 (by omega) fun s₃ U5 hl3 => ?_
  exact h _ _ _ (Nat.le_trans U1.size U4.size) (by obtain ⟨n, ho⟩ := hl3; exact Heap.lt_size ho) ((U1.trans U4).trans U5) hl3 (hv.append hi2)
end
end
end Mine
namespace Mine
open PySem PySem.W PySem.Calls PyProof.Rows
noncomputable section
section
variable {w : World} {A : Around} {s : Shared} {E : Value → Shared → Prop} {env : Env}
theorem drop5 : ∃ es p1 p2 p3 p4 p5 p6 p7 p8 c1 c2 q1 q2, stBodyDrop 5 = .Assign [.Name (Str.ofString "unseen") q1] (.BinOp (.List es p1) .Add (.Call (.Name (Str.ofString "list") p2) [.Call (.Name (Str.ofString "range") p3) [.Constant (.int 65024) c1 p4, .Constant (.int 65040) c2 p5] [] p6] [] p7) p8) q2 :: stBodyDrop 6 ∧ litsI es = litsAt 5 :=
  ⟨_, _, _, _, _, _, _, _, _, _, _, _, _, rfl, by kernel_rfl⟩
theorem st5 {s₀ : Shared} {L : Addr} {m} {cell r : Nat} {D : Addr} {ps : List Value} {qs : List Pr} {P : Addr → Prop} {Q : Flow → Shared → Prop} (hh : A.handled = none) (B : Base w s₀.heap) (F : StC s₀ s L m cell r D ps qs P)
    (h : FinSt s₀ Q (if cell % 7 = 0 then lastSet qs (unseenAt r, []) else if cell % 7 = 1 then lastSet qs (besideAt r, [besideAt r]) else qs)) :
    wpAny (model pw w) A (execs (stBodyDrop 5) (stEnv L)) Q E s := by
  obtain ⟨as, ha, hu, hlen⟩ := unseen_split
  obtain ⟨es, p1, p2, p3, p4, p5, p6, p7, p8, c1, c2, q1, q2, he, hes⟩ := drop5
  rw [ha] at hes
  rw [he]
  have hsw : swapsWith (.BinOp (.List es p1) .Add (.Call (.Name (Str.ofString "list") p2) [.Call (.Name (Str.ofString "range") p3) [.Constant (.int 65024) c1 p4, .Constant (.int 65040) c2 p5] [] p6] [] p7) p8) (some (.Name (Str.ofString "unseen") q1)) q2.line (stEnv L) = pure false := rfl
  refine asg ?_ hsw
  refine st5_eval (as := as) hh B F.upd hes hlen ?_
  intro R vs s₁ hR1 hR2 U1 hl hi
  have F1 := F.step U1
  refine sL (env := stEnv L) F1.ns ?_
  intro s₂ U₂ hn₂
  have F2 := F1.set (x := Str.ofString "unseen") (v := .ref R) U₂ hn₂ (by decide) (by decide) (by decide)
  have nL : R ≠ L := Nat.ne_of_gt (Nat.lt_of_lt_of_le (lt_of_ns F.ns) hR1)
  have nD : R ≠ D := Nat.ne_of_gt (Nat.lt_of_lt_of_le (by obtain ⟨n, ho⟩ := F.pl; exact Heap.lt_size ho) hR1)
  rw [← hu] at hi
  have hl2 : s₂.heap.PlainList R vs.toArray := hl.at fun o e => U₂.get nL e
  have x0 : setM m (Str.ofString "unseen") (.ref R) (Str.ofString "unseen") = some (.ref R) := if_pos rfl
  have x1 := @st6 w A s₂ E s₀ L _ cell r D ps qs P Q B F2 R vs x0 nD nL hl2 hi h
  with_reducible exact x1
end
end
end Mine
namespace Mine
open PySem PySem.W PySem.Calls PyProof.Rows
noncomputable section
section
variable {w : World} {A : Around} {s : Shared} {E : Value → Shared → Prop} {env : Env}
theorem Upd.up {W : Addr → Prop} {s s' : Shared} (x : Upd noW s s') : Upd W s s' := x.mono fun _ h => h.elim
structure StL (s₀ s : Shared) (N L Dp D : Addr) (m : Str → Option Value) (cell : Nat) (x : PSt) (P : Addr → Prop) : Prop where
  hL : hs s₀ ≤ L
  upd : Upd (fun b => hs s₀ ≤ b) s₀ s
  cell : ∃ t, m (Str.ofString "cell") = some (.int (cell : Int) t)
  rest : ∃ t, m (Str.ofString "rest") = some (.int (x.2.1 : Int) t)
  pool : m (Str.ofString "pool") = some (.ref Dp)
  picked : m (Str.ofString "picked") = some (.ref D)
  hD : hs s₀ ≤ D
  hDp : hs s₀ ≤ Dp
  LN : L < N
  DN : D < N
  DpN : Dp < N
  DL : D ≠ L
  DpL : Dp ≠ L
  DpD : Dp ≠ D
  pl : ∃ ps, s.heap.PlainList D ps.toArray ∧ PairsAre s.heap P ps x.2.2
  pp : ∃ pp, s.heap.PlainList Dp pp.toArray ∧ PairsAre s.heap P pp x.1
  few : x.1.length + x.2.2.length ≤ 100
  small : x.2.1 < 10 ^ 9
  apart : ∀ a, P a → hs s₀ ≤ a ∧ a ≠ D ∧ a ≠ L ∧ a ≠ Dp ∧ a < N
theorem StL.move {s₀ s s' : Shared} {N L Dp D : Addr} {m m' : Str → Option Value} {cell : Nat} {x : PSt} {P : Addr → Prop} (F : StL s₀ s N L Dp D m cell x P) {W : Addr → Prop} (U : Upd W s s') (hW : ∀ b, W b → N ≤ b ∨ b = L) 
    (h1 : m' (Str.ofString "cell") = m (Str.ofString "cell")) (h2 : m' (Str.ofString "rest") = m (Str.ofString "rest")) (h3 : m' (Str.ofString "pool") = m (Str.ofString "pool")) (h4 : m' (Str.ofString "picked") = m (Str.ofString "picked")) (hN : hs s₀ ≤ N) : StL s₀ s' N L Dp D m' cell x P where
  hL := F.hL
  upd := F.upd.trans (U.mono fun b e => (hW b e).elim (fun q => Nat.le_trans hN q) fun q => q ▸ F.hL)
  cell := h1 ▸ F.cell
  rest := h2 ▸ F.rest
  pool := h3 ▸ F.pool
  picked := h4 ▸ F.picked
  hD := F.hD
  hDp := F.hDp
  LN := F.LN
  DN := F.DN
  DpN := F.DpN
  DL := F.DL
  DpL := F.DpL
  DpD := F.DpD
  pl := by
    have no : ∀ b, b < N → b ≠ L → ¬ W b := fun b h1 h2 q => (hW b q).elim (fun q => absurd h1 (Nat.not_lt.mpr q)) h2
    obtain ⟨ps, a, b⟩ := F.pl
    exact ⟨ps, a.at fun o e => U.get (no _ F.DN F.DL) e, b.keep fun c p o e => U.get (no _ (F.apart c p).2.2.2.2 (F.apart c p).2.2.1) e⟩
  pp := by
    have no : ∀ b, b < N → b ≠ L → ¬ W b := fun b h1 h2 q => (hW b q).elim (fun q => absurd h1 (Nat.not_lt.mpr q)) h2
    obtain ⟨ps, a, b⟩ := F.pp
    exact ⟨ps, a.at fun o e => U.get (no _ F.DpN F.DpL) e, b.keep fun c p o e => U.get (no _ (F.apart c p).2.2.2.2 (F.apart c p).2.2.1) e⟩
  few := F.few
  small := F.small
  apart := F.apart
theorem drop4 : ∃ (ps : List Pos), stBodyDrop 4 = (.For (.Name (Str.ofString "turn") (posN ps 0)) (.Call (.Name (Str.ofString "range") (posN ps 1)) [(.Name (Str.ofString "many") (posN ps 2))] [] (posN ps 3)) [(.Assign [(.Name (Str.ofString "place") (posN ps 4))] (.BinOp (.Name (Str.ofString "rest") (posN ps 5)) .Mod (.Call (.Name (Str.ofString "len") (posN ps 6)) [(.Name (Str.ofString "pool") (posN ps 7))] [] (posN ps 8)) (posN ps 9)) (posN ps 10)), (.Assign [(.Name (Str.ofString "rest") (posN ps 11))] (.BinOp (.Name (Str.ofString "rest") (posN ps 12)) .FloorDiv (.Call (.Name (Str.ofString "len") (posN ps 13)) [(.Name (Str.ofString "pool") (posN ps 14))] [] (posN ps 15)) (posN ps 16)) (posN ps 17)), (.Expr (.Call (.Attribute (.Name (Str.ofString "picked") (posN ps 18)) (Str.ofString "append") (posN ps 19)) [(.Call (.Attribute (.Name (Str.ofString "pool") (posN ps 20)) (Str.ofString "pop") (posN ps 21)) [(.Name (Str.ofString "place") (posN ps 22))] [] (posN ps 23))] [] (posN ps 24)) (posN ps 25))] [] (posN ps 26)) :: stBodyDrop 5 ∧ ((posN ps 19).endLine == (posN ps 24).line) = true ∧ ((posN ps 21).endLine == (posN ps 23).line) = true :=
  ⟨[_, _, _, _, _, _, _, _, _, _, _, _, _, _, _, _, _, _, _, _, _, _, _, _, _, _, _], rfl, rfl, rfl⟩
theorem turn4 {s₀ : Shared} {N L Dp D : Addr} {m} {cell : Nat} {x : PSt} {P : Addr → Prop} {Q : Flow → Shared → Prop} {p4 p5 p6 p7 p8 p9 p10 p11 p12 p13 p14 p15 p16 p17 p18 p19 p20 p21 p22 p23 p24 p25 : Pos} (hl1 : (p19.endLine == p24.line) = true) (hl2 : (p21.endLine == p23.line) = true)
    (B : Base w s₀.heap) (hN : hs s₀ ≤ N) (F : StL s₀ s N L Dp D m cell x P) (hn : s.heap.Ns L m) (hx : 0 < x.1.length)
    (h : ∀ s' m', Upd (fun b => b = L ∨ b = D ∨ b = Dp) s s' → s'.heap.Ns L m' → StL s₀ s' N L Dp D m' cell (pick1 x) P → Q .next s') :
    wpAny (model pw w) A (execs [(.Assign [(.Name (Str.ofString "place") p4)] (.BinOp (.Name (Str.ofString "rest") p5) .Mod (.Call (.Name (Str.ofString "len") p6) [(.Name (Str.ofString "pool") p7)] [] p8) p9) p10), (.Assign [(.Name (Str.ofString "rest") p11)] (.BinOp (.Name (Str.ofString "rest") p12) .FloorDiv (.Call (.Name (Str.ofString "len") p13) [(.Name (Str.ofString "pool") p14)] [] p15) p16) p17), (.Expr (.Call (.Attribute (.Name (Str.ofString "picked") p18) (Str.ofString "append") p19) [(.Call (.Attribute (.Name (Str.ofString "pool") p20) (Str.ofString "pop") p21) [(.Name (Str.ofString "place") p22)] [] p23)] [] p24) p25)] (stEnv L)) Q E s := by
  obtain ⟨tr, hr⟩ := F.rest
  obtain ⟨pp, hpp, hPP⟩ := F.pp
  obtain ⟨pool, rest, got⟩ := x
  have elen : pp.length = pool.length := hPP.len
  have few := F.few
  have small := F.small
  dsimp only at hr few small hx hPP elen
  refine asg (wpAny_BinOp (nL (env := stEnv L) hn hr (callB1 (env := stEnv L) (id := "len") (B.upd' F.upd) (fun P => by kernel_rfl) (fun P => by kernel_rfl) (nL (env := stEnv L) hn F.pool (len_list hpp.isList (by simp; omega) ?_)))))
  have e1 : ((pp.toArray.size : Nat) : Int) = (pool.length : Int) := by simp [elen]
  rw [e1]
  refine mod_int (by omega) ?_
  rw [fmod_nat]
  have U1 : Upd (noW) s { s with toks := s.toks + 1 + 1 + 1 } := .toks
  generalize ({ s with toks := s.toks + 1 + 1 + 1 } : Shared) = s₁ at U1 ⊢
  refine sL (env := stEnv L) (U1.ns id hn) ?_
  intro s₂ U₂ hn₂
  have F₂ : StL s₀ s₂ N L Dp D (setM m (Str.ofString "place") (.int ((rest % pool.length : Nat) : Int) (s.toks + 1 + 1))) cell (pool, rest, got) P :=
    F.move (U1.up.trans U₂ : Upd (fun b => b = L) s s₂) (fun b e => .inr e) (if_neg (by decide)) (if_neg (by decide)) (if_neg (by decide)) (if_neg (by decide)) hN
  obtain ⟨tr₂, hr₂⟩ := F₂.rest
  dsimp only at hr₂
  have hpp₂ : s₂.heap.PlainList Dp pp.toArray := hpp.at fun o e => U₂.get F.DpL (U1.get id e)
  refine asg (wpAny_BinOp (nL (env := stEnv L) hn₂ hr₂ (callB1 (env := stEnv L) (id := "len") (B.upd' F₂.upd) (fun P => by kernel_rfl) (fun P => by kernel_rfl) (nL (env := stEnv L) hn₂ F₂.pool (len_list hpp₂.isList (by simp; omega) ?_)))))
  rw [e1]
  refine floordiv_int (by omega) ?_ (.inl (PyProof.noPylong_small (by omega)))
  rw [fdiv_nat]
  have U3 : Upd (noW) s₂ { s₂ with toks := s₂.toks + 1 + 1 + 1 } := .toks
  generalize ({ s₂ with toks := s₂.toks + 1 + 1 + 1 } : Shared) = s₃ at U3 ⊢
  refine sL (env := stEnv L) (U3.ns id hn₂) ?_
  intro s₄ U₄ hn₄
  have V : Upd (fun b => b = L) s s₄ := (U1.up.trans U₂).trans (U3.up.trans U₄)
  have hpp₄ : s₄.heap.PlainList Dp pp.toArray := hpp.at fun o e => V.get F.DpL e
  obtain ⟨ps, hps, hPS⟩ := F.pl
  have hps₄ : s₄.heap.PlainList D ps.toArray := hps.at fun o e => V.get F.DL e
  have noL : ∀ b, P b → b ≠ L := fun b p => (F.apart b p).2.2.1
  dsimp only at hPS
  have elen2 : ps.length = got.length := hPS.len
  have hlt : rest % pool.length < pool.length := Nat.mod_lt _ hx
  obtain ⟨v, hv⟩ : ∃ v, pp[rest % pool.length]? = some v := ⟨_, List.getElem?_eq_getElem (by omega)⟩
  obtain ⟨q, hq, hPS'⟩ := (hPP.keep fun a p o e => V.get (noL a p) e).snocGet (hPS.keep fun a p o e => V.get (noL a p) e) hv
  refine execs_one (wpAny_Expr ?_ (by kernel_rfl) (by with_unfolding_all rfl))
  refine wpAny_Call_method (T := "list") (id := "list.append") rfl rfl hl1 PySem.F.plainAttrs_list PySem.F.slot_list_append PySem.F.type_list_append (nL (env := stEnv L) hn₄ (v := .ref D) (by (refine (if_neg (by decide)).trans ?_); exact F₂.picked) ⟨hps₄.isList.typeIs, ?_, ?_⟩)
  · rintro _ ⟨⟩
    obtain ⟨n, ho⟩ := hps₄
    exact ⟨_, ho, rfl⟩
  refine callWith_builtin rfl (evalArgs_plain (spliced_cons ?_))
  refine wpAny_Call_method (T := "list") (id := "list.pop") rfl rfl hl2 PySem.F.plainAttrs_list PySem.F.slot_list_pop PySem.F.type_list_pop (nL (env := stEnv L) hn₄ (v := .ref Dp) (by (refine (if_neg (by decide)).trans ?_); exact F₂.pool) ⟨hpp₄.isList.typeIs, ?_, ?_⟩)
  · rintro _ ⟨⟩
    obtain ⟨n, ho⟩ := hpp₄
    exact ⟨_, ho, rfl⟩
  refine callWith_builtin rfl (evalArgs_plain (spliced_cons (nL (env := stEnv L) hn₄ (v := .int ((rest % pool.length : Nat) : Int) (s.toks + 1 + 1)) (by (refine (if_neg (by decide)).trans ?_); exact if_pos rfl) (spliced_nil ?_))))
  refine pl_pop hpp₄ hv (by omega) fun h₅ hl₅ hs₅ => ?_
  refine spliced_nil ?_
  have U₅ : Upd (fun b => b = Dp) s₄ { s₄ with heap := h₅ } := Upd.same (t := s₄.toks) hs₅ rfl
  have e5 : ({ s₄ with heap := h₅ } : Shared).heap = h₅ := rfl
  generalize ({ s₄ with heap := h₅ } : Shared) = s₅ at U₅ e5 ⊢
  subst e5
  have hps₅ : s₅.heap.PlainList D ps.toArray := hps₄.at fun o e => U₅.get (fun q => F.DpD q.symm) e
  refine wpAny_list_append_plain hps₅ (fun h₆ hl₆ hs₆ => ?_) (by rw [List.size_toArray]; exact Nat.le_trans (by omega) sz10k)
  have U₆ : Upd (fun b => b = D) s₅ { s₅ with heap := h₆ } := Upd.same (t := s₅.toks) hs₆ rfl
  have hl₆' : h₆.PlainList D (ps ++ [v]).toArray := by
    have e : ps.toArray.push v = (ps ++ [v]).toArray := by simp
    rw [← e]; exact hl₆
  have e6 : ({ s₅ with heap := h₆ } : Shared).heap = h₆ := rfl
  generalize ({ s₅ with heap := h₆ } : Shared) = s₆ at U₆ e6 ⊢
  subst e6
  have V' : Upd (fun b => b = L ∨ b = D ∨ b = Dp) s s₆ := (V.mono fun b e => .inl e).trans ((U₅.mono fun b e => .inr (.inr e)).trans (U₆.mono fun b e => .inr (.inl e)))
  have noD : ∀ b, P b → ¬ (b = L ∨ b = D ∨ b = Dp) := fun b p q => q.elim (F.apart b p).2.2.1 fun q => q.elim (F.apart b p).2.1 (F.apart b p).2.2.2.1
  have e7 : pick1 (pool, rest, got) = (pool.eraseIdx (rest % pool.length), rest / pool.length, got ++ [q]) := by
    show (_, _, got ++ (pool[rest % pool.length]?).toList) = _
    rw [hq]; rfl
  refine h s₆ _ V' (U₆.ns F.DL.symm (U₅.ns F.DpL.symm hn₄)) ?_
  rw [e7]
  have k5 : ∀ a, P a → ∀ o, s₄.heap.get? a = some o → s₆.heap.get? a = some o := fun a p o e => U₆.get (F.apart a p).2.1 (U₅.get (F.apart a p).2.2.2.1 e)
  exact {
    hL := F.hL
    upd := F.upd.trans (V'.mono fun b e => by rcases e with e | e | e; exact e ▸ F.hL; exact e ▸ F.hD; exact e ▸ F.hDp)
    cell := by obtain ⟨t, e⟩ := F₂.cell; exact ⟨t, (if_neg (by decide)).trans e⟩
    rest := ⟨_, if_pos rfl⟩
    pool := (if_neg (by decide)).trans F₂.pool
    picked := (if_neg (by decide)).trans F₂.picked
    hD := F.hD
    hDp := F.hDp
    LN := F.LN
    DN := F.DN
    DpN := F.DpN
    DL := F.DL
    DpL := F.DpL
    DpD := F.DpD
    pl := ⟨_, hl₆', hPS'.keep k5⟩
    pp := ⟨_, hl₅.at fun o e => U₆.get F.DpD e, (hPP.erase _).keep fun a p o e => k5 a p o (V.get (noL a p) e)⟩
    few := by
      dsimp only
      rw [List.length_eraseIdx, if_pos hlt, List.length_append]
      simp; omega
    small := Nat.lt_of_le_of_lt (Nat.div_le_self _ _) small
    apart := F.apart }
end
end
end Mine
namespace Mine
open PySem PySem.W PySem.Calls PyProof.Rows
noncomputable section
theorem range0 (n : Nat) : Builtin.Range.rangeSize 0 n 1 = n := by
  unfold Builtin.Range.rangeSize
  rw [if_pos (by decide), Int.ediv_one]
  split <;> omega
theorem range_small (n : Nat) (h : n ≤ 1000) : Builtin.Range.small 0 n 1 = true := by
  unfold Builtin.Range.small
  rw [range0]
  have e : ∀ i : Int, -10000 ≤ i → i ≤ 10000 → Builtin.Range.rangeFitsLong i = true := fun i h1 h2 => by
    unfold Builtin.Range.rangeFitsLong
    simp only [Bool.and_eq_true, decide_eq_true_eq]
    omega
  rw [e 0 (by omega) (by omega), e n (by omega) (by omega), e 1 (by omega) (by omega), if_pos (by decide), e _ (by omega) (by omega)]
  simp
section
variable {w : World} {A : Around} {s : Shared} {E : Value → Shared → Prop} {env : Env}
/-- range(n) for a loop -/
theorem range_feed {n : Nat} {t : Tok} {Q : Value → Shared → Prop} (hh : A.handled = none) (hn : n ≤ 1000)
    (h : ∀ I St s₂, hs s ≤ I → I < hs s₂ → Upd noW s s₂ → (∀ (x : Str) (px : Pos), Feed w A (.ref I) (.Name x px) [I] [I] n St (fun i m m' => ∃ v, (∃ t, v = .int (i : Int) t) ∧ m' = setM m x v) (LocEnv x)) → St 0 s₂.heap → Q (.ref I) s₂) :
    wpAny (model pw w) A (call (.type "range") [.int (n : Int) t] []) (fun xv s₁ => wpAny (model pw w) A (pyIter xv) Q E s₁) E s := by
  refine call_range_1 ?_
  have hR : IsRange (s.heap.push { cls := .type "range", data := .fields #[.int 0 s.toks, .int (n : Int) t, .int 1 (s.toks + 1)] }) s.heap.objs.size 0 n 1 s.toks t (s.toks + 1) := Heap.get?_push_size _ rfl
  have U2 : Upd noW s { s with heap := s.heap.push { cls := .type "range", data := .fields #[.int 0 s.toks, .int (n : Int) t, .int 1 (s.toks + 1)] }, toks := s.toks + 1 + 1 } := .push
  have eh : ({ s with heap := s.heap.push { cls := .type "range", data := .fields #[.int 0 s.toks, .int (n : Int) t, .int 1 (s.toks + 1)] }, toks := s.toks + 1 + 1 } : Shared).heap = s.heap.push { cls := .type "range", data := .fields #[.int 0 s.toks, .int (n : Int) t, .int 1 (s.toks + 1)] } := rfl
  generalize ({ s with heap := s.heap.push { cls := .type "range", data := .fields #[.int 0 s.toks, .int (n : Int) t, .int 1 (s.toks + 1)] }, toks := s.toks + 1 + 1 } : Shared) = s₁ at U2 eh ⊢
  rw [← eh] at hR
  refine wpAny_pyIter_range hR (range_small n hn) ?_
  rw [range0]
  have U3 : Upd noW s₁ { s₁ with heap := s₁.heap.push { cls := .type "range_iterator", data := .fields #[rawInt 0, rawInt (n : Int), rawInt 1] } } := .push (t := s₁.toks)
  have hI : IsRangeIter (s₁.heap.push { cls := .type "range_iterator", data := .fields #[rawInt 0, rawInt (n : Int), rawInt 1] }) s₁.heap.objs.size 0 n 1 := Heap.get?_push_size _ rfl
  have W := Walks.range (prog := pw) (w := w) hh s₁.heap.objs.size 0 1 n
  have F : ∀ (x : Str) (px : Pos), Feed w A (.ref s₁.heap.objs.size) (.Name x px) [s₁.heap.objs.size] [s₁.heap.objs.size] n (fun i h => IsRangeIter h s₁.heap.objs.size (0 + (i : Nat) * 1) ((n : Int) - (i : Nat)) 1) (fun i m m' => ∃ v, (∃ t, v = .int (i : Int) t) ∧ m' = setM m x v) (LocEnv x) := fun x px => by
    have := Feed.ofWalks (x := x) (px := px) W
    have e : ∀ i : Nat, (0 + (i : Int) * 1) = (i : Int) := fun i => by omega
    simp only [e] at this
    simp only [e]
    exact this
  refine h s₁.heap.objs.size _ _ U2.size ?_ (U2.trans U3) F ?_
  · show s₁.heap.objs.size < (s₁.heap.push _).objs.size
    rw [Heap.size_push]; exact Nat.lt_succ_self _
  · have e1 : (0 + ((0 : Nat) : Int) * 1) = 0 := by omega
    have e2 : (n : Int) - ((0 : Nat) : Int) = n := by omega
    show IsRangeIter _ _ _ _ _
    rw [e1, e2]; exact hI
theorem pickN_len (x : PSt) : ∀ k, k ≤ x.1.length → (pickN k x).1.length = x.1.length - k
  | 0, _ => rfl
  | k + 1, h => by
    have ih := pickN_len x k (by omega)
    show (pick1 (pickN k x)).1.length = _
    unfold pick1
    dsimp only
    rw [List.length_eraseIdx, if_pos (Nat.mod_lt _ (by omega)), ih]
    omega
theorem pickN_got (x : PSt) : ∀ k, k ≤ x.1.length → (pickN k x).2.2.length = x.2.2.length + k
  | 0, _ => rfl
  | k + 1, h => by
    have ih := pickN_got x k (by omega)
    have il := pickN_len x k (by omega)
    show (pick1 (pickN k x)).2.2.length = _
    unfold pick1
    dsimp only
    have hlt : (pickN k x).2.1 % (pickN k x).1.length < (pickN k x).1.length := Nat.mod_lt _ (by omega)
    rw [List.length_append, ih, List.getElem?_eq_getElem hlt]
    simp; omega
theorem st4 {s₀ : Shared} {N L Dp D : Addr} {m} {cell n : Nat} {t : Tok} {x : PSt} {P : Addr → Prop} {Q : Flow → Shared → Prop} (hh : A.handled = none) (B : Base w s₀.heap) (hN : hs s₀ ≤ N) (hNs : N ≤ hs s) (F : StL s₀ s N L Dp D m cell x P) (hn : s.heap.Ns L m)
    (hm : m (Str.ofString "many") = some (.int (n : Int) t)) (h0 : 0 < n) (hx : n ≤ x.1.length) (hP : ∀ a, P a → a < N) 
    (h : FinSt s₀ Q (if cell % 7 = 0 then lastSet (pickN n x).2.2 (unseenAt (pickN n x).2.1, []) else if cell % 7 = 1 then lastSet (pickN n x).2.2 (besideAt (pickN n x).2.1, [besideAt (pickN n x).2.1]) else (pickN n x).2.2)) :
    wpAny (model pw w) A (execs (stBodyDrop 4) (stEnv L)) Q E s := by
  obtain ⟨ps, he, hl1, hl2⟩ := drop4
  rw [he]
  refine for_stmt ?_
  refine call_ (trees := [(false, _)]) (kts := []) rfl rfl ?_
  refine nB (env := stEnv L) (B.upd' F.upd) (v := .type "range") (fun P => by kernel_rfl) (fun P => by kernel_rfl) ?_
  refine PyProof.Rows.callWith_type rfl (evalArgs_plain (spliced_cons ?_))
  refine nL (env := stEnv L) hn hm (spliced_nil ?_)
  have few := F.few
  refine range_feed hh (by omega) fun I St s₂ hI hI2 U₂ Fd hst => ?_
  have NI : N ≤ I := Nat.le_trans hNs hI
  have hLI : L ≠ I := Nat.ne_of_lt (Nat.lt_of_lt_of_le F.LN NI)
  have F₂ : StL s₀ s₂ N L Dp D m cell x P := F.move U₂ (fun b e => e.elim) rfl rfl rfl rfl hN
  refine ⟨[I], [I], n, St, _, _, m, fun i m' s' => StL s₀ s' N L Dp D m' cell (pickN i x) P ∧ N ≤ hs s', Fd _ _, ⟨by kernel_rfl, by kernel_rfl⟩, (by rw [List.mem_singleton]; exact hLI), hst, U₂.ns id hn, ⟨F₂, Nat.le_trans hNs U₂.size⟩, ?_, ?_⟩
  · rintro i m₁ s₃ s₄ m₂ E' hi ⟨hJ, hNJ⟩ U₃ hn₄ ⟨v, ⟨tv, rfl⟩, rfl⟩
    have F₄ : StL s₀ s₄ N L Dp D (setM m₁ (Str.ofString "turn") (.int (i : Int) tv)) cell (pickN i x) P := hJ.move U₃ (fun b e => e.elim (fun q => .inl (by rw [List.mem_singleton.mp q]; exact NI)) .inr) (if_neg (by decide)) (if_neg (by decide)) (if_neg (by decide)) (if_neg (by decide)) hN
    refine turn4 (Q := fun f s₅ => match f with
        | .next | .cont => Upd (fun b => b ∉ [I]) s₄ s₅ ∧ ∃ m₂, s₅.heap.Ns L m₂ ∧ StL s₀ s₅ N L Dp D m₂ cell (pickN (i + 1) x) P ∧ N ≤ hs s₅
        | .brk => False
        | .ret v => Q (.ret v) s₅) hl1 hl2 B hN F₄ hn₄ (by rw [pickN_len x i (by omega)]; omega) fun s₅ m₅ U₅ hn₅ F₅ => ?_
    refine ⟨U₅.mono fun b e q => ?_, m₅, hn₅, F₅, Nat.le_trans hNJ (Nat.le_trans U₃.size U₅.size)⟩
    rw [List.mem_singleton.mp q] at e
    rcases e with e | e | e
    · exact hLI e.symm
    · exact absurd (Nat.lt_of_lt_of_le F.DN NI) (Nat.not_lt.mpr (Nat.le_of_eq e))
    · exact absurd (Nat.lt_of_lt_of_le F.DpN NI) (Nat.not_lt.mpr (Nat.le_of_eq e))
  · intro m₁ s₃ s₄ ⟨hJ, hNJ⟩ hn₄ U₄
    have F₄ : StL s₀ s₄ N L Dp D m₁ cell (pickN n x) P := hJ.move U₄ (fun b q => .inl (by rw [List.mem_singleton.mp q]; exact NI)) rfl rfl rfl rfl hN
    obtain ⟨ps, hps, hPS⟩ := F₄.pl
    have few4 := F₄.few
    have el := hPS.len
    have eg := pickN_got x n hx
    have hsz : N ≤ hs s₄ := Nat.le_trans hNJ U₄.size
    have C : StC s₀ s₄ L m₁ cell (pickN n x).2.1 D ps (pickN n x).2.2 P := {
      hL := F.hL
      upd := F₄.upd
      ns := hn₄
      cell := F₄.cell
      rest := F₄.rest
      picked := F₄.picked
      hD := F.hD
      DL := F.DL
      pl := hps
      few := by omega
      some' := by omega
      pairs := hPS
      apart := fun a p => ⟨(F.apart a p).1, (F.apart a p).2.1, (F.apart a p).2.2.1, Nat.lt_of_lt_of_le (hP a p) hsz⟩ }
    have x1 := @st5 w A s₄ E s₀ L m₁ cell (pickN n x).2.1 D ps (pickN n x).2.2 P Q hh B C h
    with_reducible exact x1
end
end
end Mine
namespace Mine
open PySem PySem.W PySem.Calls PyProof.Rows
noncomputable section
theorem PairsAre.bound {h : Heap} {P : Addr → Prop} : ∀ {vs : List Value} {qs : List Pr}, PairsAre h P vs qs → PairsAre h (fun a => P a ∧ a < h.objs.size) vs qs
  | _, _, .nil => .nil
  | _, _, .cons p l r => .cons ⟨p, by obtain ⟨n, ho⟩ := l; exact Heap.lt_size ho⟩ l r.bound
section
variable {w : World} {A : Around} {s : Shared} {E : Value → Shared → Prop} {env : Env}
theorem drop3 : ∃ (p0 : Pos) (p1 : Pos) (p2 : Pos), stBodyDrop 3 = (.Assign [(.Name (Str.ofString "picked") p0)] (.List [] p1) p2) :: stBodyDrop 4 := ⟨_, _, _, rfl⟩
theorem drop2 : ∃ (p0 : Pos) (p1 : Pos) (c2 : Nat) (p3 : Pos) (p4 : Pos) (p5 : Pos), stBodyDrop 2 = (.Assign [(.Name (Str.ofString "rest") p0)] (.BinOp (.Name (Str.ofString "cell") p1) .FloorDiv (.Constant (.int 42) c2 p3) p4) p5) :: stBodyDrop 3 := ⟨_, _, _, _, _, _, rfl⟩
noncomputable abbrev stRes (x : PSt) (cell : Nat) : List Pr := if cell % 7 = 0 then lastSet x.2.2 (unseenAt x.2.1, []) else if cell % 7 = 1 then lastSet x.2.2 (besideAt x.2.1, [besideAt x.2.1]) else x.2.2
theorem st3 {s₀ : Shared} {L Dp : Addr} {m} {cell n r : Nat} {t : Tok} {pool : List Pr} {pp : List Value} {P : Addr → Prop} {Q : Flow → Shared → Prop} (hh : A.handled = none) (B : Base w s₀.heap) (U : Upd (fun b => hs s₀ ≤ b) s₀ s) (hn : s.heap.Ns L m) (hL : hs s₀ ≤ L)
    (hc : ∃ t, m (Str.ofString "cell") = some (.int (cell : Int) t)) (hr : ∃ t, m (Str.ofString "rest") = some (.int (r : Int) t)) (hm : m (Str.ofString "many") = some (.int (n : Int) t)) (hp : m (Str.ofString "pool") = some (.ref Dp)) (hDp : hs s₀ ≤ Dp) (DpL : Dp ≠ L)
    (hl : s.heap.PlainList Dp pp.toArray) (hP : PairsAre s.heap P pp pool) (hPa : ∀ a, P a → hs s₀ ≤ a ∧ a ≠ L ∧ a ≠ Dp) (few : pool.length ≤ 100) (small : r < 10 ^ 9) (h0 : 0 < n) (hx : n ≤ pool.length)
    (h : FinSt s₀ Q (stRes (pickN n (pool, r, [])) cell)) :
    wpAny (model pw w) A (execs (stBodyDrop 3) (stEnv L)) Q E s := by
  obtain ⟨p0, p1, p2, he⟩ := drop3
  rw [he]
  refine asg ?_
  refine wpAny_List (spliced_nil ⟨Nat.zero_le _, ?_⟩)
  have U1 : Upd noW s { s with heap := s.heap.push { cls := .type "list", data := .seq #[] }, toks := s.toks } := .push
  have hl1 : (s.heap.push { cls := .type "list", data := .seq #[] }).PlainList s.heap.objs.size #[] := ⟨0, Heap.get?_push_size _ rfl⟩
  have hsz : ({ s with heap := s.heap.push { cls := .type "list", data := .seq #[] }, toks := s.toks } : Shared).heap.objs.size = s.heap.objs.size + 1 := by rw [Heap.size_push]
  have eh : ({ s with heap := s.heap.push { cls := .type "list", data := .seq #[] }, toks := s.toks } : Shared).heap = s.heap.push { cls := .type "list", data := .seq #[] } := rfl
  generalize hS : ({ s with heap := s.heap.push { cls := .type "list", data := .seq #[] }, toks := s.toks } : Shared) = s₁ at U1 eh hsz
  rw [← eh] at hl1
  have hg : wpAny (model pw w) A (storeName (stEnv L) (Str.ofString "picked") (.ref s.heap.objs.size)) (fun _ s₂ => wpAny (model pw w) A (execs (stBodyDrop 4) (stEnv L)) Q E s₂) E s₁ := by
    refine sL (env := stEnv L) (U1.ns id hn) ?_
    intro s₂ U₂ hn₂
    have Ls : L < hs s := lt_of_ns hn
    have Dps : Dp < hs s := by obtain ⟨k, ho⟩ := hl; exact Heap.lt_size ho
    have neL : s.heap.objs.size ≠ L := Nat.ne_of_gt Ls
    have hs0 : hs s₀ ≤ hs s := U.size
    have V : Upd (fun b => b = L) s s₂ := U1.up.trans U₂
    have hN : hs s + 1 ≤ hs s₂ := by
      have := U₂.size
      rw [hsz] at this; exact this
    have hP₂ : PairsAre s₂.heap (fun a => P a ∧ a < hs s) pp pool := hP.bound.keep fun a p o e => V.get (hPa a p.1).2.1 e
    have F : StL s₀ s₂ (hs s + 1) L Dp s.heap.objs.size (setM m (Str.ofString "picked") (.ref s.heap.objs.size)) cell (pool, r, []) (fun a => P a ∧ a < hs s) := {
      hL := hL
      upd := U.trans (V.mono fun b e => e ▸ hL)
      cell := let ⟨t, e⟩ := hc; ⟨t, (if_neg (by decide)).trans e⟩
      rest := let ⟨t, e⟩ := hr; ⟨t, (if_neg (by decide)).trans e⟩
      pool := (if_neg (by decide)).trans hp
      picked := if_pos rfl
      hD := hs0
      hDp := hDp
      LN := Nat.lt_succ_of_lt Ls
      DN := Nat.lt_succ_self _
      DpN := Nat.lt_succ_of_lt Dps
      DL := neL
      DpL := DpL
      DpD := Nat.ne_of_lt Dps
      pl := ⟨[], hl1.at fun o e => U₂.get neL e, .nil⟩
      pp := ⟨pp, hl.at fun o e => V.get DpL e, hP₂⟩
      few := by simpa using few
      small := small
      apart := fun a p => ⟨(hPa a p.1).1, Nat.ne_of_lt p.2, (hPa a p.1).2.1, (hPa a p.1).2.2, Nat.lt_succ_of_lt p.2⟩ }
    have x1 := @st4 w A s₂ E s₀ (hs s + 1) L Dp s.heap.objs.size (setM m (Str.ofString "picked") (.ref s.heap.objs.size)) cell n t (pool, r, []) (fun a => P a ∧ a < hs s) Q hh B (Nat.le_succ_of_le hs0) hN F hn₂ ((if_neg (by decide)).trans hm) h0 hx (fun a p => Nat.lt_succ_of_lt p.2) h
    with_reducible exact x1
  exact hg
theorem sta2 {s₀ : Shared} {L Dp : Addr} {m} {cell n : Nat} {t : Tok} {pool : List Pr} {pp : List Value} {P : Addr → Prop} {Q : Flow → Shared → Prop} (hh : A.handled = none) (B : Base w s₀.heap) (U : Upd (fun b => hs s₀ ≤ b) s₀ s) (hn : s.heap.Ns L m) (hL : hs s₀ ≤ L)
    (hc : ∃ t, m (Str.ofString "cell") = some (.int (cell : Int) t)) (hm : m (Str.ofString "many") = some (.int (n : Int) t)) (hp : m (Str.ofString "pool") = some (.ref Dp)) (hDp : hs s₀ ≤ Dp) (DpL : Dp ≠ L)
    (hl : s.heap.PlainList Dp pp.toArray) (hP : PairsAre s.heap P pp pool) (hPa : ∀ a, P a → hs s₀ ≤ a ∧ a ≠ L ∧ a ≠ Dp) (few : pool.length ≤ 100) (small : cell < 10 ^ 9) (h0 : 0 < n) (hx : n ≤ pool.length)
    (h : FinSt s₀ Q (stRes (pickN n (pool, cell / 42, [])) cell)) :
    wpAny (model pw w) A (execs (stBodyDrop 2) (stEnv L)) Q E s := by
  obtain ⟨p0, p1, c2, p3, p4, p5, he⟩ := drop2
  rw [he]
  obtain ⟨tc, hc'⟩ := hc
  refine asg (wpAny_BinOp (nL (env := stEnv L) hn hc' (wpAny_Constant_int (floordiv_int (by decide) ?_ (.inl (PyProof.noPylong_small (by decide)))))))
  have e1 : (cell : Int).fdiv 42 = ((cell / 42 : Nat) : Int) := fdiv_nat cell 42
  rw [e1]
  have U1 : Upd noW s { s with toks := s.toks + 1 + 1 } := .toks
  generalize ({ s with toks := s.toks + 1 + 1 } : Shared) = s₁ at U1 ⊢
  refine sL (env := stEnv L) (U1.ns id hn) ?_
  intro s₂ U₂ hn₂
  have V : Upd (fun b => b = L) s s₂ := U1.up.trans U₂
  have x1 := @st3 w A s₂ E s₀ L Dp _ cell n (cell / 42) t pool pp P Q hh B (U.trans (V.mono fun b e => e ▸ hL)) hn₂ hL ⟨tc, (if_neg (by decide)).trans hc'⟩ ⟨_, if_pos rfl⟩ ((if_neg (by decide)).trans hm) ((if_neg (by decide)).trans hp) hDp DpL
    (hl.at fun o e => V.get DpL e) (hP.keep fun a p o e => V.get (hPa a p).2.1 e) hPa few (Nat.lt_of_le_of_lt (Nat.div_le_self _ _) small) h0 hx h
  with_reducible exact x1
end
end
end Mine
namespace Mine
open PySem PySem.W PySem.Calls PyProof.Rows
noncomputable section
noncomputable def famOk (k : Nat) : Bool :=
  let f := famL k
  (f.1.all fun i => decide (0 ≤ i) && decide (i ≤ 1114111)) && f.1.length == 8 && (famWords k).length == 8 && decide (f.2.length ≤ 1000) && decide ((Builtin.Str.partsBetween f.2 (Builtin.Str.occurrences f.2 (Str.ofString " ") 0 f.2.length (f.2.length + 1)) (Str.ofString " ").length).length ≤ 1000)
theorem famOk_all : ∀ k, k < 6 → famOk k = true := by
  have : ∀ j : Fin 6, famOk j.val = true := by decide +kernel
  exact fun k hk => this ⟨k, hk⟩
theorem strVals_at {l : List (Str × Tok)} {i : Nat} {v : Value} (h : (strValues l)[i]? = some v) : ∃ x t, v = .str x t ∧ (l.map (·.1))[i]? = some x := by
  unfold strValues at h
  rw [List.getElem?_map] at h
  obtain ⟨p, hp, rfl⟩ := Option.map_eq_some_iff.mp h
  exact ⟨p.1, p.2, rfl, by rw [List.getElem?_map, hp]; rfl⟩
noncomputable def compScope : List Stmt → Scope
  | .Assign _ (.ListComp _ _ sc _) _ :: _ => sc
  | _ => { kind := .module, names := [], isGenerator := false, isCoroutine := false }
noncomputable def stScope1 : Scope := compScope (stBodyDrop 1)
section
variable {w : World} {A : Around} {s : Shared} {E : Value → Shared → Prop} {env : Env}
theorem drop1 : ∃ (ps : List Pos) (cs : List Nat), stBodyDrop 1 = (.Assign [(.Name (Str.ofString "pool") (posN ps 0))] (.ListComp (.List [(.Call (.Name (Str.ofString "chr") (posN ps 1)) [(.Name (Str.ofString "sign") (posN ps 2))] [] (posN ps 3)), (.Name (Str.ofString "word") (posN ps 4))] (posN ps 5)) [⟨(.Tuple [(.Name (Str.ofString "sign") (posN ps 6)), (.Name (Str.ofString "word") (posN ps 7))] (natN cs 0) (posN ps 8)), (.Call (.Name (Str.ofString "zip") (posN ps 9)) [(.Name (Str.ofString "signs") (posN ps 10)), (.Call (.Attribute (.Name (Str.ofString "words") (posN ps 11)) (Str.ofString "split") (posN ps 12)) [(.Constant (.str (Str.ofString " ")) (natN cs 1) (posN ps 13))] [] (posN ps 14))] [] (posN ps 15)), [], 0⟩] stScope1 (posN ps 16)) (posN ps 17)) :: stBodyDrop 2 ∧
    (∀ L a b c, swapsWith (.ListComp a [⟨b, c, [], 0⟩] stScope1 (posN ps 16)) (some (.Name (Str.ofString "pool") (posN ps 0))) (posN ps 17).line (stEnv L) = pure true) ∧ ((posN ps 12).endLine == (posN ps 14).line) = true :=
  ⟨[_, _, _, _, _, _, _, _, _, _, _, _, _, _, _, _, _, _], [_, _], rfl, fun L a b c => by kernel_rfl, by kernel_rfl⟩
theorem st1 {s₀ : Shared} {L l1 : Addr} {m} {cell n k : Nat} {t u : Tok} {sv : List Value} {Q : Flow → Shared → Prop} (hh : A.handled = none) (B : Base w s₀.heap) (U : Upd (fun b => hs s₀ ≤ b) s₀ s) (hn : s.heap.Ns L m) (hL : hs s₀ ≤ L)
    (hc : ∃ t, m (Str.ofString "cell") = some (.int (cell : Int) t)) (hm : m (Str.ofString "many") = some (.int (n : Int) t)) (hp : m (Str.ofString "signs") = some (.ref l1)) (hw : m (Str.ofString "words") = some (.str (famL k).2 u)) (hl1 : hs s₀ ≤ l1) (l1L : l1 ≠ L)
    (hl : s.heap.PlainList l1 sv.toArray) (hi : IntsAre sv (famL k).1) (hk : k < 6) (small : cell < 10 ^ 9) (h0 : 0 < n) (hx : n ≤ 8)
    (h : FinSt s₀ Q (stRes (pickN n (poolOf k, cell / 42, [])) cell)) :
    wpAny (model pw w) A (execs (stBodyDrop 1) (stEnv L)) Q E s := by
  have ok := famOk_all k hk
  unfold famOk at ok
  simp only [Bool.and_eq_true, decide_eq_true_eq, beq_iff_eq] at ok
  obtain ⟨⟨⟨⟨ok1, ok2⟩, ok3⟩, ok4⟩, ok5⟩ := ok
  obtain ⟨ps, cs, he, hsw, hln⟩ := drop1
  rw [he]
  refine list_comp_to (cl := []) (hsw _ _ _ _) (by kernel_rfl) (by decide +kernel) (by kernel_rfl) (by decide +kernel) ?_
  refine call_ (trees := [(false, eval _ _), (false, eval _ _)]) (kts := []) rfl rfl ?_
  refine nB (env := stEnv L) (B.upd' U) (v := .type "zip") (fun P => by kernel_rfl) (fun P => by kernel_rfl) ?_
  refine PyProof.Rows.callWith_type rfl (evalArgs_plain (spliced_cons ?_))
  refine nL (env := stEnv L) hn hp (spliced_cons ?_)
  refine Call_method1 rfl rfl hln ?_
  refine nL (env := stEnv L) hn hw ?_
  refine ⟨"str", "str.split", PySem.F.plainAttrs_str, PySem.F.slot_str_split, PySem.F.type_str_split, typeIs_str _ _ _, (by rintro _ ⟨⟩), ?_⟩
  refine callWith_builtin rfl (evalArgs_plain (spliced_cons ?_))
  refine wpAny_Constant_str (k := 0) (pos := (posN ps 0)) (spliced_nil ?_)
  refine SCH.split1 (P := fun h' => s.heap.objs.size ≤ h'.objs.size ∧ ∀ b o, s.heap.get? b = some o → h'.get? b = some o) (fun h' ob q => ⟨Nat.le_trans q.1 (by rw [Heap.size_push]; exact Nat.le_succ _), fun b o e => Heap.get?_push_of_some _ (q.2 b o e)⟩) ⟨Nat.le_refl _, fun _ _ e => e⟩ (by kernel_rfl) ?_ (Nat.le_trans ok4 (Nat.le_trans (by decide) sz10k)) (Nat.le_trans ok5 (Nat.le_trans (by decide) sz10k))
  intro D2 l h' kk hl2 hP2 hL2
  have U1 : Upd noW s { s with heap := h', toks := kk } := Upd.of_heap hP2.1 fun b o _ e => hP2.2 b o e
  have eh : ({ s with heap := h', toks := kk } : Shared).heap = h' := rfl
  refine spliced_nil ?_
  generalize ({ s with heap := h', toks := kk } : Shared) = s₁ at U1 eh ⊢
  subst eh
  have hl₁ : s₁.heap.PlainList l1 sv.toArray := hl.at fun o e => U1.get id e
  have hn₁ := U1.ns id hn
  have D2L : D2 ≠ L := by
    rintro rfl
    obtain ⟨o, ho, hdata⟩ := hL2
    obtain ⟨o', es, ep, ho', hd, _⟩ := hn₁
    rw [ho] at ho'
    cases ho'
    simp [hd] at hdata
  refine zip_feed (hh := hh) hl₁.isList hL2 fun z fp wr St s₂ F st hfp hwr U₂ hit => ?_
  refine wpAny_mono hit (fun it s₃ q => ?_) fun _ _ q => q
  obtain ⟨rfl, rfl⟩ := q
  have hn₃ := U₂.ns id hn₁
  have V₃ : Upd (fun b => hs s₀ ≤ b) s₀ s₃ := (U.trans U1.up).trans U₂.up
  have z1 : hs s₀ ≤ hs s₁ := (U.trans (U1.up (W := fun b => hs s₀ ≤ b))).size
  have z3 : hs s₀ ≤ hs s₃ := V₃.size
  have wrO : ∀ b, (noW b ∨ b ∈ wr) → hs s₀ ≤ b := fun b q => q.elim (fun q => q.elim) fun q => Nat.le_trans z1 (hwr b q)
  have L₃ : L < hs s₃ := lt_of_ns hn₃
  have len1 : sv.length = 8 := by rw [IntsAre.len hi, ok2]
  have len2 : (strValues l).length = 8 := by
    have : (l.map (·.1)).length = 8 := by rw [hl2]; exact ok3
    unfold strValues; rw [List.length_map]; simpa using this
  have mn : min sv.toArray.size (strValues l).toArray.size = 8 := by rw [List.size_toArray, List.size_toArray, len1, len2]; rfl
  have pl8 : (poolOf k).length = 8 := by
    unfold poolOf
    rw [List.length_map, List.length_zip, ok2, ok3]; rfl
  refine ⟨fp, wr, _, St, _, _, noW, fun C D i ys s' => PairsAre s'.heap (fun a => hs s₃ ≤ a ∧ a ≠ C ∧ a ≠ D) ys ((poolOf k).take i), F _ _ _ _ _ _, ?_, st, fun b hb => (hfp b hb).2, ?_, fun b q => q.elim, ?_, ?_, ?_, ?_⟩
  · rw [mn]; decide
  · exact fun C => ⟨⟨by kernel_rfl, by kernel_rfl⟩, ⟨by kernel_rfl, by kernel_rfl⟩⟩
  · intro C D s' _ _ _ _; rw [List.take_zero]; exact .nil
  · intro C D i ys s s' hO U'
    refine hO.keep fun a p o e => U'.get (fun q => ?_) e
    rcases q with q | q | q
    · exact absurd (hfp a (F (Str.ofString "") (Str.ofString "") (posN ps 0) (posN ps 0) (posN ps 0) 0 |>.sub a q)).2 (Nat.not_lt.mpr p.1)
    · exact p.2.1 q
    · exact p.2.2 q
  · rintro C D i ys s₄ m₁ m₂ E' hC hD hCD hi' hO ⟨a, b, ha, hb, rfl⟩ hns hl4 U₄
    have V₄ : Upd (fun b => hs s₀ ≤ b) s₀ s₄ := V₃.trans (U₄.mono wrO)
    obtain ⟨ka, ta, hka, rfl⟩ := IntsAre.at' hi (i := i) (by simpa using ha)
    obtain ⟨x, tb, rfl, hxb⟩ := strVals_at (l := l) (i := i) (by simpa using hb)
    rw [hl2] at hxb
    have hxb' : (famWords k)[i]? = some x := hxb
    have hq : (poolOf k)[i]? = some (ka.toNat, tx x) := by
      unfold poolOf
      rw [List.getElem?_map, List.getElem?_zip_eq_some (z := (ka, x)) |>.mpr ⟨hka, hxb'⟩]; rfl
    have e : (poolOf k).take (i + 1) = (poolOf k).take i ++ [(ka.toNat, tx x)] := by
      rw [List.take_add_one, hq]; rfl
    have hr := List.all_eq_true.mp ok1 ka (List.mem_of_getElem? hka)
    simp only [Bool.and_eq_true, decide_eq_true_eq] at hr
    refine wpAny_tests_nil ?_
    simp only [if_true]
    refine wpAny_List (spliced_cons (callB1 (id := "chr") (B.upd' V₄) (fun P => by kernel_rfl) (fun P => by kernel_rfl) (nL hns (v := .int ka ta) (by (refine (if_neg (by decide)).trans ?_); exact if_pos rfl) (chr_of_range hr.1 hr.2 (spliced_cons (nL (s := { s₄ with toks := s₄.toks + 1 }) hns (v := .str x tb) (if_pos rfl) (spliced_nil ⟨(by show 2 ≤ sizeLine; exact Nat.le_trans (by decide) sz10k), ?_⟩)))))))
    have U5 : Upd noW s₄ { s₄ with heap := s₄.heap.push { cls := .type "list", data := .seq [Value.str ⟨#[ka.toNat]⟩ s₄.toks, .str x tb].toArray }, toks := s₄.toks + 1 } := .push
    have hnew : (s₄.heap.push { cls := .type "list", data := .seq [Value.str ⟨#[ka.toNat]⟩ s₄.toks, .str x tb].toArray }).PlainList s₄.heap.objs.size [Value.str ⟨#[ka.toNat]⟩ s₄.toks, .str x tb].toArray := ⟨0, Heap.get?_push_size _ rfl⟩
    refine ⟨U5, ?_⟩
    rw [e]
    have C4 : C < hs s₄ := lt_of_ns hns
    have D4 : D < hs s₄ := by obtain ⟨_, ho⟩ := hl4; exact Heap.lt_size ho
    exact (hO.keep fun a p o e => U5.get id e).snoc (a := s₄.heap.objs.size) ⟨U₄.size, Nat.ne_of_gt C4, Nat.ne_of_gt D4⟩ hnew
  · intro C D ys s₄ m₄ hC hD hCD hO hy hl4 hns U₄
    rw [mn] at hO hy
    rw [← pl8, List.take_length] at hO
    have CL : L ≠ C := Nat.ne_of_lt (Nat.lt_of_lt_of_le L₃ hC)
    have DL : D ≠ L := Nat.ne_of_gt (Nat.lt_of_lt_of_le L₃ hD)
    have hLw : ¬ (noW L ∨ L ∈ wr) := fun q => q.elim id fun q => absurd (lt_of_ns hn₁) (Nat.not_lt.mpr (hwr L q))
    have hn₄ : s₄.heap.Ns L m := U₄.ns hLw hn₃
    refine sL (env := stEnv L) hn₄ ?_
    intro s₅ U₅ hn₅
    refine ⟨⟨m₄, U₅.ns (fun q => CL q.symm) hns⟩, fun s₆ U₆ => ?_⟩
    have V₅ : Upd (fun b => hs s₀ ≤ b) s₀ s₆ := ((V₃.trans (U₄.mono wrO)).trans (U₅.mono fun b q => q ▸ hL)).trans (U₆.mono fun b q => q ▸ Nat.le_trans z3 hC)
    have hl6 : s₆.heap.PlainList D ys.toArray := hl4.at fun o e => U₆.get (fun q => hCD q.symm) (U₅.get DL e)
    have hP6 : PairsAre s₆.heap (fun a => hs s₃ ≤ a ∧ a ≠ C ∧ a ≠ D) ys (poolOf k) := hO.keep fun a p o e => U₆.get p.2.1 (U₅.get (fun q => absurd (q ▸ L₃ : a < hs s₃) (Nat.not_lt.mpr p.1)) e)
    have x1 := @sta2 w A s₆ E s₀ L D _ cell n t (poolOf k) ys _ Q hh B V₅ (U₆.ns CL hn₅) hL (by obtain ⟨tc, ec⟩ := hc; exact ⟨tc, (if_neg (by decide)).trans ec⟩) ((if_neg (by decide)).trans hm) (if_pos rfl) (Nat.le_trans z3 hD) DL hl6 hP6 (fun a p => ⟨Nat.le_trans z3 p.1, Nat.ne_of_gt (Nat.lt_of_lt_of_le L₃ p.1), p.2.2⟩) (by rw [pl8]; decide) small h0 (by rw [pl8]; exact hx) h
    with_reducible exact x1
end
end
end Mine
namespace Mine
open PySem PySem.W PySem.Calls PyProof.Rows
noncomputable section
section
variable {w : World} {A : Around} {s : Shared} {E : Value → Shared → Prop} {env : Env}
theorem drop0 : ∃ (ps : List Pos) (cs : List Nat), stBodyDrop 0 = (.Assign [(.Tuple [(.Name (Str.ofString "signs") (posN ps 0)), (.Name (Str.ofString "words") (posN ps 1))] (natN cs 0) (posN ps 2))] (.Call (.Name (Str.ofString "_law_family") (posN ps 3)) [(.BinOp (.BinOp (.Name (Str.ofString "cell") (posN ps 4)) .FloorDiv (.Constant (.int 7) (natN cs 1) (posN ps 5)) (posN ps 6)) .Mod (.Constant (.int 6) (natN cs 2) (posN ps 7)) (posN ps 8))] [] (posN ps 9)) (posN ps 10)) :: stBodyDrop 1 :=
   ⟨[_, _, _, _, _, _, _, _, _, _, _], [_, _, _], rfl⟩
theorem sta0 {s₀ : Shared} {L : Addr} {m} {cell n : Nat} {t : Tok} {Q : Flow → Shared → Prop} (hr : Room 6 A) (hh : A.handled = none) (B : Base w s₀.heap) (U : Upd (fun b => hs s₀ ≤ b) s₀ s) (hn : s.heap.Ns L m) (hL : hs s₀ ≤ L)
    (hc : ∃ t, m (Str.ofString "cell") = some (.int (cell : Int) t)) (hm : m (Str.ofString "many") = some (.int (n : Int) t)) (small : cell < 10 ^ 9) (h0 : 0 < n) (hx : n ≤ 8)
    (h : FinSt s₀ Q (stRes (pickN n (poolOf (cell / 7 % 6), cell / 42, [])) cell)) :
    wpAny (model pw w) A (execs (stBodyDrop 0) (stEnv L)) Q E s := by
  obtain ⟨ps, cs, he⟩ := drop0
  rw [he]
  obtain ⟨tc, hc'⟩ := hc
  refine wpAny_execs_cons (wpAny_Assign_stores ?_ (by kernel_rfl) (by kernel_rfl))
  refine callG1 (env := stEnv L) okFam (B.upd' U) (fun P => by kernel_rfl) ?_
  refine wpAny_BinOp (wpAny_BinOp (nL (env := stEnv L) hn hc' (wpAny_Constant_int (floordiv_int (by decide) ?_ (.inl (PyProof.noPylong_small (by decide)))))))
  have e1 : (cell : Int).fdiv 7 = ((cell / 7 : Nat) : Int) := fdiv_nat cell 7
  rw [e1]
  refine wpAny_Constant_int (mod_int (by decide) ?_)
  have e2 : ((cell / 7 : Nat) : Int).fmod 6 = ((cell / 7 % 6 : Nat) : Int) := fmod_nat (cell / 7) 6
  rw [e2]
  have U1 : Upd noW s { s with toks := s.toks + 1 + 1 + 1 + 1 } := .toks
  generalize ({ s with toks := s.toks + 1 + 1 + 1 + 1 } : Shared) = s₁ at U1 ⊢
  have V₁ : Upd (fun b => hs s₀ ≤ b) s₀ s₁ := U.trans U1.up
  refine ⟨B.upd' V₁, fam_call (Nat.mod_lt _ (by decide)) (hr.le (by decide)) (B.upd' V₁) fun T l vs t' s₂ hl1 hlT U₂ hT hl hi => ?_⟩
  have hn₂ := U₂.ns id (U1.ns id hn)
  have V₂ : Upd (fun b => hs s₀ ≤ b) s₀ s₂ := V₁.trans U₂.up
  show wpAny _ _ (assign (.Tuple [(.Name (Str.ofString "signs") (posN ps 0)), (.Name (Str.ofString "words") (posN ps 1))] (natN cs 0) (posN ps 2)) (stEnv L) (.ref T)) _ _ _
  refine with_hs (wpAny_assign_Tuple hh hT rfl rfl fun h₃ hx₃ => ?_)
  have Ls : L ≠ s₂.heap.objs.size := Nat.ne_of_lt (lt_of_ns hn₂)
  have hn₃ : h₃.Ns L m := hn₂.at' fun o e => hx₃ _ _ Ls e
  show wpAny _ _ (assignInOrder [assign (.Name (Str.ofString "signs") (posN ps 0)) (stEnv L), assign (.Name (Str.ofString "words") (posN ps 1)) (stEnv L)] [.ref l, .str (famL (cell / 7 % 6)).2 t']) _ _ _
  refine assignInOrder_cons (wpAny_assign_Name (wpAny_storeName_local (env := stEnv L) (by kernel_rfl) hn₃ (fun h₄ hn₄ hs₄ => ?_) (by kernel_rfl)))
  refine assignInOrder_cons (wpAny_assign_Name (wpAny_storeName_local (env := stEnv L) (by kernel_rfl) hn₄ (fun h₅ hn₅ hs₅ => assignInOrder_nil fun hsz₅ => ?_) (by kernel_rfl)))
  have old : ∀ b o, b ≠ L → s₂.heap.get? b = some o → h₅.get? b = some o := fun b o nb e => hs₅.extBut _ _ nb (hs₄.extBut _ _ nb (hx₃ _ _ (Nat.ne_of_lt (Heap.lt_size e)) e))
  have lL : l ≠ L := Nat.ne_of_gt (Nat.lt_of_lt_of_le (lt_of_ns (U1.ns id hn)) hl1)
  have hl5 : h₅.PlainList l vs.toArray := hl.at fun o e => old _ _ lL e
  have fin : ∀ s₆ : Shared, Upd (fun b => b = L) s₂ s₆ → s₆.heap = h₅ → wpAny (model pw w) A (execs (stBodyDrop 1) (stEnv L)) Q E s₆ := by
    intro s₆ U₆ eh
    subst eh
    have x1 := @st1 w A s₆ E s₀ L l _ cell n (cell / 7 % 6) t t' vs Q hh B (V₂.trans (U₆.mono fun b q => q ▸ hL)) hn₅ hL ⟨tc, (if_neg (by decide)).trans ((if_neg (by decide)).trans hc')⟩ ((if_neg (by decide)).trans ((if_neg (by decide)).trans hm)) ((if_neg (by decide)).trans (if_pos rfl)) (if_pos rfl) (Nat.le_trans V₁.size hl1) lL hl5 hi (Nat.mod_lt _ (by decide)) small h0 hx h
    with_reducible exact x1
  exact fin _ (Upd.of_heap (tk := s₂.toks + 1 + 1) hsz₅ fun b o nb e => old b o nb e) rfl
theorem stBody_all : bodyOf fdStock = stBodyDrop 0 := rfl
/-- _law_stock as a whole -/
theorem stock_call {Q : Value → Shared → Prop} {cell n : Nat} {t u : Tok} (hr : Room 10 A) (hh : A.handled = none) (B : Base w s.heap) (small : cell < 10 ^ 9) (h0 : 0 < n) (hx : n ≤ 8)
    (h : ∀ s' D ps, hs s ≤ D → Upd noW s s' → s'.heap.PlainList D ps.toArray → PairsAre s'.heap (fun a => hs s ≤ a ∧ a ≠ D) ps (stockOf cell n) → Q (.ref D) s') :
    wpAny (model pw w) A (call (.ref 140) [.int (cell : Int) t, .int (n : Int) u] []) Q E s := by
  refine fn_call okStock (binds := [(Str.ofString "cell", .int (cell : Int) t), (Str.ofString "many", .int (n : Int) u)]) hr.depth B (.of_eq (by kernel_rfl)) (by kernel_rfl) (by kernel_rfl) (fun L s₁ hL U hn => ?_)
  have hr' := hr.deeper (n := 9) (callEnv fdStock L 140)
  have x1 := @sta0 w (A.deeper (callEnv fdStock L 140)) s₁ (fun _ _ => False) s L _ cell n u (fun f s' => Q (retv f) s') (hr'.le (by decide)) hh B U.up hn hL ⟨t, rfl⟩ rfl small h0 hx (fun s' D ps hD U' hl hP => h s' D ps hD (Upd.fresh (U'.mono fun b q => .inr q)) hl hP)
  rw [← stBody_all] at x1
  with_reducible exact x1
end
end
end Mine
namespace Mine
open PySem PySem.W PySem.Calls PyProof.Rows
open PySem.SeqAt PySem.MeetsSeq PySem.MeetsSeq2 PySem.MeetsSeq3
open PySem.AutoSeq1 (wpAny_loadPart')
noncomputable section
noncomputable def RcOp (op : CmpOp) (A : Around) (s : Shared) (y x : Value) (b : Bool) : Prop :=
  ∀ (prog : Program) (w : World) (E : Value → Shared → Prop) (Q : Value → Shared → Prop), Q (.bool b) s → wpAny (model prog w) A (richCompare op y x) Q E s
/-- item by item from i on -/
noncomputable def lexAt (e f : Nat → Bool) (z : Bool) : Nat → Nat → Bool
  | 0, _ => z
  | k + 1, i => if e i then lexAt e f z k (i + 1) else f i
theorem lt_loopAt (l b : Addr) (items items2 : Array Value) (n n2 : Nat) (dd dd2 : Option Addr) (sl sl2 : Array (Option Value)) (e f : Nat → Bool) (k : Nat) :
    ∀ i : Nat, min items.size items2.size - i = k → i ≤ min items.size items2.size → Meets (Builtin.«list.__eq__.loop» ⟨[.ref l, .ref b, rawInt i, rawInt 0], []⟩)
      (fun A R s => s.heap.get? l = some { cls := .type "list", dict := dd, data := .seq items n, slots := sl } ∧ s.heap.get? b = some { cls := .type "list", dict := dd2, data := .seq items2 n2, slots := sl2 } ∧
        (∀ j (h1 : j < items.size) (h2 : j < items2.size), EqAt A.in1 s items[j] items2[j] (e j)) ∧ (∀ j (h1 : j < items.size) (h2 : j < items2.size), RcOp .Lt A.in1 s items[j] items2[j] (f j)) ∧
        R (.ok (.ret (.bool (lexAt e f (decide (items.size < items2.size)) k i)))) s) := by
  induction k with
  | zero =>
    intro i hk hi prog w A R s h
    obtain ⟨hp, g, d, tk, os⟩ := s; obtain ⟨hl, hb, he, hf, h⟩ := h
    wp_walk using wpAny_loadPart' hl, wpAny_loadPart' hb
    by_cases h1 : i < items.size
    · have hi1 : items[((i : Nat) : Int).toNat]? = some items[i] := by simp [h1]
      have hi2 : items2[((i : Nat) : Int).toNat]? = none := by simp; omega
      rw [hi1, hi2]
      wp_walk using wpAny_loadPart' hl, wpAny_loadPart' hb
      exact h
    · have hi1 : items[((i : Nat) : Int).toNat]? = none := by simp; omega
      rw [hi1]
      wp_walk using wpAny_loadPart' hl, wpAny_loadPart' hb
      exact h
  | succ k ih =>
    intro i hk hi prog w A R s h
    obtain ⟨hp, g, d, tk, os⟩ := s; obtain ⟨hl, hb, he, hf, h⟩ := h
    wp_walk using wpAny_loadPart' hl, wpAny_loadPart' hb
    have hlt : i < items.size := by omega
    have hlt2 : i < items2.size := by omega
    have hi1 : items[((i : Nat) : Int).toNat]? = some items[i] := by simp [hlt]
    have hi2 : items2[((i : Nat) : Int).toNat]? = some items2[i] := by simp [hlt2]
    have hc : ((i : Int) + 1) = ((i + 1 : Nat) : Int) := by push_cast; rfl
    unfold lexAt at h
    rw [hi1, hi2]
    refine wpAny_bind (he i hlt hlt2 prog w _ _ ?_)
    cases hb' : e i with
    | true =>
      rw [hb', if_pos rfl] at h
      wp_walk
      rw [hc]
      exact ⟨plainId_quiet plain_eq_loop _, codeAny_builtin entry_eq_loop (by
        rw [Around.under_plainId plain_eq_loop _]
        exact ih (i + 1) (by omega) (by omega) prog w A R _ ⟨hl, hb, he, hf, h⟩)⟩
    | false =>
      rw [hb', if_neg (by decide)] at h
      wp_walk using wpAny_loadPart' hl, wpAny_loadPart' hb
      rw [hi1, hi2]
      refine wpAny_bind (hf i hlt hlt2 prog w _ _ ?_)
      wp_walk
      exact h
theorem le_loopAt (l b : Addr) (items items2 : Array Value) (n n2 : Nat) (dd dd2 : Option Addr) (sl sl2 : Array (Option Value)) (e f : Nat → Bool) (k : Nat) :
    ∀ i : Nat, min items.size items2.size - i = k → i ≤ min items.size items2.size → Meets (Builtin.«list.__eq__.loop» ⟨[.ref l, .ref b, rawInt i, rawInt 1], []⟩)
      (fun A R s => s.heap.get? l = some { cls := .type "list", dict := dd, data := .seq items n, slots := sl } ∧ s.heap.get? b = some { cls := .type "list", dict := dd2, data := .seq items2 n2, slots := sl2 } ∧
        (∀ j (h1 : j < items.size) (h2 : j < items2.size), EqAt A.in1 s items[j] items2[j] (e j)) ∧ (∀ j (h1 : j < items.size) (h2 : j < items2.size), RcOp .LtE A.in1 s items[j] items2[j] (f j)) ∧
        R (.ok (.ret (.bool (lexAt e f (decide (items.size ≤ items2.size)) k i)))) s) := by
  induction k with
  | zero =>
    intro i hk hi prog w A R s h
    obtain ⟨hp, g, d, tk, os⟩ := s; obtain ⟨hl, hb, he, hf, h⟩ := h
    wp_walk using wpAny_loadPart' hl, wpAny_loadPart' hb
    by_cases h1 : i < items.size
    · have hi1 : items[((i : Nat) : Int).toNat]? = some items[i] := by simp [h1]
      have hi2 : items2[((i : Nat) : Int).toNat]? = none := by simp; omega
      rw [hi1, hi2]
      wp_walk using wpAny_loadPart' hl, wpAny_loadPart' hb
      exact h
    · have hi1 : items[((i : Nat) : Int).toNat]? = none := by simp; omega
      rw [hi1]
      wp_walk using wpAny_loadPart' hl, wpAny_loadPart' hb
      exact h
  | succ k ih =>
    intro i hk hi prog w A R s h
    obtain ⟨hp, g, d, tk, os⟩ := s; obtain ⟨hl, hb, he, hf, h⟩ := h
    wp_walk using wpAny_loadPart' hl, wpAny_loadPart' hb
    have hlt : i < items.size := by omega
    have hlt2 : i < items2.size := by omega
    have hi1 : items[((i : Nat) : Int).toNat]? = some items[i] := by simp [hlt]
    have hi2 : items2[((i : Nat) : Int).toNat]? = some items2[i] := by simp [hlt2]
    have hc : ((i : Int) + 1) = ((i + 1 : Nat) : Int) := by push_cast; rfl
    unfold lexAt at h
    rw [hi1, hi2]
    refine wpAny_bind (he i hlt hlt2 prog w _ _ ?_)
    cases hb' : e i with
    | true =>
      rw [hb', if_pos rfl] at h
      wp_walk
      rw [hc]
      exact ⟨plainId_quiet plain_eq_loop _, codeAny_builtin entry_eq_loop (by
        rw [Around.under_plainId plain_eq_loop _]
        exact ih (i + 1) (by omega) (by omega) prog w A R _ ⟨hl, hb, he, hf, h⟩)⟩
    | false =>
      rw [hb', if_neg (by decide)] at h
      wp_walk using wpAny_loadPart' hl, wpAny_loadPart' hb
      rw [hi1, hi2]
      refine wpAny_bind (hf i hlt hlt2 prog w _ _ ?_)
      wp_walk
      exact h
theorem list_ltAt (l b : Addr) (items items2 : Array Value) (n n2 : Nat) (dd dd2 : Option Addr) (sl sl2 : Array (Option Value)) (e f : Nat → Bool) :
    Meets (Builtin.«list.__lt__» ⟨[.ref l, .ref b], []⟩)
      (fun A R s => s.heap.get? l = some { cls := .type "list", dict := dd, data := .seq items n, slots := sl } ∧ s.heap.get? b = some { cls := .type "list", dict := dd2, data := .seq items2 n2, slots := sl2 } ∧
        (∀ j (h1 : j < items.size) (h2 : j < items2.size), EqAt A.in1 s items[j] items2[j] (e j)) ∧ (∀ j (h1 : j < items.size) (h2 : j < items2.size), RcOp .Lt A.in1 s items[j] items2[j] (f j)) ∧
        R (.ok (.ret (.bool (lexAt e f (decide (items.size < items2.size)) (min items.size items2.size) 0)))) s) := by
  intro prog w A R s h
  obtain ⟨hp, g, d, tk, os⟩ := s; obtain ⟨hl, hb, he, hf, h⟩ := h
  have f3 := AutoSeq1.sub_list_list
  wp_walk using wpAny_loadPart' hl, wpAny_loadPart' hb
  exact ⟨plainId_quiet plain_eq_loop _, codeAny_builtin entry_eq_loop (by
    rw [Around.under_plainId plain_eq_loop _]
    exact lt_loopAt l b items items2 n n2 dd dd2 sl sl2 e f _ 0 (by simp) (Nat.zero_le _) prog w A R _ ⟨hl, hb, he, hf, h⟩)⟩
theorem list_leAt (l b : Addr) (items items2 : Array Value) (n n2 : Nat) (dd dd2 : Option Addr) (sl sl2 : Array (Option Value)) (e f : Nat → Bool) :
    Meets (Builtin.«list.__le__» ⟨[.ref l, .ref b], []⟩)
      (fun A R s => s.heap.get? l = some { cls := .type "list", dict := dd, data := .seq items n, slots := sl } ∧ s.heap.get? b = some { cls := .type "list", dict := dd2, data := .seq items2 n2, slots := sl2 } ∧
        (∀ j (h1 : j < items.size) (h2 : j < items2.size), EqAt A.in1 s items[j] items2[j] (e j)) ∧ (∀ j (h1 : j < items.size) (h2 : j < items2.size), RcOp .LtE A.in1 s items[j] items2[j] (f j)) ∧
        R (.ok (.ret (.bool (lexAt e f (decide (items.size ≤ items2.size)) (min items.size items2.size) 0)))) s) := by
  intro prog w A R s h
  obtain ⟨hp, g, d, tk, os⟩ := s; obtain ⟨hl, hb, he, hf, h⟩ := h
  have f3 := AutoSeq1.sub_list_list
  wp_walk using wpAny_loadPart' hl, wpAny_loadPart' hb
  exact ⟨plainId_quiet plain_eq_loop _, codeAny_builtin entry_eq_loop (by
    rw [Around.under_plainId plain_eq_loop _]
    exact le_loopAt l b items items2 n n2 dd dd2 sl sl2 e f _ 0 (by simp) (Nat.zero_le _) prog w A R _ ⟨hl, hb, he, hf, h⟩)⟩
end
end Mine
namespace Mine
open PySem PySem.W PySem.Calls PyProof.Rows
open PySem.SeqAt PySem.MeetsSeq
noncomputable section
noncomputable def ltI : List Int → List Int → Bool
  | a :: x, b :: y => if a = b then ltI x y else decide (a < b)
  | x, y => decide (x.length < y.length)
noncomputable def leI : List Int → List Int → Bool
  | a :: x, b :: y => if a = b then leI x y else decide (a ≤ b)
  | x, y => decide (x.length ≤ y.length)
noncomputable abbrev eqF (xs ys : List Int) (j : Nat) : Bool := xs.getD j 0 == ys.getD j 0
theorem lex_ltI : ∀ (k : Nat) (xs ys : List Int) (i : Nat), min xs.length ys.length - i = k → i ≤ min xs.length ys.length → lexAt (eqF xs ys) (fun j => decide (xs.getD j 0 < ys.getD j 0)) (decide (xs.length < ys.length)) k i = ltI (xs.drop i) (ys.drop i)
  | 0, xs, ys, i, hk, hi => by
    show decide _ = _
    have h : xs.drop i = [] ∨ ys.drop i = [] := by
      by_cases q : xs.length ≤ i
      · exact .inl (List.drop_eq_nil_of_le q)
      · exact .inr (List.drop_eq_nil_of_le (by omega))
    have e : ltI (xs.drop i) (ys.drop i) = decide ((xs.drop i).length < (ys.drop i).length) := by
      rcases h with h | h <;> rw [h] <;> first | rfl | (cases xs.drop i <;> rfl)
    rw [e, List.length_drop, List.length_drop]
    by_cases q : xs.length < ys.length
    · rw [decide_eq_true q, decide_eq_true (by omega)]
    · rw [decide_eq_false q, decide_eq_false (by omega)]
  | k + 1, xs, ys, i, hk, hi => by
    have h1 : i < xs.length := by omega
    have h2 : i < ys.length := by omega
    have e1 : xs.getD i 0 = xs[i] := by rw [List.getD_eq_getElem?_getD, List.getElem?_eq_getElem h1]; rfl
    have e2 : ys.getD i 0 = ys[i] := by rw [List.getD_eq_getElem?_getD, List.getElem?_eq_getElem h2]; rfl
    rw [List.drop_eq_getElem_cons h1, List.drop_eq_getElem_cons h2]
    unfold lexAt ltI
    rw [lex_ltI k xs ys (i + 1) (by omega) (by omega)]
    unfold eqF
    rw [e1, e2]
    by_cases q : xs[i] = ys[i]
    · rw [if_pos q, if_pos (by rw [q]; exact beq_self_eq_true _)]
    · rw [if_neg q, if_neg (by simpa using q)]
theorem lex_leI : ∀ (k : Nat) (xs ys : List Int) (i : Nat), min xs.length ys.length - i = k → i ≤ min xs.length ys.length → lexAt (eqF xs ys) (fun j => decide (xs.getD j 0 ≤ ys.getD j 0)) (decide (xs.length ≤ ys.length)) k i = leI (xs.drop i) (ys.drop i)
  | 0, xs, ys, i, hk, hi => by
    show decide _ = _
    have h : xs.drop i = [] ∨ ys.drop i = [] := by
      by_cases q : xs.length ≤ i
      · exact .inl (List.drop_eq_nil_of_le q)
      · exact .inr (List.drop_eq_nil_of_le (by omega))
    have e : leI (xs.drop i) (ys.drop i) = decide ((xs.drop i).length ≤ (ys.drop i).length) := by
      rcases h with h | h <;> rw [h] <;> first | rfl | (cases xs.drop i <;> rfl)
    rw [e, List.length_drop, List.length_drop]
    by_cases q : xs.length ≤ ys.length
    · rw [decide_eq_true q, decide_eq_true (by omega)]
    · rw [decide_eq_false q, decide_eq_false (by omega)]
  | k + 1, xs, ys, i, hk, hi => by
    have h1 : i < xs.length := by omega
    have h2 : i < ys.length := by omega
    have e1 : xs.getD i 0 = xs[i] := by rw [List.getD_eq_getElem?_getD, List.getElem?_eq_getElem h1]; rfl
    have e2 : ys.getD i 0 = ys[i] := by rw [List.getD_eq_getElem?_getD, List.getElem?_eq_getElem h2]; rfl
    rw [List.drop_eq_getElem_cons h1, List.drop_eq_getElem_cons h2]
    unfold lexAt leI
    rw [lex_leI k xs ys (i + 1) (by omega) (by omega)]
    unfold eqF
    rw [e1, e2]
    by_cases q : xs[i] = ys[i]
    · rw [if_pos q, if_pos (by rw [q]; exact beq_self_eq_true _)]
    · rw [if_neg q, if_neg (by simpa using q)]
theorem cons_lt_iff' {a b : Nat} {x y : List Nat} : (a :: x < b :: y) ↔ a < b ∨ (a = b ∧ x < y) := List.cons_lt_cons_iff
theorem ltI_zs : ∀ x y : List Nat, ltI (zs x) (zs y) = decide (x < y)
  | [], [] => by simp [zs, ltI]
  | [], _ :: _ => by simp [zs, ltI]
  | _ :: _, [] => by simp [zs, ltI]
  | a :: x, b :: y => by
    have ih := ltI_zs x y
    show (if (Int.ofNat a) = Int.ofNat b then ltI (zs x) (zs y) else decide (Int.ofNat a < Int.ofNat b)) = _
    rw [ih]
    by_cases q : a = b
    · subst q; rw [if_pos rfl]; simp
    · rw [if_neg (fun e => q (Int.ofNat.inj e))]
      have : (a :: x < b :: y) ↔ a < b := by rw [cons_lt_iff']; simp [q]
      by_cases r : a < b
      · rw [decide_eq_true (this.mpr r), decide_eq_true (by show ((a : Int) < b); omega)]
      · rw [decide_eq_false (fun z => r (this.mp z)), decide_eq_false (by show ¬ ((a : Int) < b); omega)]
theorem leI_zs : ∀ x y : List Nat, leI (zs x) (zs y) = !decide (y < x)
  | [], [] => by simp [zs, leI]
  | [], _ :: _ => by simp [zs, leI]
  | _ :: _, [] => by simp [zs, leI]
  | a :: x, b :: y => by
    have ih := leI_zs x y
    show (if (Int.ofNat a) = Int.ofNat b then leI (zs x) (zs y) else decide (Int.ofNat a ≤ Int.ofNat b)) = _
    rw [ih]
    by_cases q : a = b
    · subst q; rw [if_pos rfl]; simp
    · rw [if_neg (fun e => q (Int.ofNat.inj e))]
      have : (b :: y < a :: x) ↔ b < a := by rw [cons_lt_iff']; simp [Ne.symm q]
      by_cases r : b < a
      · rw [decide_eq_true (this.mpr r), decide_eq_false (by show ¬ ((a : Int) ≤ b); omega)]; rfl
      · rw [decide_eq_false (fun z => r (this.mp z)), decide_eq_true (by show ((a : Int) ≤ b); omega)]; rfl
section
variable {prog : Program} {w : World} {A : Around} {s : Shared} {E : Value → Shared → Prop}
theorem ints_get {vs : List Value} {xs : List Int} (h : IntsAre vs xs) (j : Nat) (hj : j < vs.toArray.size) : ∃ t, vs.toArray[j] = .int (xs.getD j 0) t := by
  have hj' : j < vs.length := by simpa using hj
  obtain ⟨k, t, hk, hv⟩ := IntsAre.at' h (List.getElem?_eq_getElem hj')
  refine ⟨t, ?_⟩
  have e : xs.getD j 0 = k := by rw [List.getD_eq_getElem?_getD, hk]; rfl
  rw [e, ← hv]; simp
theorem rc_lt {a b : Int} {t u : Tok} : RcOp .Lt A s (.int a t) (.int b u) (decide (a < b)) := fun prog w E Q h => PyProof.Rows.lt_int h
theorem rc_le {a b : Int} {t u : Tok} : RcOp .LtE A s (.int a t) (.int b u) (decide (a ≤ b)) := fun prog w E Q h => PyProof.Rows.le_int h
theorem call_lt_ints {a b : Addr} {xs ys : List Value} {ns ms : List Nat} {Q : Value → Shared → Prop} (ha : s.heap.PlainList a xs.toArray) (hb : s.heap.PlainList b ys.toArray) (hi : IntsAre xs (zs ns)) (hj : IntsAre ys (zs ms)) (h : Q (.bool (decide (ns < ms))) s) :
    wpAny (model prog w) A (call (.builtin "list.__lt__") [.ref a, .ref b]) Q E s := by
  obtain ⟨n, ho⟩ := ha
  obtain ⟨n2, ho2⟩ := hb
  refine call_meets PySem.F.slot_list_lt ⟨_, ho, rfl⟩ PySem.F.entry_list_lt (PySem.F.args_list_lt_2 _ _) (list_ltAt a b xs.toArray ys.toArray n n2 none none #[] #[] (eqF (zs ns) (zs ms)) (fun j => decide ((zs ns).getD j 0 < (zs ms).getD j 0))) ⟨ho, ho2, fun j h1 h2 => ?_, fun j h1 h2 => ?_, ?_⟩
  · obtain ⟨t, e⟩ := ints_get hi j h1
    obtain ⟨u, e'⟩ := ints_get hj j h2
    rw [e, e']; exact (EqGives.int _ _ _ _).at _ _
  · obtain ⟨t, e⟩ := ints_get hi j h1
    obtain ⟨u, e'⟩ := ints_get hj j h2
    rw [e, e']; exact rc_lt
  · have e : lexAt (eqF (zs ns) (zs ms)) (fun j => decide ((zs ns).getD j 0 < (zs ms).getD j 0)) (decide (xs.toArray.size < ys.toArray.size)) (min xs.toArray.size ys.toArray.size) 0 = decide (ns < ms) := by
      have l1 : xs.toArray.size = (zs ns).length := by rw [List.size_toArray, IntsAre.len hi]
      have l2 : ys.toArray.size = (zs ms).length := by rw [List.size_toArray, IntsAre.len hj]
      rw [l1, l2, lex_ltI _ _ _ 0 (by simp) (Nat.zero_le _), List.drop_zero, List.drop_zero, ltI_zs]
    rw [e]; exact h
theorem lt_ints {a b : Addr} {xs ys : List Value} {ns ms : List Nat} {Q : Value → Shared → Prop} (ha : s.heap.PlainList a xs.toArray) (hb : s.heap.PlainList b ys.toArray) (hi : IntsAre xs (zs ns)) (hj : IntsAre ys (zs ms)) (hu : A.units < cLine) (h : Q (.bool (decide (ns < ms))) s) :
    wpAny (model prog w) A (compareOp .Lt (.ref a) (.ref b)) Q E s := by
  show wpAny _ _ (richCompare .Lt (.ref a) (.ref b)) Q E s
  exact wpAny_richCompare_same_room (op := .Lt) ha.isList.typeIs hb.isList.typeIs PySem.F.slot_list_lt (call_lt_ints ha hb hi hj ⟨(fun x => nomatch x), h⟩) hu
theorem call_le_ints {a b : Addr} {xs ys : List Value} {ns ms : List Nat} {Q : Value → Shared → Prop} (ha : s.heap.PlainList a xs.toArray) (hb : s.heap.PlainList b ys.toArray) (hi : IntsAre xs (zs ns)) (hj : IntsAre ys (zs ms)) (h : Q (.bool (!decide (ms < ns))) s) :
    wpAny (model prog w) A (call (.builtin "list.__le__") [.ref a, .ref b]) Q E s := by
  obtain ⟨n, ho⟩ := ha
  obtain ⟨n2, ho2⟩ := hb
  refine call_meets PySem.F.slot_list_le ⟨_, ho, rfl⟩ PySem.F.entry_list_le (PySem.F.args_list_le_2 _ _) (list_leAt a b xs.toArray ys.toArray n n2 none none #[] #[] (eqF (zs ns) (zs ms)) (fun j => decide ((zs ns).getD j 0 ≤ (zs ms).getD j 0))) ⟨ho, ho2, fun j h1 h2 => ?_, fun j h1 h2 => ?_, ?_⟩
  · obtain ⟨t, e⟩ := ints_get hi j h1
    obtain ⟨u, e'⟩ := ints_get hj j h2
    rw [e, e']; exact (EqGives.int _ _ _ _).at _ _
  · obtain ⟨t, e⟩ := ints_get hi j h1
    obtain ⟨u, e'⟩ := ints_get hj j h2
    rw [e, e']; exact rc_le
  · have e : lexAt (eqF (zs ns) (zs ms)) (fun j => decide ((zs ns).getD j 0 ≤ (zs ms).getD j 0)) (decide (xs.toArray.size ≤ ys.toArray.size)) (min xs.toArray.size ys.toArray.size) 0 = !decide (ms < ns) := by
      have l1 : xs.toArray.size = (zs ns).length := by rw [List.size_toArray, IntsAre.len hi]
      have l2 : ys.toArray.size = (zs ms).length := by rw [List.size_toArray, IntsAre.len hj]
      rw [l1, l2, lex_leI _ _ _ 0 (by simp) (Nat.zero_le _), List.drop_zero, List.drop_zero, leI_zs]
    rw [e]; exact h
theorem le_ints {a b : Addr} {xs ys : List Value} {ns ms : List Nat} {Q : Value → Shared → Prop} (ha : s.heap.PlainList a xs.toArray) (hb : s.heap.PlainList b ys.toArray) (hi : IntsAre xs (zs ns)) (hj : IntsAre ys (zs ms)) (hu : A.units < cLine) (h : Q (.bool (!decide (ms < ns))) s) :
    wpAny (model prog w) A (compareOp .LtE (.ref a) (.ref b)) Q E s := by
  show wpAny _ _ (richCompare .LtE (.ref a) (.ref b)) Q E s
  exact wpAny_richCompare_same_room (op := .LtE) ha.isList.typeIs hb.isList.typeIs PySem.F.slot_list_le (call_le_ints ha hb hi hj ⟨(fun x => nomatch x), h⟩) hu
/-- one comparison of the sort -/
theorem oneLt_ints {a b : Addr} {xs ys : List Value} {ns ms : List Nat} {Q : Bool → Shared → Prop} (ha : s.heap.PlainList a xs.toArray) (hb : s.heap.PlainList b ys.toArray) (hi : IntsAre xs (zs ns)) (hj : IntsAre ys (zs ms)) (hu : A.units < cLine) (h : Q (decide (ns < ms)) s) :
    wpAny (model prog w) A (oneLt' true (.ref a) (.ref b)) Q E s := by
  rw [oneLt'_eq]
  simp only [if_true]
  refine wpAny_bind (wpAny_cRoomFor hu ?_)
  refine wpAny_bind (wpAny_callSpecialIfBound?_slot ha.isList.typeIs PySem.F.slot_list_lt (call_lt_ints ha hb hi hj ?_))
  exact wpAny_truthy_bool h
end
end
end Mine
namespace Mine
open PySem PyProof.Rows
section order
variable {K : Nat → List Nat}
noncomputable def lo (K : Nat → List Nat) (i j : Nat) : Prop := K i < K j ∨ (K i = K j ∧ i < j)
theorem lex_eq {a b : List Nat} (h1 : ¬ a < b) (h2 : ¬ b < a) : a = b := List.le_antisymm (List.not_lt.mp h2) (List.not_lt.mp h1)
theorem lo_trans {i j k : Nat} (h1 : lo K i j) (h2 : lo K j k) : lo K i k := by
  rcases h1 with h1 | ⟨e1, h1⟩ <;> rcases h2 with h2 | ⟨e2, h2⟩
  · exact .inl (List.lt_trans h1 h2)
  · exact .inl (e2 ▸ h1)
  · exact .inl (e1 ▸ h2)
  · exact .inr ⟨e1.trans e2, Nat.lt_trans h1 h2⟩
theorem lo_of_le {i j : Nat} (h : ¬ K j < K i) (hij : i < j) : lo K i j := by
  by_cases q : K i < K j
  · exact .inl q
  · exact .inr ⟨lex_eq q h, hij⟩
end order
noncomputable def mirF (π : Nat → Nat) (i j : Nat) : Nat → Nat := fun k => if i ≤ k ∧ k < j then π (i + j - 1 - k) else π k
noncomputable def bubF (π : Nat → Nat) (src d : Nat) : Nat → Nat := fun k => if k = src - d then π src else if src - d < k ∧ k ≤ src then π (k - 1) else π k
structure SI (a₀ : Array Keyed) (π : Nat → Nat) (st : SortSt) : Prop where
  base : SBase a₀ st
  idx : ∀ k, k < a₀.size → π k < a₀.size ∧ (arrOf st)[k]? = a₀[π k]?
theorem SI.mirror {a₀ : Array Keyed} {π : Nat → Nat} {st : SortSt} (S : SI a₀ π st) {i j : Nat} (hj : j ≤ a₀.size) : SI a₀ (mirF π i j) (setArr st (PyProof.Rows.mirror (arrOf st) i j ((j - i) / 2))) where
  base := S.base.setArr (mirror_perm _ _ _ _)
  idx := fun k hk => by
    have e := getElem?_mirror_all (xs := arrOf st) (i := i) (j := j) (by rw [S.base.size]; exact hj) k
    show mirF π i j k < _ ∧ (PyProof.Rows.mirror (arrOf st) i j ((j - i) / 2))[k]? = _
    rw [e]
    unfold mirF
    by_cases q : i ≤ k ∧ k < j
    · rw [if_pos q, if_pos q]; exact S.idx _ (by omega)
    · rw [if_neg q, if_neg q]; exact S.idx _ hk
theorem SI.bubble {a₀ : Array Keyed} {π : Nat → Nat} {st : SortSt} (S : SI a₀ π st) {src d : Nat} (hs : src < a₀.size) (hd : d ≤ src) : SI a₀ (bubF π src d) (setArr st (bubble (arrOf st) src d)) where
  base := S.base.setArr (bubble_perm _ _ _)
  idx := fun k hk => by
    have e := getElem?_bubble (xs := arrOf st) (src := src) (by rw [S.base.size]; exact hs) d hd k
    show bubF π src d k < _ ∧ (PyProof.Rows.bubble (arrOf st) src d)[k]? = _
    rw [e]
    unfold bubF
    by_cases q : k = src - d
    · rw [if_pos q, if_pos q]; exact S.idx _ hs
    · rw [if_neg q, if_neg q]
      by_cases r : src - d < k ∧ k ≤ src
      · rw [if_pos r, if_pos r]; exact S.idx _ (by omega)
      · rw [if_neg r, if_neg r]; exact S.idx _ hk
noncomputable def Pre (π : Nat → Nat) (m : Nat) : Prop := (∀ i, i < m → π i < m) ∧ ∀ k, m ≤ k → π k = k
noncomputable def Asc (K : Nat → List Nat) (π : Nat → Nat) (m : Nat) : Prop := ∀ i j, i < j → j < m → lo K (π i) (π j)
noncomputable def Dsc (K : Nat → List Nat) (π : Nat → Nat) (m : Nat) : Prop := ∀ i j, i < j → j < m → lo K (π j) (π i)
structure Blk (K : Nat → List Nat) (π : Nat → Nat) (m q : Nat) : Prop where
  le : q + 1 ≤ m
  out : ∀ i j, i < j → j < m - (q + 1) → lo K (π j) (π i)
  over : ∀ i j, i < m - (q + 1) → m - (q + 1) ≤ j → j < m → K (π j) < K (π i)
  blk : ∀ i j, m - (q + 1) ≤ i → i < j → j < m → K (π i) = K (π j) ∧ π i < π j
  pre : Pre π m
theorem Pre.mir {π : Nat → Nat} {m i j : Nat} (h : Pre π m) (hj : j ≤ m) : Pre (mirF π i j) m := by
  refine ⟨fun k hk => ?_, fun k hk => ?_⟩
  · unfold mirF; split
    · exact h.1 _ (by omega)
    · exact h.1 _ hk
  · unfold mirF; rw [if_neg (by omega)]; exact h.2 k hk
theorem Pre.succ {π : Nat → Nat} {m : Nat} (h : Pre π m) : Pre π (m + 1) := by
  refine ⟨fun k hk => ?_, fun k hk => h.2 k (by omega)⟩
  by_cases q : k < m
  · exact Nat.lt_succ_of_lt (h.1 k q)
  · have : k = m := by omega
    rw [this, h.2 m (Nat.le_refl _)]; exact Nat.lt_succ_self _
section plain
variable {K : Nat → List Nat} {π : Nat → Nat}
theorem Asc.succ {m : Nat} (h : Asc K π m) (hp : Pre π m) (h1 : 1 ≤ m) (hl : ¬ K (π m) < K (π (m - 1))) : Asc K π (m + 1) := by
  have last : lo K (π (m - 1)) (π m) := lo_of_le hl (by rw [hp.2 m (Nat.le_refl _)]; exact hp.1 _ (by omega))
  intro i j hij hj
  by_cases q : j < m
  · exact h i j hij q
  · have : j = m := by omega
    subst this
    by_cases r : i = j - 1
    · rw [r]; exact last
    · exact lo_trans (h i (j - 1) (by omega) (by omega)) last
theorem Dsc.rev {m : Nat} (h : Dsc K π m) : Asc K (mirF π 0 m) m := by
  intro i j hij hj
  unfold mirF
  rw [if_pos (by omega), if_pos (by omega)]
  exact h _ _ (by omega) (by omega)
theorem Blk.keyEq {m q : Nat} (h : Blk K π m q) {i : Nat} (h1 : m - (q + 1) ≤ i) (h2 : i < m) : K (π i) = K (π (m - 1)) := by
  by_cases r : i = m - 1
  · rw [r]
  · exact (h.blk i (m - 1) h1 (by omega) (by omega)).1
theorem Blk.dsc {m q : Nat} (h : Blk K π m q) : Dsc K (mirF π (m - (q + 1)) m) m := by
  have le := h.le
  intro i j hij hj
  unfold mirF
  by_cases qi : m - (q + 1) ≤ i
  · rw [if_pos (by omega), if_pos (by omega)]
    have := h.blk (m - (q + 1) + m - 1 - j) (m - (q + 1) + m - 1 - i) (by omega) (by omega) (by omega)
    exact .inr this
  · by_cases qj : m - (q + 1) ≤ j
    · rw [if_pos (by omega), if_neg (by omega)]
      exact .inl (h.over _ _ (by omega) (by omega) (by omega))
    · rw [if_neg (by omega), if_neg (by omega)]
      exact h.out _ _ hij (by omega)
theorem Blk.dsc0 {m : Nat} (h : Blk K π m 0) : Dsc K π m := by
  have le := h.le
  intro i j hij hj
  by_cases qj : m - 1 ≤ j
  · exact .inl (h.over _ _ (by omega) (by omega) (by omega))
  · exact h.out _ _ hij (by omega)
theorem blk_down {m : Nat} (hd : Dsc K π m) (hp : Pre π m) (hk : ∀ i, i < m → K (π m) < K (π i)) : Blk K π (m + 1) 0 where
  le := by omega
  out := fun i j hij hj => hd i j hij (by omega)
  over := fun i j hi h1 h2 => by
    have : j = m := by omega
    subst this; exact hk i (by omega)
  blk := fun i j h1 h2 h3 => by omega
  pre := hp.succ
theorem Blk.down {m q : Nat} (h : Blk K π m q) (hk : K (π m) < K (π (m - 1))) : Blk K (mirF π (m - (q + 1)) m) (m + 1) 0 := by
  have le := h.le
  refine blk_down h.dsc (h.pre.mir (Nat.le_refl _)) fun i hi => ?_
  have e : mirF π (m - (q + 1)) m m = π m := by unfold mirF; rw [if_neg (by omega)]
  rw [e]
  unfold mirF
  by_cases qi : m - (q + 1) ≤ i
  · rw [if_pos (by omega), h.keyEq (i := m - (q + 1) + m - 1 - i) (by omega) (by omega)]; exact hk
  · rw [if_neg (by omega)]
    exact List.lt_trans hk (h.over i (m - 1) (by omega) (by omega) (by omega))
theorem Blk.down0 {m : Nat} (h : Blk K π m 0) (hk : K (π m) < K (π (m - 1))) : Blk K π (m + 1) 0 := by
  have le := h.le
  refine blk_down h.dsc0 h.pre fun i hi => ?_
  by_cases qi : m - 1 ≤ i
  · have : i = m - 1 := by omega
    rw [this]; exact hk
  · exact List.lt_trans hk (h.over i (m - 1) (by omega) (by omega) (by omega))
theorem Blk.same {m q : Nat} (h : Blk K π m q) (h1 : ¬ K (π m) < K (π (m - 1))) (h2 : ¬ K (π (m - 1)) < K (π m)) : Blk K π (m + 1) (q + 1) := by
  have le := h.le
  have ek : K (π m) = K (π (m - 1)) := lex_eq h1 h2
  have sz : m + 1 - (q + 1 + 1) = m - (q + 1) := by omega
  refine ⟨by omega, ?_, ?_, ?_, h.pre.succ⟩
  · rw [sz]; exact h.out
  · rw [sz]
    intro i j hi hj1 hj2
    by_cases r : j = m
    · rw [r, ek]; exact h.over i (m - 1) hi (by omega) (by omega)
    · exact h.over i j hi hj1 (by omega)
  · rw [sz]
    intro i j hi hij hj
    by_cases r : j = m
    · subst r
      refine ⟨(h.keyEq hi (by omega)).trans ek.symm, ?_⟩
      rw [h.pre.2 j (Nat.le_refl _)]; exact h.pre.1 i (by omega)
    · exact h.blk i j hi hij (by omega)
end plain
end Mine
namespace Mine
open PySem PyProof.Rows
section
variable {prog : Program} {w : World} {A : Around} {E : Value → Shared → Prop} {s : Shared} {a₀ : Array Keyed} {K : Nat → List Nat} {π : Nat → Nat}
/-- one comparison of the keys, the state not touched -/
noncomputable def OneK (prog : Program) (w : World) (A : Around) (s : Shared) (a₀ : Array Keyed) (K : Nat → List Nat) : Prop :=
  ∀ (i j : Nat) (x y : Keyed) (E : Value → Shared → Prop) (Q : Bool → Shared → Prop), a₀[i]? = some x → a₀[j]? = some y → Q (decide (K i < K j)) s → wpAny (model prog w) A (oneLt' true x.1 y.1) Q E s
theorem wpS_ltI {st : SortSt} {i j : Nat} {Q : Option Bool → SortSt → Prop} (hO : OneK prog w A s a₀ K) (S : SI a₀ π st) (hi : i < a₀.size) (hj : j < a₀.size)
    (h : Q (some (decide (K (π i) < K (π j)))) st) : wpS (model prog w) A E s (ltAt' i j) Q st := by
  obtain ⟨bi, ei⟩ := S.idx i hi
  obtain ⟨bj, ej⟩ := S.idx j hj
  have ei' := ei.trans (Array.getElem?_eq_getElem bi)
  have ej' := ej.trans (Array.getElem?_eq_getElem bj)
  rw [ltAt'_eq]
  refine wpS_bind (wpS_get ?_)
  show wpS _ _ _ _ (do let x ← elem' (arrOf st) i; let y ← elem' (arrOf st) j; lt' x y) Q st
  rw [elem'_eq, elem'_eq, ei', ej']
  refine wpS_bind (wpS_pure (wpS_bind (wpS_pure ?_)))
  rw [lt'_eq]
  refine wpS_bind (wpS_get ?_)
  rw [S.base.kind, keyLt'_oneType]
  refine wpS_bind (wpS_lift (wpAny_attempt (hO (π i) (π j) _ _ _ _ (Array.getElem?_eq_getElem bi) (Array.getElem?_eq_getElem bj) ⟨rfl, ?_⟩)))
  exact wpS_pure h
theorem wpS_asc {st : SortSt} {a nrem : Nat} {Q : AscSt → SortSt → Prop} (hO : OneK prog w A s a₀ K) (hn : nrem ≤ a₀.size) (ha : 1 ≤ a) (han : a ≤ nrem) (S : SI a₀ π st) (hp : Pre π a) (hs : Asc K π a)
    (h : ∀ n, a ≤ n → n ≤ nrem → Pre π n → Asc K π n → (n = nrem ∨ K (π n) < K (π (n - 1))) → Q (none, n) st) :
    wpS (model prog w) A E s (ascLoop a nrem) Q st := by
  unfold ascLoop
  refine wpS_forRange (I := fun x c st' => st' = st ∧ c = (none, x) ∧ Pre π x ∧ Asc K π x) ?step ?fin ⟨rfl, rfl, hp, hs⟩
  case fin =>
    rintro c st' ⟨rfl, rfl, hp', hs'⟩
    rw [show max a nrem = nrem by omega] at hp' hs' ⊢
    exact h nrem han (Nat.le_refl _) hp' hs' (.inl rfl)
  case step =>
    rintro x c st' hax hxn ⟨rfl, rfl, hp', hs'⟩
    dsimp only
    refine wpS_bind (wpS_ltI hO S (by omega) (by omega) ?_)
    by_cases q : K (π x) < K (π (x - 1))
    · rw [decide_eq_true q]
      simp only [if_true]
      exact wpS_pure (h x hax (by omega) hp' hs' (.inr q))
    · rw [decide_eq_false q]
      simp only [Bool.false_eq_true, if_false]
      exact wpS_pure ⟨rfl, rfl, hp'.succ, hs'.succ hp' (by omega) q⟩
theorem wpS_tail3I {st : SortSt} {n nrem : Nat} {Q : Option Nat → SortSt → Prop} (hO : OneK prog w A s a₀ K) (hn : nrem ≤ a₀.size) (h1 : 1 ≤ n) (hnn : n ≤ nrem) (S : SI a₀ π st) (hp : Pre π n) (hs : Dsc K π n)
    (h : ∀ m st' π', SI a₀ π' st' → 1 ≤ m → m ≤ nrem → Pre π' m → Asc K π' m → Q (some m) st') :
    wpS (model prog w) A E s (tail3 n nrem) Q st := by
  unfold tail3
  refine wpS_bind (wpS_reverse ?_)
  have S' := S.mirror (i := 0) (j := n) (by omega)
  exact wpS_bind (wpS_asc hO hn h1 hnn S' (hp.mir (Nat.le_refl _)) hs.rev fun m hm1 hm2 hpm hsm _ => wpS_pure (h m _ _ S' (by omega) hm2 hpm hsm))
theorem wpS_descI {st : SortSt} {n nrem : Nat} {Q : DescSt → SortSt → Prop} (hO : OneK prog w A s a₀ K) (hn : nrem ≤ a₀.size) (h1 : 1 ≤ n) (hnn : n ≤ nrem) (S : SI a₀ π st) (hb : Blk K π n 0)
    (h : ∀ m q st' π', SI a₀ π' st' → n ≤ m → m ≤ nrem → Blk K π' m q → Q (none, m, q) st') :
    wpS (model prog w) A E s (descLoop n nrem) Q st := by
  unfold descLoop
  refine wpS_forRange (I := fun x c st' => ∃ q π', c = (none, x, q) ∧ SI a₀ π' st' ∧ Blk K π' x q) ?step ?fin ⟨0, π, rfl, S, hb⟩
  case fin =>
    rintro c st' ⟨q, π', rfl, S', hb'⟩
    rw [show max n nrem = nrem by omega] at hb' ⊢
    exact h nrem q st' π' S' hnn (Nat.le_refl _) hb'
  case step =>
    rintro x c st' hax hxn ⟨q, π', rfl, S', hb'⟩
    dsimp only
    refine wpS_bind (wpS_ltI hO S' (by omega) (by omega) ?_)
    by_cases hk : K (π' x) < K (π' (x - 1))
    · rw [decide_eq_true hk]
      simp only [if_true]
      by_cases hq : q > 0
      · rw [if_pos hq]
        refine wpS_bind (wpS_reverse (wpS_pure ⟨0, _, rfl, S'.mirror (by omega), hb'.down hk⟩))
      · rw [if_neg hq]
        have : q = 0 := by omega
        subst this
        exact wpS_pure ⟨0, π', rfl, S', hb'.down0 hk⟩
    · rw [decide_eq_false hk]
      simp only [Bool.false_eq_true, if_false]
      refine wpS_bind (wpS_ltI hO S' (by omega) (by omega) ?_)
      by_cases hk2 : K (π' (x - 1)) < K (π' x)
      · rw [decide_eq_true hk2]
        simp only [if_true]
        exact wpS_pure (h x q st' π' S' hax (by omega) hb')
      · rw [decide_eq_false hk2]
        simp only [Bool.false_eq_true, if_false]
        exact wpS_pure ⟨q + 1, π', rfl, S', hb'.same hk hk2⟩
theorem wpS_descPartI {st : SortSt} {n nrem : Nat} {Q : Option Nat → SortSt → Prop} (hO : OneK prog w A s a₀ K) (hn : nrem ≤ a₀.size) (hnn : n + 1 ≤ nrem) (S : SI a₀ π st) (hb : Blk K π (n + 1) 0)
    (h : ∀ m st' π', SI a₀ π' st' → 1 ≤ m → m ≤ nrem → Pre π' m → Asc K π' m → Q (some m) st') : wpS (model prog w) A E s (descPart n nrem) Q st := by
  unfold descPart
  refine wpS_bind (wpS_lift (wpAny_rule ⟨rfl, ?_⟩))
  refine wpS_bind (wpS_descI hO hn (by omega) hnn S hb fun m q st' π' S' hm1 hm2 hb' => ?_)
  dsimp only
  by_cases hq : q > 0
  · rw [if_pos hq]
    exact wpS_bind (wpS_reverse (wpS_tail3I hO hn (by omega) hm2 (S'.mirror (by omega)) (hb'.pre.mir (Nat.le_refl _)) hb'.dsc h))
  · rw [if_neg hq]
    have : q = 0 := by omega
    subst this
    exact wpS_tail3I hO hn (by omega) hm2 S' hb'.pre hb'.dsc0 h
theorem pre_id (m : Nat) : Pre (fun i => i) m := ⟨fun _ h => h, fun _ _ => rfl⟩
theorem wpS_countRunI {st : SortSt} {nrem : Nat} {Q : Option Nat → SortSt → Prop} (hO : OneK prog w A s a₀ K) (hn : nrem ≤ a₀.size) (h1 : 1 ≤ nrem) (S : SI a₀ (fun i => i) st)
    (h : ∀ m st' π', SI a₀ π' st' → 1 ≤ m → m ≤ nrem → Pre π' m → Asc K π' m → Q (some m) st') :
    wpS (model prog w) A E s (countRun' 0 nrem) Q st := by
  rw [countRun0_eq]
  refine wpS_bind (wpS_asc (K := K) hO hn (Nat.le_refl 1) h1 S (pre_id _) (fun i j hij hj => by omega) fun n hn1 hn2 hpn hsn hor => ?_)
  dsimp only
  by_cases hnn : n = nrem
  · rw [if_pos (by simpa using hnn)]
    exact wpS_pure (h n st _ S hn1 hn2 hpn hsn)
  · rw [if_neg (by simpa using hnn)]
    have hlt : K n < K (n - 1) := hor.resolve_left hnn
    by_cases hgt : n > 1
    · rw [if_pos hgt]
      refine wpS_bind (wpS_ltI hO S (by omega) (by omega) ?_)
      by_cases hr : K 0 < K (n - 1)
      · rw [decide_eq_true hr]
        simp only [if_true]
        exact wpS_pure (h n st _ S hn1 hn2 hpn hsn)
      · rw [decide_eq_false hr]
        simp only [Bool.false_eq_true, if_false]
        have all : ∀ k, k < n → K k = K (n - 1) := by
          intro k hk
          have a1 : ¬ K (n - 1) < K k := by
            by_cases e : k = n - 1
            · rw [e]; exact List.lt_irrefl _
            · intro hh
              rcases hsn k (n - 1) (by omega) (by omega) with q | ⟨q, _⟩
              · exact List.lt_irrefl _ (List.lt_trans q hh)
              · rw [q] at hh; exact List.lt_irrefl _ hh
          have a2 : ¬ K k < K (n - 1) := by
            intro hh
            by_cases e : k = 0
            · rw [e] at hh; exact hr hh
            · rcases hsn 0 k (by omega) hk with q | ⟨q, _⟩
              · exact hr (List.lt_trans q hh)
              · rw [← q] at hh; exact hr hh
          exact lex_eq a2 a1
        have S' := S.mirror (i := 0) (j := n) (by omega)
        refine wpS_bind (wpS_reverse (wpS_descPartI hO hn (by omega) S' ?_ h))
        have m1 : ∀ i, i < n → mirF (fun i => i) 0 n i = n - 1 - i := fun i hi => by unfold mirF; rw [if_pos (by omega)]; dsimp only; omega
        refine blk_down (fun i j hij hj => ?_) ((pre_id n).mir (Nat.le_refl _)) fun i hi => ?_
        · rw [m1 i (by omega), m1 j hj]
          exact .inr ⟨(all (n - 1 - j) (by omega)).trans (all (n - 1 - i) (by omega)).symm, by omega⟩
        · have e : mirF (fun i => i) 0 n n = n := by unfold mirF; rw [if_neg (by omega)]
          rw [m1 i hi, e, all (n - 1 - i) (by omega)]; exact hlt
    · rw [if_neg hgt]
      have hn1' : n = 1 := by omega
      subst hn1'
      refine wpS_descPartI hO hn (by omega) S (blk_down (fun i j hij hj => by omega) (pre_id 1) fun i hi => ?_) h
      have : i = 0 := by omega
      subst this; exact hlt
end
end Mine
namespace Mine
open PySem PyProof.Rows
section
variable {prog : Program} {w : World} {A : Around} {E : Value → Shared → Prop} {s : Shared} {a₀ : Array Keyed} {K : Nat → List Nat} {π : Nat → Nat}
theorem le_cases {a b : List Nat} (h : ¬ b < a) : a < b ∨ a = b := by
  by_cases q : a < b
  · exact .inl q
  · exact .inr (lex_eq q h)
theorem asc_bub {k l : Nat} (hp : Pre π k) (hs : Asc K π k) (hl : l ≤ k) (h1 : ∀ i, i < l → ¬ K k < K (π i)) (h2 : ∀ i, l ≤ i → i < k → K k < K (π i)) : Asc K (bubF π k (k - l)) (k + 1) ∧ Pre (bubF π k (k - l)) (k + 1) := by
  have ek : π k = k := hp.2 k (Nat.le_refl _)
  have b0 : ∀ i, bubF π k (k - l) i = if i = l then k else if l < i ∧ i ≤ k then π (i - 1) else π i := fun i => by
    unfold bubF
    rw [show k - (k - l) = l by omega, ek]
  have c1 : ∀ i, i < l → bubF π k (k - l) i = π i := fun i hi => by rw [b0, if_neg (by omega), if_neg (by omega)]
  have c2 : bubF π k (k - l) l = k := by rw [b0, if_pos rfl]
  have c3 : ∀ i, l < i → i ≤ k → bubF π k (k - l) i = π (i - 1) := fun i h1 h2 => by rw [b0, if_neg (by omega), if_pos ⟨h1, h2⟩]
  refine ⟨fun i j hij hj => ?_, fun i hi => ?_, fun i hi => ?_⟩
  · by_cases q : j < l
    · rw [c1 i (by omega), c1 j q]
      exact hs i j hij (by omega)
    · by_cases q2 : j = l
      · subst q2
        rw [c1 i hij, c2]
        exact lo_of_le (h1 i (by omega)) (hp.1 i (by omega))
      · rw [c3 j (by omega) (by omega)]
        by_cases r : i = l
        · subst r
          rw [c2]
          exact .inl (h2 (j - 1) (by omega) (by omega))
        · by_cases r2 : l < i
          · rw [c3 i r2 (by omega)]; exact hs (i - 1) (j - 1) (by omega) (by omega)
          · rw [c1 i (by omega)]; exact hs i (j - 1) (by omega) (by omega)
  · rw [b0]
    split
    · omega
    · split
      · exact Nat.lt_succ_of_lt (hp.1 _ (by omega))
      · by_cases r : i < k
        · exact Nat.lt_succ_of_lt (hp.1 _ r)
        · have : i = k := by omega
          rw [this, ek]; exact Nat.lt_succ_self _
  · rw [b0, if_neg (by omega), if_neg (by omega)]
    exact hp.2 i (by omega)
theorem wpS_binI {st : SortSt} {n ok : Nat} {Q : Bool → SortSt → Prop} (hO : OneK prog w A s a₀ K) (hn : n ≤ a₀.size) (h1 : 1 ≤ ok) (hok : ok ≤ n) (S : SI a₀ π st) (hp : Pre π ok) (hs : Asc K π ok)
    (h : ∀ st' π', SI a₀ π' st' → Asc K π' n → Q true st') : wpS (model prog w) A E s (binarySort' 0 n ok) Q st := by
  rw [binarySort'_eq]
  simp only [Nat.zero_add]
  refine wpS_bind (wpS_mono (wpS_forRange (I := fun k c st' => ∃ π', c = (none, ()) ∧ SI a₀ π' st' ∧ Pre π' k ∧ Asc K π' k)
    (Q := fun c st' => ∃ π', c = (none, ()) ∧ SI a₀ π' st' ∧ Asc K π' n) ?step ?fin ?init) ?post)
  case post =>
    rintro c st' ⟨π', rfl, S', hs'⟩
    exact wpS_pure (h st' π' S' hs')
  case init =>
    rw [show max ok 1 = ok by omega]
    exact ⟨π, rfl, S, hp, hs⟩
  case fin =>
    rintro c st' ⟨π', hc, S', _, hs'⟩
    rw [show max (max ok 1) n = n by omega] at hs'
    exact ⟨π', hc, S', hs'⟩
  case step =>
    rintro k c st' hak hkn ⟨π', rfl, S', hp', hs'⟩
    have hk : k < a₀.size := by omega
    have ek : π' k = k := hp'.2 k (Nat.le_refl _)
    refine wpS_bind (wpS_mono (wpS_forRange (I := fun x c st'' => st'' = st' ∧ ∃ l r, c = (none, l, r) ∧ l ≤ r ∧ r ≤ k ∧ r - l ≤ k - x ∧
        (∀ i, i < l → ¬ K k < K (π' i)) ∧ (∀ i, r ≤ i → i < k → K k < K (π' i)))
      (Q := fun c st'' => st'' = st' ∧ ∃ l r, c = (none, l, r) ∧ l ≤ k ∧ (∀ i, i < l → ¬ K k < K (π' i)) ∧ (∀ i, l ≤ i → i < k → K k < K (π' i))) ?istep ?ifin ?iinit) ?ipost)
    case iinit => exact ⟨rfl, 0, k, rfl, by omega, by omega, by omega, fun i hi => by omega, fun i h1 h2 => by omega⟩
    case ifin =>
      rintro c st'' ⟨rfl, l, r, rfl, hlr, hrk, hm, hlo, hhi⟩
      have : l = r := by omega
      subst this
      exact ⟨rfl, l, l, rfl, hrk, hlo, hhi⟩
    case istep =>
      rintro x c st'' _ hxk ⟨rfl, l, r, rfl, hlr, hrk, hm, hlo, hhi⟩
      dsimp only
      by_cases hge : l ≥ r
      · rw [if_pos hge]
        have : l = r := by omega
        subst this
        exact wpS_pure ⟨rfl, l, l, rfl, hrk, hlo, hhi⟩
      · rw [if_neg hge]
        refine wpS_bind (wpS_ltI hO S' hk (by omega) ?_)
        rw [ek]
        have mono : ∀ i j, i ≤ j → j < k → ¬ K (π' j) < K (π' i) := fun i j hij hj hh => by
          by_cases e : i = j
          · rw [e] at hh; exact List.lt_irrefl _ hh
          · rcases hs' i j (by omega) hj with q | ⟨q, _⟩
            · exact List.lt_irrefl _ (List.lt_trans q hh)
            · rw [q] at hh; exact List.lt_irrefl _ hh
        by_cases hless : K k < K (π' ((l + r) / 2))
        · rw [decide_eq_true hless]
          simp only [if_true]
          refine wpS_pure ⟨rfl, l, (l + r) / 2, rfl, by omega, by omega, by omega, hlo, fun i h1 h2 => ?_⟩
          have := mono _ i h1 h2
          rcases le_cases this with q | q
          · exact List.lt_trans hless q
          · rw [← q]; exact hless
        · rw [decide_eq_false hless]
          simp only [Bool.false_eq_true, if_false]
          refine wpS_pure ⟨rfl, (l + r) / 2 + 1, r, rfl, by omega, by omega, by omega, fun i h1 hh => ?_, hhi⟩
          have := mono i ((l + r) / 2) (by omega) (by omega)
          rcases le_cases this with q | q
          · exact hless (List.lt_trans hh q)
          · rw [q] at hh; exact hless hh
    case ipost =>
      rintro c st'' ⟨rfl, l, r, rfl, hlk, hlo, hhi⟩
      show wpS _ _ _ _ (do moveDown' k l; pure (ForInStep.yield (none, ()))) _ _
      rw [moveDown'_eq]
      have b := asc_bub hp' hs' hlk hlo hhi
      exact wpS_bind (wpS_modify (wpS_pure ⟨_, rfl, S'.bubble hk (by omega), b.2, b.1⟩))
noncomputable def SDoneI (K : Nat → List Nat) (a₀ : Array Keyed) (st : SortSt) : Prop :=
  ∃ π, (∀ k, k < a₀.size → π k < a₀.size ∧ (arrOf st)[k]? = a₀[π k]?) ∧ (arrOf st).Perm a₀ ∧ failedOf st = none ∧ pendingOf st = #[(0, a₀.size, 0)] ∧ Asc K π a₀.size
theorem SI.done {st : SortSt} (S : SI a₀ π st) (hs : Asc K π a₀.size) : SDoneI K a₀ (setPending st ((pendingOf st).push (0, a₀.size, 0))) :=
  ⟨π, S.idx, S.base.perm, S.base.failed, by show (pendingOf st).push _ = _; rw [S.base.pend]; rfl, hs⟩
theorem wpS_sortRunsI {st : SortSt} {Q : Unit → SortSt → Prop} (hO : OneK prog w A s a₀ K) (S : SI a₀ (fun i => i) st) (h2 : 2 ≤ a₀.size) (h64 : a₀.size < 64)
    (h : ∀ st' π, (∀ k, k < a₀.size → π k < a₀.size ∧ (arrOf st')[k]? = a₀[π k]?) → (arrOf st').Perm a₀ → failedOf st' = none → Asc K π a₀.size → Q () st') : wpS (model prog w) A E s sortRuns' Q st := by
  rw [sortRuns'_eq]
  refine wpS_bind (wpS_get ?_)
  dsimp only
  have hmr : minRun' a₀.size a₀.size 0 = a₀.size := by
    obtain ⟨f, hf⟩ : ∃ f, a₀.size = f + 1 := ⟨a₀.size - 1, by omega⟩
    have : minRun' (f + 1) a₀.size 0 = a₀.size := by rw [minRun'_succ, if_pos h64]; rfl
    rwa [← hf] at this
  simp only [S.base.size, hmr]
  refine wpS_bind (wpS_mono (wpS_forRange
    (I := fun x c st' => (x = 0 ∧ c = (none, 0) ∧ SI a₀ (fun i => i) st') ∨ (1 ≤ x ∧ c = (none, a₀.size) ∧ SDoneI K a₀ st'))
    (Q := fun c st' => c = (none, a₀.size) ∧ SDoneI K a₀ st') ?step ?fin (.inl ⟨rfl, rfl, S⟩)) ?post)
  case fin =>
    rintro c st' (⟨hx, _, _⟩ | ⟨_, hc, hD⟩)
    · omega
    · exact ⟨hc, hD⟩
  case step =>
    rintro x c st' _ hx (⟨rfl, rfl, S'⟩ | ⟨hx1, rfl, hD⟩)
    · dsimp only
      rw [if_neg (by omega)]
      simp only [Nat.sub_zero, Nat.min_self, Nat.zero_add]
      refine wpS_bind (wpS_countRunI hO (Nat.le_refl _) (by omega) S' fun m st2 π2 S2 hm1 hm2 hp2 hs2 => ?_)
      dsimp only
      by_cases hlt : m < a₀.size
      · rw [if_pos hlt]
        refine wpS_bind (wpS_lift (wpAny_rule ⟨rfl, ?_⟩))
        refine wpS_bind (wpS_binI hO (Nat.le_refl _) hm1 hm2 S2 hp2 hs2 fun st3 π3 S3 hs3 => ?_)
        simp only [Bool.not_true, Bool.false_eq_true, if_false]
        refine wpS_bind (wpS_get ?_)
        have hb : (pendingOf st3).back? = none := by rw [S3.base.pend]; rfl
        rw [hb]
        dsimp only
        exact wpS_bind (wpS_modify (wpS_pure (.inr ⟨by omega, rfl, S3.done hs3⟩)))
      · rw [if_neg hlt]
        have hm : m = a₀.size := by omega
        subst hm
        refine wpS_bind (wpS_get ?_)
        have hb : (pendingOf st2).back? = none := by rw [S2.base.pend]; rfl
        rw [hb]
        dsimp only
        exact wpS_bind (wpS_modify (wpS_pure (.inr ⟨by omega, rfl, S2.done hs2⟩)))
    · dsimp only
      rw [if_pos (Nat.le_refl _)]
      exact wpS_pure ⟨rfl, hD⟩
  case post =>
    rintro c st' ⟨rfl, hD⟩
    obtain ⟨π, d1, d2, d3, d4, d5⟩ := hD
    dsimp only
    refine wpS_bind (wpS_mono (wpS_forRange (I := fun _ c st'' => st'' = st' ∧ c = (none, ())) (Q := fun c st'' => st'' = st' ∧ c = (none, ())) ?_ (fun _ _ hh => hh) ⟨rfl, rfl⟩) ?_)
    · rintro x c st'' _ _ ⟨rfl, rfl⟩
      refine wpS_bind (wpS_get ?_)
      rw [if_pos (by rw [d4]; exact Nat.le_refl 1)]
      exact wpS_pure ⟨rfl, rfl⟩
    · rintro c st'' ⟨rfl, rfl⟩
      exact wpS_pure (h _ π d1 d2 d3 d5)
end
end Mine
namespace Mine
open PySem PySem.W PySem.Calls PyProof.Rows
noncomputable section
theorem firstOfTuple'_eq (v : Value) : firstOfTuple' v = (do if (← typeOf v) != .type "tuple" then return none
                                                             return (← Builtin.List.listItems v)[0]?) := rfl
section
variable {M : Model} {A : Around} {s : Shared} {E : Value → Shared → Prop}
theorem mapM_same {β : Type} {g : Value → Sem β} (r : Value → β) : ∀ {vs : List Value} {Q : List β → Shared → Prop}, (∀ v, v ∈ vs → ∀ (Q : β → Shared → Prop), Q (r v) s → wpAny M A (g v) Q E s) → Q (vs.map r) s → wpAny M A (vs.mapM g) Q E s
  | [], _, _, h => by rw [List.mapM_nil]; exact wpAny_pure h
  | v :: vs, _, hg, h => by
    rw [List.mapM_cons]
    refine wpAny_bind (hg v (List.mem_cons_self ..) _ ?_)
    exact wpAny_bind (mapM_same r (fun u hu => hg u (List.mem_cons_of_mem _ hu)) (wpAny_pure h))
/-- keys that are lists are of one type -/
theorem keyKind_lists {keys : List Value} {Q : SortKind → Shared → Prop} (hk : ∀ k ∈ keys, ∃ a vs, k = .ref a ∧ s.heap.PlainList a vs) (hne : keys ≠ []) (h : Q oneType' s) : wpAny M A (keyKind' keys.toArray) Q E s := by
  have ty : ∀ k ∈ keys, s.TypeIs k "list" := fun k hm => by obtain ⟨a, vs, rfl, hl⟩ := hk k hm; exact hl.isList.typeIs
  obtain ⟨k0, ks, rfl⟩ := List.exists_cons_of_ne_nil hne
  rw [keyKind'_eq, List.mapM_toArray]
  refine wpAny_bind ?_
  show wpAny M A (List.toArray <$> List.mapM firstOfTuple' (k0 :: ks)) _ _ _
  rw [← bind_pure_comp]
  refine wpAny_bind (mapM_same (fun _ => none) (fun v hv Q hq => ?_) (wpAny_pure ?_))
  · rw [firstOfTuple'_eq]
    refine wpAny_bind (wpAny_typeOf (ty v hv) ?_)
    rw [if_pos (by decide)]
    exact wpAny_pure hq
  · rw [if_neg (by simp), if_neg (by simp)]
    rw [oneTypeOnly'_eq, List.mapM_toArray]
    refine wpAny_bind (wpAny_bind ?_)
    rw [← bind_pure_comp]
    refine wpAny_bind (mapM_same (fun _ => Value.type "list") (fun v hv Q hq => wpAny_typeOf (ty v hv) hq) (wpAny_pure ?_))
    have hall : ((List.map (fun _ => Value.type "list") (k0 :: ks)).toArray.all fun x => x == Value.type "list") = true := by
      simp only [List.all_toArray, List.all_map, List.all_eq_true]
      intro _ _
      rfl
    have h0 : (List.map (fun _ => Value.type "list") (k0 :: ks)).toArray[0]? = some (Value.type "list") := by simp
    rw [h0]
    simp only [hall, if_true]
    exact wpAny_pure (by simpa using wpAny_pure h)
end
end
end Mine
namespace Mine
open PySem PySem.W PySem.Calls PyProof.Rows
noncomputable section
/-- what a stable sort by key gives -/
noncomputable def StableBy (K : Nat → List Nat) (vs out : List Value) : Prop :=
  out.Perm vs ∧ ∃ π : Nat → Nat, out.length = vs.length ∧ (∀ k, k < vs.length → π k < vs.length ∧ out[k]? = vs[π k]?) ∧ Asc K π vs.length
/-- the keys that stand so far -/
noncomputable def KeysAt (h : Heap) (a kS : Addr) (K : Nat → List Nat) (ks : List Value) : Prop :=
  ∀ j k, ks[j]? = some k → ∃ ka kvs, k = .ref ka ∧ h.PlainList ka (List.toArray kvs) ∧ IntsAre kvs (zs (K j)) ∧ ka ≠ kS ∧ ka ≠ a
theorem KeysAt.keep {h h' : Heap} {a kS : Addr} {K : Nat → List Nat} {ks : List Value} (x : KeysAt h a kS K ks) (hk : ∀ b o, b ≠ kS → b ≠ a → h.get? b = some o → h'.get? b = some o) : KeysAt h' a kS K ks := fun j k e => by
  obtain ⟨ka, kvs, r1, r2, r3, r4, r5⟩ := x j k e
  exact ⟨ka, kvs, r1, r2.at fun o e => hk _ o r4 r5 e, r3, r4, r5⟩
theorem KeysAt.snoc {h : Heap} {a kS : Addr} {K : Nat → List Nat} {ks : List Value} (x : KeysAt h a kS K ks) {ka : Addr} {kvs : List Value} (hl : h.PlainList ka kvs.toArray) (hi : IntsAre kvs (zs (K ks.length))) (n1 : ka ≠ kS) (n2 : ka ≠ a) : KeysAt h a kS K (ks ++ [.ref ka]) := fun j k e => by
  by_cases q : j < ks.length
  · rw [List.getElem?_append_left q] at e; exact x j k e
  · rw [List.getElem?_append_right (by omega)] at e
    by_cases q2 : j = ks.length
    · subst q2
      simp at e
      exact ⟨ka, kvs, e.symm, hl, hi, n1, n2⟩
    · rw [List.getElem?_eq_none (by simp; omega)] at e; cases e
section
variable {w : World} {A : Around} {s : Shared} {E : Value → Shared → Prop} {K : Nat → List Nat} {a kS : Addr} {vs : List Value} {e1 : Nat} {P : PySem.Fin → Shared → Prop}
theorem sort_tail {st : SortSt} {keys : Array Value} {e : Nat} {π : Nat → Nat} (hkS : s.heap.get? kS = some (seqObj "list" keys e)) (ha : s.heap.get? a = some (seqObj "list" #[] e1)) (hne : kS ≠ a) (hlen : keys.size = vs.length) (h64 : vs.length < 64)
    (hid : ∀ k, k < (keys.zip vs.toArray).size → π k < (keys.zip vs.toArray).size ∧ (arrOf st)[k]? = (keys.zip vs.toArray)[π k]?) (hp : (arrOf st).Perm (keys.zip vs.toArray)) (hf : failedOf st = none) (hs' : Asc K π (keys.zip vs.toArray).size)
    (h : ∀ s' out, Upd (fun b => b = a ∨ b = kS) s s' → s'.heap.PlainList a (List.toArray out) → StableBy K vs out → P (.done (.ret .none)) s') :
    wpAny (model pw w) A (ksk_tail a false e1 (.ref kS) st) P E s := by
  have hzs : (keys.zip vs.toArray).size = vs.length := by rw [Array.size_zip, hlen, List.size_toArray, Nat.min_self]
  have hsz2 : (arrOf st).size = vs.length := by rw [hp.size_eq, hzs]
  obtain ⟨X, hX⟩ : ∃ X : Array Value, X = (arrOf st).map (·.2) := ⟨_, rfl⟩
  have hXs : X.size = vs.length := by rw [hX, Array.size_map, hsz2]
  have s1 := Heap.SameBut.update s.heap kS (Obj.mapSeq fun _ => (#[] : Array Value))
  have na1 : (s.heap.update kS (Obj.mapSeq fun _ => (#[] : Array Value))).get? a = some (seqObj "list" #[] e1) := (s1.2 a hne.symm).trans ha
  have s2 := Heap.SameBut.update (s.heap.update kS (Obj.mapSeq fun _ => (#[] : Array Value))) a (Obj.mapSeq fun _ => X)
  have U : Upd (fun b => b = a ∨ b = kS) s { s with heap := (s.heap.update kS (Obj.mapSeq fun _ => (#[] : Array Value))).update a (Obj.mapSeq fun _ => X) } :=
    (Upd.same (t := s.toks) s1 (.inr rfl)).trans (Upd.same (t := s.toks) s2 (.inl rfl))
  have hpl : ((s.heap.update kS (Obj.mapSeq fun _ => (#[] : Array Value))).update a (Obj.mapSeq fun _ => X)).PlainList a X := pl_update (items := #[]) (f := fun _ => X) ⟨e1, na1⟩
  unfold ksk_tail
  rw [← hX, hf]
  dsimp only
  rw [if_neg (by decide : ¬ (false = true))]
  refine wpAny_bind (listUpdate_at hkS rfl ?_ (by rw [hlen, sizeLine_eq]; omega) (Nat.zero_le _))
  refine wpAny_bind (wpAny_letGo ?_)
  refine wpAny_bind (seqEpoch_at na1 rfl ?_)
  refine wpAny_bind (listUpdate_at na1 rfl ?_ (Nat.zero_le _) (by rw [hXs, sizeLine_eq]; omega))
  rw [bne_self_eq_false, if_neg (by decide : ¬ (false = true))]
  refine wpAny_pure (h _ X.toList U (by rw [Array.toArray_toList]; exact hpl) ⟨?_, π, ?_, fun k hk => ?_, by rw [← hzs]; exact hs'⟩)
  · have e1 : X.toList = (arrOf st).toList.map (·.2) := by rw [hX, Array.toList_map]
    have e2 : (keys.zip vs.toArray).toList.map (·.2) = vs := by
      rw [Array.toList_zip, List.map_snd_zip (by rw [Array.length_toList]; simp; omega)]
    rw [e1]
    exact ((Array.perm_iff_toList_perm.mp hp).map (·.2)).trans (by rw [e2])
  · rw [Array.length_toList, hXs]
  · obtain ⟨b1, b2⟩ := hid k (by rw [hzs]; exact hk)
    refine ⟨by rw [← hzs]; exact b1, ?_⟩
    rw [Array.getElem?_toList, hX, Array.getElem?_map, b2]
    have b1' : π k < vs.length := by rw [← hzs]; exact b1
    have hk1 : π k < keys.size := by omega
    have e3 : (keys.zip vs.toArray)[π k]? = some (keys[π k], vs[π k]) := by
      rw [Array.getElem?_eq_getElem b1]; simp
    rw [e3, List.getElem?_eq_getElem b1']; rfl
end
end
end Mine
namespace Mine
open PySem PySem.W PySem.Calls PyProof.Rows
noncomputable section
section
variable {w : World} {A : Around} {s : Shared} {E : Value → Shared → Prop} {K : Nat → List Nat} {a kS : Addr} {vs : List Value} {e1 : Nat} {P : PySem.Fin → Shared → Prop}
theorem zip_get {keys vs : Array Value} {i : Nat} {x : Keyed} (h : (keys.zip vs)[i]? = some x) : keys[i]? = some x.1 ∧ vs[i]? = some x.2 := by
  rw [← Array.getElem?_toList, Array.toList_zip] at h
  have := List.getElem?_zip_eq_some.mp h
  rw [Array.getElem?_toList, Array.getElem?_toList] at this
  exact this
theorem oneK_of {keys : Array Value} (hu : A.units < cLine) (hk : KeysAt s.heap a kS K keys.toList) : OneK pw w A s (keys.zip vs.toArray) K := fun i j x y E Q hi hj hq => by
  obtain ⟨x1, x2⟩ := x
  obtain ⟨y1, y2⟩ := y
  have k1 := (zip_get hi).1
  have k2 := (zip_get hj).1
  rw [← Array.getElem?_toList] at k1 k2
  obtain ⟨ka, kvs, rfl, r2, r3, _, _⟩ := hk i _ k1
  obtain ⟨kb, kws, rfl, q2, q3, _, _⟩ := hk j _ k2
  exact oneLt_ints r2 q2 r3 q3 hu hq
theorem sort_end {keys : Array Value} {e : Nat} (hu : A.units < cLine) (hkS : s.heap.get? kS = some (seqObj "list" keys e)) (ha : s.heap.get? a = some (seqObj "list" #[] e1)) (hne : kS ≠ a) (hlen : keys.size = vs.length) (h64 : vs.length < 64)
    (hk : KeysAt s.heap a kS K keys.toList)
    (h : ∀ s' out, Upd (fun b => b = a ∨ b = kS) s s' → s'.heap.PlainList a (List.toArray out) → StableBy K vs out → P (.done (.ret .none)) s') :
    wpAny (model pw w) A (ksk_end a false vs.toArray e1 (.ref kS) keys) P E s := by
  have hzs : (keys.zip vs.toArray).size = vs.length := by rw [Array.size_zip, hlen, List.size_toArray, Nat.min_self]
  obtain ⟨a₀, h0⟩ : ∃ a₀ : Array Keyed, a₀ = keys.zip vs.toArray := ⟨_, rfl⟩
  have hz0 : a₀.size = vs.length := by rw [h0]; exact hzs
  unfold ksk_end
  simp only [Bool.false_eq_true, if_false]
  rw [← h0]
  by_cases h2 : vs.toArray.size < 2
  · rw [if_pos h2, if_pos h2]
    refine wpAny_bind (wpAny_pure ?_)
    rw [StateT.run_pure]
    refine wpAny_bind (wpAny_pure ?_)
    dsimp only
    refine sort_tail (π := fun i => i) hkS ha hne hlen h64 ?_ ?_ rfl ?_ h
    · rw [← h0]
      exact fun k hk => ⟨hk, rfl⟩
    · rw [← h0]
    · rw [← h0]
      intro i j hij hj
      rw [List.size_toArray] at h2
      omega
  · rw [if_neg h2, if_neg h2]
    rw [List.size_toArray] at h2
    have ek : keys = keys.toList.toArray := by simp
    have hkk : ∀ Q : SortKind → Shared → Prop, Q oneType' s → wpAny (model pw w) A (keyKind' keys) Q E s := fun Q hq => by
      rw [ek]
      refine keyKind_lists (fun k hm => ?_) (fun hnil => ?_) hq
      · obtain ⟨j, hj⟩ := List.getElem?_of_mem hm
        obtain ⟨ka, kvs, r1, r2, _⟩ := hk j k hj
        exact ⟨ka, _, r1, r2⟩
      · have : keys.toList.length = 0 := by rw [hnil]; rfl
        rw [Array.length_toList] at this
        omega
    refine wpAny_bind (hkk _ ?_)
    have S0 : SI a₀ (fun i => i) (SortSt.mk' oneType' a₀ #[] 7 none) := ⟨⟨Array.Perm.refl _, rfl, rfl, rfl⟩, fun k hk => ⟨hk, rfl⟩⟩
    have hO : OneK pw w A s a₀ K := by rw [h0]; exact oneK_of hu hk
    refine wpAny_bind (wpAny_mono (wpS_sortRunsI (K := K) (a₀ := a₀) (st := SortSt.mk' oneType' a₀ #[] 7 none)
      (Q := fun _ st' => ∃ π, (∀ k, k < a₀.size → π k < a₀.size ∧ (arrOf st')[k]? = a₀[π k]?) ∧ (arrOf st').Perm a₀ ∧ failedOf st' = none ∧ Asc K π a₀.size)
      hO S0 (by omega) (by omega) fun st' π a1 a2 a3 a4 => ⟨π, a1, a2, a3, a4⟩) ?_ fun _ _ e => e)
    rintro ⟨⟨⟩, st'⟩ s' ⟨rfl, π, b1, b2, b3, b4⟩
    dsimp only
    subst h0
    exact sort_tail (π := π) hkS ha hne hlen h64 b1 b2 b3 b4 h
end
end
end Mine
namespace Mine
open PySem PySem.W PySem.Calls PyProof.Rows
noncomputable section
section
variable {w : World} {A : Around} {s : Shared} {E : Value → Shared → Prop} {K : Nat → List Nat} {a kS : Addr} {vs : List Value} {e1 : Nat} {P : PySem.Fin → Shared → Prop}
/-- what a key function must do: from s on, whatever is new or changed in W apart -/
noncomputable def KeyCall (w : World) (A : Around) (s₀ : Shared) (f : Value) (vs : List Value) (K : Nat → List Nat) : Prop :=
  ∀ (i : Nat) (v : Value) (s : Shared) (Q : Value → Shared → Prop) (E : Value → Shared → Prop), vs[i]? = some v → Upd noW s₀ s →
    (∀ ka kvs s', Upd noW s s' → s'.heap.PlainList ka (List.toArray kvs) → IntsAre kvs (zs (K i)) → (hs s ≤ ka ∨ ka < hs s₀) → Q (.ref ka) s') → wpAny (model pw w) A (call f [v] []) Q E s
theorem sort_rest {f : Value} {s₀ : Shared} (hu : A.units < cLine) (hkey : KeyCall w A s₀ f vs K) (U0 : Upd noW s₀ s) (hkS : s.heap.get? kS = some (seqObj "list" #[] 0)) (ha : s.heap.get? a = some (seqObj "list" #[] e1)) (hne : kS ≠ a) (h64 : vs.length < 64)
    (a0 : hs s₀ ≤ a) (k0 : hs s₀ ≤ kS)
    (h : ∀ s' out, Upd (fun b => b = a ∨ b = kS) s s' → s'.heap.PlainList a (List.toArray out) → StableBy K vs out → P (.done (.ret .none)) s') :
    wpAny (model pw w) A (ksk_rest a f false vs.toArray e1 (.ref kS)) P E s := by
  have ak : a < hs s ∧ kS < hs s := ⟨Heap.lt_size ha, Heap.lt_size hkS⟩
  unfold ksk_rest
  refine wpAny_bind (wpAny_rule ?_)
  rw [List.forIn_toArray]
  refine wpAny_bind (ksk_fold (fun i s' => ∃ kA e, s'.heap.get? kS = some (seqObj "list" kA e) ∧ s'.heap.get? a = some (seqObj "list" #[] e1) ∧ Upd (fun b => b = kS) s s' ∧ KeysAt s'.heap a kS K kA.toList ∧ kA.size = i) vs 0 s
    ⟨#[], 0, hkS, ha, .refl _ _, (fun j k e => by simp at e), rfl⟩ ?step ?done)
  case step =>
    rintro j x s' hx ⟨kA, e, g1, g2, U, hk, hsz⟩
    rw [Nat.zero_add] at hsz ⊢
    have hj : j < vs.length := (List.getElem?_eq_some_iff.mp hx).1
    have U0' : Upd noW s₀ s' := U0.then_fresh (U.mono fun b q => .inr (q ▸ k0))
    refine wpAny_bind (wpAny_attempt (hkey j x s' _ _ hx U0' fun ka kvs s₂ U2 hl hi hka => ?_))
    dsimp only
    have n1 : ka ≠ kS := fun q => by
      rcases hka with p | p
      · exact absurd (Nat.lt_of_lt_of_le ak.2 U.size) (Nat.not_lt.mpr (q ▸ p))
      · exact absurd p (Nat.not_lt.mpr (q ▸ k0))
    have n2 : ka ≠ a := fun q => by
      rcases hka with p | p
      · exact absurd (Nat.lt_of_lt_of_le ak.1 U.size) (Nat.not_lt.mpr (q ▸ p))
      · exact absurd p (Nat.not_lt.mpr (q ▸ a0))
    have g1' := U2.get id g1
    have g2' := U2.get id g2
    have hk' : KeysAt s₂.heap a kS K kA.toList := hk.keep fun b o _ _ e => U2.get id e
    refine wpAny_bind (listUpdate_at g1' rfl ?_ (by rw [sizeLine_eq]; omega) (by rw [Array.size_push, sizeLine_eq]; omega))
    have s1 := Heap.SameBut.update s₂.heap kS (Obj.mapSeq (·.push (.ref ka)))
    have hpl : (s₂.heap.update kS (Obj.mapSeq (·.push (.ref ka)))).PlainList kS (kA.push (.ref ka)) := pl_update (items := kA) (f := (·.push (.ref ka))) ⟨e, g1'⟩
    obtain ⟨c2, hc2⟩ := hpl
    have U3 : Upd (fun b => b = kS) s₂ { s₂ with heap := s₂.heap.update kS (Obj.mapSeq (·.push (.ref ka))) } := Upd.same (t := s₂.toks) s1 rfl
    refine wpAny_pure ⟨rfl, kA.push (.ref ka), c2, hc2, (s1.2 a hne.symm).trans g2', (U.trans U2.up).trans U3, ?_, by rw [Array.size_push]; omega⟩
    have ea : (kA.push (Value.ref ka)).toList = kA.toList ++ [Value.ref ka] := by simp
    rw [ea]
    have hlen : kA.toList.length = j := by rw [Array.length_toList]; exact hsz
    exact (hk'.keep fun b o q _ e => (s1.2 b q).trans e).snoc (hl.at fun o e => (s1.2 ka n1).trans e) (by rw [hlen]; exact hi) n1 n2
  case done =>
    rintro s' ⟨kA, e, g1, g2, U, hk, hsz⟩
    rw [Nat.zero_add] at hsz
    refine wpAny_bind (listItems_at g1 rfl ?_)
    exact sort_end hu g1 g2 hne hsz h64 hk fun s₂ out U2 hl hst => h s₂ out ((U.mono fun b q => .inr q).trans U2) hl hst
end
end
end Mine
namespace Mine
open PySem PySem.W PySem.Calls PyProof.Rows
noncomputable section
section
variable {w : World} {A : Around} {s : Shared} {E : Value → Shared → Prop} {K : Nat → List Nat} {a kS : Addr} {vs : List Value} {P : PySem.Fin → Shared → Prop}
theorem sort_tree {f : Value} {s₀ : Shared} {n : Nat} (hu : A.units < cLine) (hkey : KeyCall w A s₀ f vs K) (U0 : Upd noW s₀ s) (ho : s.heap.get? a = some (seqObj "list" vs.toArray n)) (a0 : hs s₀ ≤ a) (h64 : vs.length < 64)
    (h : ∀ s' out, Upd (fun b => b = a) s s' → s'.heap.PlainList a (List.toArray out) → StableBy K vs out → P (.done (.ret .none)) s') :
    wpAny (model pw w) A (ksk_tree a f false) P E s := by
  have hal : a < hs s := Heap.lt_size ho
  have s1 := Heap.SameBut.update s.heap a (Obj.mapSeq fun _ => (#[] : Array Value))
  have hpl : (s.heap.update a (Obj.mapSeq fun _ => (#[] : Array Value))).PlainList a #[] := pl_update (items := vs.toArray) (f := fun _ => #[]) ⟨n, ho⟩
  obtain ⟨e1, ho1⟩ := hpl
  have V1 : Upd (fun b => b = a) s { s with heap := s.heap.update a (Obj.mapSeq fun _ => (#[] : Array Value)) } := Upd.same (t := s.toks) s1 rfl
  unfold ksk_tree
  refine wpAny_bind (listItems_at ho rfl ?_)
  refine wpAny_bind (listUpdate_at ho rfl ?_ (by rw [List.size_toArray, sizeLine_eq]; omega) (Nat.zero_le _))
  have e2 : ({ s with heap := s.heap.update a (Obj.mapSeq fun _ => (#[] : Array Value)) } : Shared).heap = s.heap.update a (Obj.mapSeq fun _ => (#[] : Array Value)) := rfl
  generalize ({ s with heap := s.heap.update a (Obj.mapSeq fun _ => (#[] : Array Value)) } : Shared) = s₁ at V1 e2 ⊢
  rw [← e2] at ho1
  refine wpAny_bind (seqEpoch_at ho1 rfl ?_)
  refine wpAny_bind (wpAny_newTuple ?_ (by show vs.length ≤ _; rw [sizeLine_eq]; omega))
  refine wpAny_bind (wpAny_newList ?_ (Nat.zero_le _))
  refine wpAny_holding ?_
  have fin : ∀ (s₂ : Shared) kS, Upd noW s₁ s₂ → hs s₁ ≤ kS → s₂.heap.get? kS = some (seqObj "list" #[] 0) → wpAny (model pw w) A (ksk_rest a f false vs.toArray e1 (.ref kS)) P E s₂ := by
    intro s₂ kS U2 hk2 hkS
    have a1 : a < hs s₁ := Heap.lt_size ho1
    have U0' : Upd noW s₀ s₂ := (U0.then_fresh (V1.mono fun b q => .inr (q ▸ a0))).trans U2
    refine sort_rest hu hkey U0' hkS (U2.get id ho1) (Nat.ne_of_gt (Nat.lt_of_lt_of_le a1 hk2)) h64 a0 (Nat.le_trans a0 (Nat.le_of_lt (Nat.lt_of_lt_of_le a1 hk2))) fun s' out U3 hl hst => h s' out ?_ hl hst
    exact Upd.then_fresh V1 ((U2.up.trans U3).mono fun b q => by
      rcases q with q | q
      · exact .inl q
      · exact .inr (q ▸ Nat.le_trans V1.size hk2))
  refine fin _ _ (Upd.of_heap (tk := s₁.toks) ?_ fun b o _ e => Heap.get?_push_of_some _ (Heap.get?_push_of_some _ e)) ?_ (Heap.get?_push_size _ rfl)
  · rw [Heap.size_push, Heap.size_push]; omega
  · show s₁.heap.objs.size ≤ (s₁.heap.push _).objs.size
    rw [Heap.size_push]; omega
/-- what collecting an iterable gives -/
noncomputable def Collects (w : World) (A : Around) (s : Shared) (v : Value) (Pv : List Value → Prop) : Prop :=
  ∀ (Q : List Value → Shared → Prop) (E : Value → Shared → Prop), (∀ vs s', Pv vs → Upd noW s s' → Q vs s') → wpAny (model pw w) A (collect v) Q E s
theorem sorted_key {v : Value} {q : Addr} {Pv : List Value → Prop} {Q : Value → Shared → Prop} (hu : A.in1.in1.units < cLine) (hcol : Collects w A.in1 s v Pv) (h64 : ∀ vs, Pv vs → vs.length < 64) (hkey : ∀ vs, Pv vs → KeyCall w A.in1.in1 s (.ref q) vs K)
    (h : ∀ D out vs s', hs s ≤ D → Upd noW s s' → s'.heap.PlainList D (List.toArray out) → Pv vs → StableBy K vs out → Q (.ref D) s') :
    wpAny (model pw w) A (call (.builtin "sorted") [v] [(Str.ofString "key", .ref q)]) Q E s := by
  refine call_function_entry_kw kind_sorted plain_sorted entry_sorted (ksk_s1 _ _) ?_
  unfold Builtin.«sorted»
  refine wpAny_bind (m := checkCount "sorted" 1 1 _) (wpAny_pure ?_)
  refine wpAny_bind (hcol _ _ fun vs s₁ hvs U1 => ?_)
  have h64' := h64 vs hvs
  refine wpAny_bind (wpAny_newList ?_ (by rw [sizeLine_eq]; omega))
  have hl : (s₁.heap.push (seqObj "list" vs.toArray 0)).get? s₁.heap.objs.size = some (seqObj "list" vs.toArray 0) := Heap.get?_push_size _ rfl
  have U2 : Upd noW s₁ { s₁ with heap := s₁.heap.push (seqObj "list" vs.toArray 0) } := .push (t := s₁.toks)
  have fin : ∀ s₂ : Shared, Upd noW s₁ s₂ → s₂.heap.get? s₁.heap.objs.size = some (seqObj "list" vs.toArray 0) → 
      wpAny (model pw w) A.in1 (do let _ ← holding [.ref s₁.heap.objs.size] (call (.builtin "list.sort") [.ref s₁.heap.objs.size] [(Str.ofString "key", .ref q)]); ret (.ref s₁.heap.objs.size)) (fun fin s' => ∃ v, fin = .done (.ret v) ∧ Q v s') E s₂ := by
    intro s₂ U2 ho
    refine wpAny_bind (wpAny_holding (wpAny_call_entry_kw slot_list_sort ⟨_, ho, rfl⟩ entry_list_sort ?_ (ksk_l1 _ _)))
    rw [ksk_t1]
    refine sort_tree hu (hkey vs hvs) (U1.trans U2) ho U1.size h64' fun s' out U3 hl3 hst => ?_
    refine ⟨_, rfl, ?_⟩
    refine wpAny_pure ⟨_, rfl, ?_⟩
    exact h _ out vs s' U1.size ((U1.trans U2).then_fresh (U3.mono fun b q => .inr (q ▸ U1.size))) hl3 hvs hst
  exact fin _ U2 hl
end
end
end Mine
namespace Mine
open PySem PySem.W PySem.Calls PyProof.Rows
noncomputable abbrev KVs := List (Str × Value)
section
variable {w : World} {A : Around} {R : Result → Shared → Prop} {s : Shared} {E : Value → Shared → Prop}
noncomputable abbrev sk (w : World) : PySem.KeyKind pw w Str := PySem.strKind pw w
theorem dict_loop {kx vx target iter : Expr} {ifs : List Expr} {scope : Scope} {pos : Pos} {it : Value} {D : Addr} {cenv : Env} {fp wr : List Addr} {n : Nat} {St : Nat → Heap → Prop} {B : Nat → (Str → Option Value) → (Str → Option Value) → Prop} {ok : Env → Prop} {m₀ : Str → Option Value} (F : Feed w A it target fp wr n St B ok) (hok : ok cenv)
    (hDC : D ≠ cenv.locals) (hDf : D ∉ fp) (hCf : cenv.locals ∉ fp) (hn : n ≤ 10000) (hst : St 0 s.heap) (hacc : s.heap.DictOf (sk w) D []) (hns : s.heap.Ns cenv.locals m₀)
    (Wd : Addr → Prop) (hWd : ∀ b, Wd b → b ∉ fp ∧ b ≠ D ∧ b ≠ cenv.locals) (O : Nat → KVs → Shared → Prop) (hO : O 0 [] s)
    (stable : ∀ i ys s s', O i ys s → Upd (fun b => b ∈ wr ∨ b = cenv.locals ∨ b = D) s s' → O i ys s')
    (step : ∀ i ys s₁ m m' (E' : Value → Shared → Prop), i < n → O i ys s₁ → B i m m' → s₁.heap.Ns cenv.locals m' → s₁.heap.DictOf (sk w) D ys → Upd (fun b => Wd b ∨ b ∈ wr ∨ b = cenv.locals ∨ b = D) s s₁ →
      wpAny (model pw w) A (testsOf ifs cenv) (fun t s₂ => if t = true then wpAny (model pw w) A (eval kx cenv) (fun kv s₃ => wpAny (model pw w) A (eval vx cenv) (fun vv s₄ => ∃ k, (sk w).is k kv = true ∧ Upd Wd s₁ s₄ ∧ O (i + 1) (stored ys k vv) s₄) E' s₃) E' s₂ else Upd Wd s₁ s₂ ∧ O (i + 1) ys s₂) E' s₁)
    (fin : ∀ s' ys m, O n ys s' → ys.length ≤ n → s'.heap.DictOf (sk w) D ys → s'.heap.Ns cenv.locals m → Upd (fun b => Wd b ∨ b ∈ wr ∨ b = cenv.locals ∨ b = D) s s' → R (.ok .next) s') :
    codeAny (model pw w) A (.compLoop (.DictComp kx vx [⟨target, iter, ifs, 0⟩] scope pos) 0 it (.ref D) cenv) R s := by
  refine codeAny_loop rfl (fun k s' => ∃ i ys m, k = n - i ∧ i ≤ n ∧ ys.length ≤ i ∧ St i s'.heap ∧ O i ys s' ∧ s'.heap.DictOf (sk w) D ys ∧ s'.heap.Ns cenv.locals m ∧ Upd (fun b => Wd b ∨ b ∈ wr ∨ b = cenv.locals ∨ b = D) s s') (fun k s' hI => ?_) n
    ⟨0, [], m₀, rfl, Nat.zero_le _, Nat.le_refl _, hst, hO, hacc, hns, .refl _ _⟩
  obtain ⟨i, ys, m, rfl, hi, hys, hst', hO', hacc', hns', U⟩ := hI
  show wpAny _ A ((compTurn (.DictComp kx vx [⟨target, iter, ifs, 0⟩] scope pos) 0 it (.ref D) cenv).onRaise (fun x => do noteFrame x cenv; theTreesLotGoes x)) _ _ s'
  refine wpAny_noted ?_
  rw [compTurn_dict]
  refine wpAny_bind (wpAny_standAt (wpAny_bind ?_))
  rcases Nat.lt_or_ge i n with hlt | hge
  · refine wpAny_mono (F.turn i s' cenv m (fun s₃ => ∃ m', Upd (fun b => b ∈ wr ∨ b = cenv.locals) s' s₃ ∧ St (i + 1) s₃.heap ∧ s₃.heap.Ns cenv.locals m' ∧ B i m m') _ hlt hst' hok hCf hns' fun s₃ m' a b c d => ⟨m', a, b, c, d⟩) (fun r s₁ q => ?_) fun _ _ q => q
    obtain ⟨v, rfl, q⟩ := q
    refine wpAny_bind (wpAny_mono q (fun _ s₂ q => wpAny_bind (wpAny_mono q (fun _ s₃ q => ?_) fun _ _ q => q)) fun _ _ q => q)
    obtain ⟨m', U₃, hst₃, hns₃, hB⟩ := q
    have hO₃ : O i ys s₃ := stable _ _ _ _ hO' (U₃.mono fun b h => h.elim .inl fun h => .inr (.inl h))
    have hacc₃ : s₃.heap.DictOf (sk w) D ys := hacc'.at fun o e => U₃.get (fun q => q.elim (fun q => hDf (F.sub _ q)) hDC) e
    have U₃' : Upd (fun b => Wd b ∨ b ∈ wr ∨ b = cenv.locals ∨ b = D) s s₃ := U.trans (U₃.mono fun b h => .inr (h.elim .inl fun h => .inr (.inl h)))
    refine wpAny_bind (wpAny_mono (step i ys s₃ m m' _ hlt hO₃ hB hns₃ hacc₃ U₃') (fun t s₄ q => ?_) fun _ _ q => q)
    cases t with
    | false =>
      simp only [Bool.false_eq_true, if_false] at q ⊢
      obtain ⟨U₄, hO₄⟩ := q
      refine wpAny_pure ⟨rfl, n - (i + 1), by omega, i + 1, ys, m', rfl, hlt, by omega, F.frame _ _ _ hst₃ (fun b hb o e => U₄.get (fun q => (hWd b q).1 hb) e), hO₄, hacc₃.at fun o e => U₄.get (fun q => (hWd _ q).2.1 rfl) e, U₄.ns (fun q => (hWd _ q).2.2 rfl) hns₃, U₃'.trans (U₄.mono fun _ h => .inl h)⟩
    | true =>
      simp only [if_true] at q ⊢
      refine wpAny_bind (wpAny_bind (wpAny_mono q (fun kv s₅ q => wpAny_bind (wpAny_holding (wpAny_mono q (fun vv s₆ q => wpAny_bind (wpAny_standAt (wpAny_holding ?_))) fun _ _ q => q))) fun _ _ q => q))
      obtain ⟨k, hk, U₅, hO₅⟩ := q
      have hacc₅ : s₆.heap.DictOf (sk w) D ys := hacc₃.at fun o e => U₅.get (fun q => (hWd _ q).2.1 rfl) e
      refine wpAny_dictSet_pairs (hsz := Nat.le_trans (Nat.le_trans hys (Nat.le_trans hi hn)) sz10k) hk hacc₅ fun h' hl' hs' => ?_
      have U₆ : Upd (fun b => b = D) s₆ { s₆ with heap := h', toks := s₆.toks + 1 } := Upd.same hs' rfl
      have hlen : (stored ys k vv).length ≤ i + 1 := Nat.le_trans (stored_length_le ys k vv) (Nat.succ_le_succ hys)
      refine wpAny_pure ⟨rfl, n - (i + 1), by omega, i + 1, stored ys k vv, m', rfl, hlt, hlen, F.frame _ _ _ hst₃ (fun b hb o e => U₆.get (fun q => hDf (q ▸ hb)) (U₅.get (fun q => (hWd b q).1 hb) e)), stable _ _ _ _ hO₅ (U₆.mono fun b h => .inr (.inr h)), hl', U₆.ns (fun q => hDC q.symm) (U₅.ns (fun q => (hWd _ q).2.2 rfl) hns₃), (U₃'.trans (U₅.mono fun _ h => .inl h)).trans (U₆.mono fun b h => .inr (.inr (.inr h)))⟩
  · have e : i = n := Nat.le_antisymm hi hge
    subst e
    refine F.done s' _ _ hst' fun s₁ U₁ => wpAny_pure ?_
    exact fin s₁ ys m (stable _ _ _ _ hO' (U₁.mono fun b h => .inl h)) hys (hacc'.at fun o e => U₁.get (fun q => hDf (F.sub _ q)) e) (U₁.ns (fun q => hCf (F.sub _ q)) hns') (U.trans (U₁.mono fun b h => .inr (.inl h)))
end
end Mine
namespace Mine
open PySem PySem.W PySem.Calls PyProof.Rows
section
variable {w : World} {A : Around} {s : Shared} {E : Value → Shared → Prop} {env : Env}
/-- what a list comprehension needs once its iterator stands -/
structure DC (w : World) (A : Around) (env : Env) (target kx vx : Expr) (ifs : List Expr) (scope : Scope) (cl : List (Str × Addr)) (it : Value) (s₂ : Shared) (fin : Addr → Addr → KVs → Shared → Prop)
    (fp wr : List Addr) (n : Nat) (St : Nat → Heap → Prop) (B : Nat → (Str → Option Value) → (Str → Option Value) → Prop) (ok : Env → Prop) (Wd : Addr → Prop) (O : Addr → Addr → Nat → KVs → Shared → Prop) : Prop where
  feed : Feed w A it target fp wr n St B ok
  few : n ≤ 10000
  st : St 0 s₂.heap
  fpl : ∀ b ∈ fp, b < s₂.heap.objs.size
  okC : ∀ C, ok (compEnvC scope cl C env)
  wd : ∀ b, Wd b → b ∉ fp ∧ b < s₂.heap.objs.size
  start : ∀ C D s', s₂.heap.objs.size ≤ C → s₂.heap.objs.size ≤ D → C ≠ D → Upd noW s₂ s' → O C D 0 [] s'
  stable : ∀ C D i ys s s', O C D i ys s → Upd (fun b => b ∈ wr ∨ b = C ∨ b = D) s s' → O C D i ys s'
  step : ∀ C D i ys s₁ m m' (E' : Value → Shared → Prop), s₂.heap.objs.size ≤ C → s₂.heap.objs.size ≤ D → C ≠ D → i < n → O C D i ys s₁ → B i m m' → s₁.heap.Ns C m' → s₁.heap.DictOf (sk w) D ys → Upd (fun b => Wd b ∨ b ∈ wr) s₂ s₁ →
      wpAny (model pw w) A (testsOf ifs (compEnvC scope cl C env)) (fun t s₃ => if t = true then wpAny (model pw w) A (eval kx (compEnvC scope cl C env)) (fun kv s₄ => wpAny (model pw w) A (eval vx (compEnvC scope cl C env)) (fun vv s₅ => ∃ k, (sk w).is k kv = true ∧ Upd Wd s₁ s₅ ∧ O C D (i + 1) (stored ys k vv) s₅) E' s₄) E' s₃ else Upd Wd s₁ s₃ ∧ O C D (i + 1) ys s₃) E' s₁
  done : ∀ C D ys s' m, s₂.heap.objs.size ≤ C → s₂.heap.objs.size ≤ D → C ≠ D → O C D n ys s' → ys.length ≤ n → s'.heap.DictOf (sk w) D ys → s'.heap.Ns C m → Upd (fun b => Wd b ∨ b ∈ wr) s₂ s' → fin C D ys s'
theorem dict_block {target kx vx iter : Expr} {ifs : List Expr} {scope : Scope} {cl : List (Str × Addr)} {pos : Pos} {it : Value} {s₂ : Shared} {fin : Addr → Addr → KVs → Shared → Prop}
    {fp wr : List Addr} {n : Nat} {St : Nat → Heap → Prop} {B : Nat → (Str → Option Value) → (Str → Option Value) → Prop} {ok : Env → Prop} {Wd : Addr → Prop} {O : Addr → Addr → Nat → KVs → Shared → Prop}
    {RR : Value → Addr → Result → Shared → Prop} (hcell : ∀ y ∈ scope.names, y.2 ≠ .cell) (hkind : scope.kind = .function)
    (H : DC w A env target kx vx ifs scope cl it s₂ fin fp wr n St B ok Wd O) (hR : ∀ C D ys s', fin C D ys s' → RR (.ref D) C (.ok .next) s') :
    wpAny (model pw w) A newDict (fun acc s₃ => wpAny (model pw w) A (newFunctionEnv scope env.globals cl [] env.qual none .none (some env)) (fun cenv s₄ =>
      codeAny (model pw w) A (.compStart (.DictComp kx vx [⟨target, iter, ifs, 0⟩] scope pos) 0 it acc { cenv with scope := relabel scope env }) (RR acc cenv.locals) s₄) E s₃) E s₂ := by
  have hnew : (s₂.heap.push { cls := .type "dict", dict := none, data := .dict #[] }).DictOf (sk w) s₂.heap.objs.size [] := Heap.DictOf.new s₂.heap
  refine wpAny_newObj_type (wpAny_newFunctionEnv hcell (by intro y hy; simp at hy) (fun h₁ hns₁ hsb₁ => ?_) hkind)
  dsimp only at hns₁ hsb₁ ⊢
  generalize hH2 : s₂.heap.push { cls := .type "dict", dict := none, data := .dict #[] } = H2 at hns₁ hsb₁ hnew ⊢
  have hC : H2.objs.size = s₂.heap.objs.size + 1 := by rw [← hH2, Heap.size_push]
  have hDC : s₂.heap.objs.size ≠ H2.objs.size := by rw [hC]; exact Nat.ne_of_lt (Nat.lt_succ_self _)
  have hCle : s₂.heap.objs.size ≤ H2.objs.size := by rw [hC]; exact Nat.le_succ _
  have below : ∀ b, b < s₂.heap.objs.size → b ≠ H2.objs.size ∧ b ≠ s₂.heap.objs.size := fun b hb => ⟨by rw [hC]; exact Nat.ne_of_lt (Nat.lt_succ_of_lt hb), Nat.ne_of_lt hb⟩
  have hDf : s₂.heap.objs.size ∉ fp := fun hm => Nat.lt_irrefl _ (H.fpl _ hm)
  have hCf : H2.objs.size ∉ fp := fun hm => by have := H.fpl _ hm; rw [hC] at this; exact Nat.lt_irrefl _ (Nat.lt_of_succ_lt this)
  have old : ∀ b o, s₂.heap.get? b = some o → h₁.get? b = some o := fun b o e => hsb₁.extBut b o (below b (Heap.lt_size e)).1 (Heap.get?_push_of_some _ (hH2 ▸ Heap.get?_push_of_some _ e))
  have hacc : h₁.DictOf (sk w) s₂.heap.objs.size [] := hnew.at fun o e => hsb₁.extBut _ _ hDC (Heap.get?_push_of_some _ e)
  have hsz : s₂.heap.objs.size ≤ h₁.objs.size := by rw [hsb₁.1, Heap.size_push]; exact Nat.le_succ_of_le hCle
  have loop : ∀ s₃ : Shared, s₃ = { s₂ with heap := h₁, toks := s₂.toks + ([] : List (Str × Value)).length } →
      codeAny (model pw w) A (.compLoop (.DictComp kx vx [⟨target, iter, ifs, 0⟩] scope pos) 0 it (.ref s₂.heap.objs.size) (compEnvC scope cl H2.objs.size env)) (RR (.ref s₂.heap.objs.size) H2.objs.size) s₃ := by
    rintro s₃ rfl
    have U₀ : Upd noW s₂ { s₂ with heap := h₁, toks := s₂.toks + ([] : List (Str × Value)).length } := Upd.of_heap hsz fun b o _ e => old b o e
    have all : ∀ s', Upd (fun b => Wd b ∨ b ∈ wr ∨ b = H2.objs.size ∨ b = s₂.heap.objs.size) { s₂ with heap := h₁, toks := s₂.toks + ([] : List (Str × Value)).length } s' → Upd (fun b => Wd b ∨ b ∈ wr) s₂ s' := fun s' u =>
      (U₀.mono fun _ h => h.elim).then_fresh (u.mono fun b h => by
        rcases h with h | h | h | h
        · exact .inl (.inl h)
        · exact .inl (.inr h)
        · exact .inr (h ▸ hCle)
        · exact .inr (h ▸ Nat.le_refl _))
    refine dict_loop (cenv := compEnvC scope cl H2.objs.size env) (m₀ := fun x => ([] : List (Str × Value)).reverse.lookup x) H.feed (H.okC _) hDC hDf hCf H.few (H.feed.frame _ _ _ H.st fun b _ o e => old b o e) hacc hns₁ Wd (fun b hb => ⟨(H.wd b hb).1, (below b (H.wd b hb).2).2, (below b (H.wd b hb).2).1⟩)
      (O H2.objs.size s₂.heap.objs.size) (H.start _ _ _ hCle (Nat.le_refl _) hDC.symm U₀) (fun i ys s s' h u => H.stable _ _ _ _ _ _ h u)
      (fun i ys s₁ m m' E' hi hO hB hn hl u => H.step _ _ _ _ _ _ _ _ hCle (Nat.le_refl _) hDC.symm hi hO hB hn hl (all _ u)) fun s' ys m hO hy hl hn u => ?_
    exact hR _ _ ys _ (H.done _ _ _ _ _ hCle (Nat.le_refl _) hDC.symm hO hy hl hn (all _ u))
  exact codeAny_compStart_dict (loop _ rfl) (H.feed.self 0 _ _ _ (H.feed.frame _ _ _ H.st fun b _ o e => old b o e) (loop _ rfl))
/-- a list comprehension as a value -/
theorem dict_comp {target kx vx iter : Expr} {ifs : List Expr} {scope : Scope} {cl : List (Str × Addr)} {pos : Pos} {Q : Value → Shared → Prop}
    (hclos : closureFor scope env = pure cl) (hcell : ∀ y ∈ scope.names, y.2 ≠ .cell) (hkind : scope.kind = .function) (hnames : ∀ y ∈ scope.names, y.2 = .local → scope.names.lookup y.1 = some .local)
    (h : wpAny (model pw w) A (eval iter env) (fun xv s₁ => wpAny (model pw w) A (pyIter xv) (fun it s₂ =>
      ∃ fp wr n St B ok Wd O, DC w A env target kx vx ifs scope cl it s₂ (fun C D _ys s' => (∃ m, s'.heap.Ns C m) ∧ ∀ s'', Upd (fun b => b = C) s' s'' → Q (.ref D) s'') fp wr n St B ok Wd O) E s₁) E s)
    (hs : ∀ x, foldedSetIterable iter env x = pure x := by intro _; rfl) :
    wpAny (model pw w) A (eval (.DictComp kx vx [⟨target, iter, ifs, 0⟩] scope pos) env) Q E s := by
  rw [arm_eval_DictComp]
  refine wpAny_comprehension_free (use := none) rfl hs hclos hkind hnames (wpAny_mono h (fun xv s₁ h₁ => wpAny_mono h₁ (fun it s₂ h₂ => ?_) fun _ _ e => e) fun _ _ e => e)
  obtain ⟨fp, wr, n, St, B, ok, Wd, O, H⟩ := h₂
  refine dict_block (RR := fun acc C => compPost (model pw w) A E none Q acc C) hcell hkind H ?_
  rintro C D ys s' ⟨⟨m, hn⟩, hQ⟩
  exact ⟨m, hn, fun h' hs' => hQ _ (Upd.same (t := s'.toks) hs' rfl)⟩
/-- a list comprehension stored at once -/
theorem dict_comp_to {target kx vx iter : Expr} {ifs : List Expr} {scope : Scope} {cl : List (Str × Addr)} {pos py spos : Pos} {y : Str} {rest : List Stmt} {Q : Flow → Shared → Prop}
    (hsw : swapsWith (.DictComp kx vx [⟨target, iter, ifs, 0⟩] scope pos) (some (.Name y py)) spos.line env = pure true)
    (hclos : closureFor scope env = pure cl) (hcell : ∀ y ∈ scope.names, y.2 ≠ .cell) (hkind : scope.kind = .function) (hnames : ∀ y ∈ scope.names, y.2 = .local → scope.names.lookup y.1 = some .local)
    (h : wpAny (model pw w) A (eval iter env) (fun xv s₁ => wpAny (model pw w) A (pyIter xv) (fun it s₂ =>
      ∃ fp wr n St B ok Wd O, DC w A env target kx vx ifs scope cl it s₂ (fun C D _ys s' => wpAny (model pw w) A (storeName env y (.ref D)) (fun _ s'' => (∃ m, s''.heap.Ns C m) ∧ ∀ s₃, Upd (fun b => b = C) s'' s₃ → wpAny (model pw w) A (execs rest env) Q E s₃) E s') fp wr n St B ok Wd O) E s₁) E s)
    (hs : ∀ x, foldedSetIterable iter env x = pure x := by intro _; rfl) :
    wpAny (model pw w) A (execs (.Assign [.Name y py] (.DictComp kx vx [⟨target, iter, ifs, 0⟩] scope pos) spos :: rest) env) Q E s := by
  refine wpAny_execs_cons ?_
  rw [exec_Assign_Name_used _ _ _ _ hsw]
  refine wpAny_bind (wpAny_standAt (wpAny_bind ?_))
  show wpAny _ A (do let _ ← comprehension (.DictComp kx vx [⟨target, iter, ifs, 0⟩] scope pos) scope env _ newDict false (eval iter env) (some (assign (.Name y py) env))) _ _ s
  refine wpAny_bind (wpAny_mono (wpAny_comprehension_free (use := some (assign (.Name y py) env)) (Q := fun _ s' => wpAny (model pw w) A (execs rest env) Q E s') rfl hs hclos hkind hnames
    (wpAny_mono h (fun xv s₁ h₁ => wpAny_mono h₁ (fun it s₂ h₂ => ?_) fun _ _ e => e) fun _ _ e => e)) (fun _ s' hq => wpAny_pure (wpAny_pure hq)) fun _ _ e => e)
  obtain ⟨fp, wr, n, St, B, ok, Wd, O, H⟩ := h₂
  refine dict_block (RR := fun acc C => compPost (model pw w) A E (some (assign (.Name y py) env)) (fun _ s' => wpAny (model pw w) A (execs rest env) Q E s') acc C) hcell hkind H ?_
  intro C D ys s' hq
  show wpAny _ A (assign (.Name y py) env (.ref D)) _ _ _
  refine wpAny_assign_Name (wpAny_mono hq (fun _ s'' q => ?_) fun _ _ q => q)
  obtain ⟨⟨m, hn⟩, hQ⟩ := q
  exact ⟨m, hn, fun h' hs' => hQ _ (Upd.same (t := s''.toks) hs' rfl)⟩
end
end Mine
namespace Mine
open PySem PySem.W PySem.Calls PyProof.Rows
noncomputable section
theorem codeAmong_old {pos : Pos} {cv : Value} (a b : Pos) {c : Value} : ∀ (l : List Value), TriplesOk l → codeAmong pos (l ++ [rawInt a.line, rawInt a.col, c]) = some cv → codeAmong pos l = some cv ∨ cv = c := by
  intro l h
  fun_induction TriplesOk l with
  | case1 =>
    intro e
    simp only [List.nil_append, rawInt, codeAmong] at e
    split at e
    · cases e; exact .inr rfl
    · cases e
  | case2 x t y u z rest ih =>
    intro e
    simp only [List.cons_append, codeAmong] at e ⊢
    split at e
    · rename_i q
      rw [if_pos q]; exact .inl e
    · rename_i q
      rw [if_neg q]; exact ih h e
  | case3 => exact h.elim
noncomputable def lamQ : Str := Str.ofString "law.<locals>.<lambda>"
/-- the table of the law's nested code -/
noncomputable def TabOk (M : Addr → Prop) (h : Heap) : Prop :=
  ∃ ps, h.get? lawTab = some (tabObj ps) ∧ TriplesOk ps.toList ∧ ∀ pos cv, codeAmong pos ps.toList = some cv → ∃ c, cv = .ref c ∧ c ≠ lawTab ∧ ¬ M c ∧ h.CodeRec (.ref c) lamQ
theorem CodeRec.at' {h h' : Heap} {c : Addr} {q : Str} (x : h.CodeRec (.ref c) q) (hk : ∀ o, h.get? c = some o → h'.get? c = some o) : h'.CodeRec (.ref c) q := by
  obtain ⟨c', o, vs, t, e, ho, r⟩ := x
  cases e
  exact ⟨c, o, vs, t, rfl, hk o ho, r⟩
theorem TabOk.keep {M : Addr → Prop} {h h' : Heap} (T : TabOk M h) (hk : ∀ b o, ¬ M b → h.get? b = some o → h'.get? b = some o) (hM : ¬ M lawTab) : TabOk M h' := by
  obtain ⟨ps, e, t, r⟩ := T
  refine ⟨ps, hk _ _ hM e, t, fun pos cv q => ?_⟩
  obtain ⟨c, e1, e2, e3, e4⟩ := r pos cv q
  exact ⟨c, e1, e2, e3, CodeRec.at' e4 fun o ho => hk _ _ e3 ho⟩
theorem TabOk.snoc {M : Addr → Prop} {h h' : Heap} {ps : Array Value} {a : Pos} {c : Addr} (t : TriplesOk ps.toList) (r : ∀ pos cv, codeAmong pos ps.toList = some cv → ∃ c, cv = .ref c ∧ c ≠ lawTab ∧ ¬ M c ∧ h.CodeRec (.ref c) lamQ)
    (hx : ∀ b o, b ≠ lawTab → h.get? b = some o → h'.get? b = some o) (e : h'.get? lawTab = some (tabObj (ps ++ #[rawInt a.line, rawInt a.col, .ref c]))) (n1 : c ≠ lawTab) (n2 : ¬ M c) (n3 : h'.CodeRec (.ref c) lamQ) : TabOk M h' := by
  have el : (ps ++ #[rawInt a.line, rawInt a.col, .ref c]).toList = ps.toList ++ [rawInt a.line, rawInt a.col, .ref c] := by simp
  refine ⟨_, e, ?_, fun pos cv q => ?_⟩
  · rw [el]
    exact TriplesOk_snoc _ _ _ _ t
  · rw [el] at q
    rcases codeAmong_old a a _ t q with q | q
    · obtain ⟨d, e1, e2, e3, e4⟩ := r pos cv q
      exact ⟨d, e1, e2, e3, CodeRec.at' e4 fun o ho => hx _ _ e2 ho⟩
    · exact ⟨c, q, n1, n2, n3⟩
section
variable {w : World} {A : Around} {s : Shared} {E : Value → Shared → Prop} {env : Env} {M : Addr → Prop}
theorem codeHd_law {h : Heap} (B : Base w h) : CodeHd h 161 lawTab := by
  have e : h.get? 161 = some (ho161 w.params) := B.get (by kernel_rfl)
  exact ⟨_, _, _, _, _, _, _, _, _, e, rfl, rfl, rfl, rfl, rfl, rfl, rfl, rfl, by decide⟩
theorem builtins_at {h : Heap} (B : Base w h) : h.BuiltinsAt (mgF w.params) lawTab := by
  have e : h.get? 4 = some (boot_o_4 w.params) := B.get (by kernel_rfl)
  exact ⟨4, _, by kernel_rfl, by decide, by decide, by decide, e, by kernel_rfl, by kernel_rfl, by kernel_rfl⟩
theorem lam_make {name qual : Str} {params : Arguments} {body : Expr} {scope : Scope} {clos : List (Str × Addr)} {pos : Pos} {firstLine : Nat} {Q : Value → Shared → Prop} (B : Base w s.heap) (T : TabOk M s.heap) (hM : ∀ b, M b → b < hs s) (hq : qual = lamQ)
    (hcl : closureFor scope env = pure clos) (hge : env.globals = mainGlobals) (hcode : env.code = .ref 161)
    (h : ∀ f s' pm cv ct, Upd (fun b => b = lawTab) s s' → hs s ≤ f → TabOk M s'.heap → s'.heap.get? f = some { cls := .type "function", data := .func (kla_fn name qual params body scope clos pm cv ct) } → s'.heap.CodeRec cv lamQ → Q (.ref f) s') :
    wpAny (model pw w) A (makeFunction name qual params (.expr body) scope env [] [] [] pos firstLine) Q E s := by
  subst hq
  obtain ⟨ps, e, t, r⟩ := T
  cases hc : codeAmong pos ps.toList with
  | some cv =>
    obtain ⟨c, rfl, c1, c2, c3⟩ := r pos cv hc
    refine kla_makeFunctionHit hcl hge B.g hcode (codeHd_law B) e t hc (builtins_at B) fun ctv h' tk hk hsz => ?_
    have U : Upd noW s { s with heap := h'.push { cls := .type "function", data := .func (kla_fn name lamQ params body scope clos ((mgF w.params "__name__").getD .none) (.ref c) ctv) }, toks := tk } :=
      Upd.of_heap (by rw [Heap.size_push]; exact Nat.le_succ_of_le hsz) fun b o _ e => Heap.get?_push_of_some _ (hk b o e)
    refine h h'.objs.size _ _ _ ctv U.up hsz ?_ (Heap.get?_push_size _ rfl) (CodeRec.at' c3 fun o ho => U.get id ho)
    refine ⟨ps, U.get id e, t, fun pos' cv' q => ?_⟩
    obtain ⟨d, d1, d2, d3, d4⟩ := r pos' cv' q
    exact ⟨d, d1, d2, d3, CodeRec.at' d4 fun o ho => U.get id ho⟩
  | none =>
    refine kla_makeFunction hcl hge B.g hcode (codeHd_law B) e t hc (by decide) (builtins_at B) fun c' ctv h' tk hx hge' hlt hrec htb => ?_
    have U : Upd (fun b => b = lawTab) s { s with heap := h'.push (kla_obj name lamQ params body scope clos ((mgF w.params "__name__").getD .none) c' ctv), toks := tk } :=
      Upd.of_heap (by rw [Heap.size_push]; exact Nat.le_succ_of_le (Nat.le_of_lt (Nat.lt_of_le_of_lt hge' hlt))) fun b o q e => Heap.get?_push_of_some _ (hx b o q e)
    have hc' : c' ≠ lawTab := fun q => by
      rw [q] at hge'
      exact absurd (Heap.lt_size e) (Nat.not_lt.mpr hge')
    have hr2 : (h'.push (kla_obj name lamQ params body scope clos ((mgF w.params "__name__").getD .none) c' ctv)).CodeRec (.ref c') lamQ := hrec.push _
    refine h h'.objs.size _ _ _ ctv U (Nat.le_of_lt (Nat.lt_of_le_of_lt hge' hlt)) ?_ (Heap.get?_push_size _ rfl) hr2
    exact TabOk.snoc t r (fun b o q e => U.get q e) (Heap.get?_push_of_some _ htb) hc' (fun q => absurd (hM c' q) (Nat.not_lt.mpr hge')) hr2
end
end
end Mine
namespace Mine
open PySem PySem.W PySem.Calls PyProof.Rows
noncomputable section
section
variable {w : World} {A : Around} {s : Shared} {E : Value → Shared → Prop} {env : Env}
/-- one entry of a dict under a text -/
theorem dict_at {R : Addr} {kvs : KVs} {x : Str} {t : Tok} {v : Value} {value : Expr} {y : Str} {p pos : Pos} {Q : Value → Shared → Prop}
    (h : wpAny (model pw w) A (eval value env) (fun o s₁ => wpAny (model pw w) A (eval (.Name y p) env) (fun i s₂ => o = .ref R ∧ i = .str x t ∧ s₂.heap.DictOf (sk w) R kvs ∧ valueAt kvs x = some v ∧ Q v { s₂ with toks := s₂.toks + 1 }) E s₁) E s)
    (ht : ∀ o r, letTemporaryGo value o r = pure () := by intro _ _; rfl) :
    wpAny (model pw w) A (eval (.Subscript value (.Name y p) pos) env) Q E s := by
  refine wpAny_Subscript_Name_late (wpAny_mono h (fun o s₁ h₁ => wpAny_mono h₁ (fun i s₂ h₂ => ?_) fun _ _ e => e) fun _ _ e => e) ht
  obtain ⟨rfl, rfl, hd, hv, hq⟩ := h₂
  exact ⟨"dict", _, PySem.F.slot_dict_getitem.lookup, hd.typeIs, wpAny_getItem_of (knd := sk w) (PySem.strKind_is pw w x t) hd.mapOf hv hq⟩
theorem nF {x : Str} {pos : Pos} {c : Addr} {v : Value} {Q : Value → Shared → Prop} (hc : env.cells.lookup x = some c) (hv : s.heap.IsCell c (some v)) (h : Q v s) (hl : env.kindOf x = some .free := by kernel_rfl) (hk : env.scope.kind = .function := by kernel_rfl) (hn : (x == ("__classdict__" : Str)) = false := by kernel_rfl) (hd : (x == ("__debug__" : Str)) = false := by kernel_rfl) :
    wpAny (model pw w) A (eval (.Name x pos) env) Q E s := wpAny_Name (wpAny_loadName_free hk hl hc hv h hn) hd
theorem nC {x : Str} {pos : Pos} {c : Addr} {v : Value} {Q : Value → Shared → Prop} (hc : env.cells.lookup x = some c) (hv : s.heap.IsCell c (some v)) (h : Q v s) (hl : env.kindOf x = some .cell := by kernel_rfl) (hk : env.scope.kind = .function := by kernel_rfl) (hd : (x == ("__debug__" : Str)) = false := by kernel_rfl) :
    wpAny (model pw w) A (eval (.Name x pos) env) Q E s := wpAny_Name (wpAny_loadName_cell hk hl hc hv h) hd
/-- what a lambda «one: TABLE[one]» must look like -/
structure LamOk (x : Str) (params : Arguments) (body : Expr) (scope : Scope) : Prop where
  body : ∃ p1 p2 p3, body = .Subscript (.Name x p1) (.Name (Str.ofString "one") p2) p3
  bind : ∀ (v : Value) (fd : FuncData), fd.params = params → fd.scope = scope → fd.defaults = .none → fd.kwdefaults = .none → bindArgs fd ⟨[v], []⟩ = pure [(Str.ofString "one", v)]
  free : scope.names.lookup x = some .free
  one : scope.names.lookup (Str.ofString "one") = some .local
  nocell : ∀ y ∈ scope.names, y.2 ≠ .cell
  kind : scope.kind = .function
  co : scope.isCoroutine = false
  gen : scope.isGenerator = false
  n1 : (x == ("__classdict__" : Str)) = false
  n2 : (x == ("__debug__" : Str)) = false
theorem lam_call {f c R : Addr} {name x : Str} {params : Arguments} {body : Expr} {scope : Scope} {pm cv ct : Value} {kvs : KVs} {y : Str} {t : Tok} {v : Value} {Q : Value → Shared → Prop} (hr : Room 5 A) (B : Base w s.heap) (ok : LamOk x params body scope)
    (ho : s.heap.get? f = some { cls := .type "function", data := .func (kla_fn name lamQ params body scope [(x, c)] pm cv ct) }) (hrec : s.heap.CodeRec cv lamQ) (hcell : s.heap.IsCell c (some (.ref R))) (hd : s.heap.DictOf (sk w) R kvs) (hv : valueAt kvs y = some v)
    (h : ∀ s', Upd noW s s' → Q v s') : wpAny (model pw w) A (call (.ref f) [.str y t] []) Q E s := by
  obtain ⟨p1, p2, p3, hb⟩ := ok.body
  refine wpAny_call (kla_callFunE (fd := kla_fn name lamQ params body scope [(x, c)] pm cv ct) hr.depth ho rfl ok.co ok.gen rfl hrec ?_)
  rw [ok.bind (.str y t) _ rfl rfl rfl rfl]
  refine wpAny_pure ?_
  refine wpAny_newFunctionEnv ok.nocell ?_ (fun h₀ hn hsb => ?_) ok.kind
  · intro z hz
    rw [List.mem_singleton.mp hz]
    exact ok.one
  have keep : ∀ b o, s.heap.get? b = some o → h₀.get? b = some o := fun b o e => hsb.extBut b o (Nat.ne_of_lt (Heap.lt_size e)) (Heap.get?_push_of_some _ e)
  refine ⟨B.lim.fresh _ hsb, ?_⟩
  have U : Upd noW s { s with heap := h₀, toks := s.toks + [(Str.ofString "one", Value.str y t)].length } := Upd.of_heap (by rw [hsb.1, Heap.size_push]; exact Nat.le_succ _) fun b o _ e => keep b o e
  have fin : ∀ s₁ : Shared, Upd noW s s₁ → s₁.heap = h₀ → codeAny (model pw w) A (.expr body (newEnv scope s.heap.objs.size mainGlobals [(x, c)] (lamQ ++ ".<locals>.") (some f) cv none builtinsNs)) (fun r s' => match r with | .ok (.ret v) => Q v s' | .ok _ => False | .error e => E e s') s₁ := by
    intro s₁ V eh
    subst eh
    refine kla_codeExpr ?_
    subst hb
    have hL : s₁.heap.IsCell c (some (.ref R)) := by
      obtain ⟨o, h1, h2⟩ := hcell
      exact ⟨o, V.get id h1, h2⟩
    refine dict_at (x := y) (t := t) (v := v) (R := R) (kvs := kvs) ?_
    refine nF (c := c) (v := .ref R) ?_ hL ?_ ok.free ok.kind ok.n1 ok.n2
    · show List.lookup x [(x, c)] = some c
      simp [List.lookup]
    refine nL (v := .str y t) hn (by kernel_rfl) ⟨rfl, rfl, hd.at fun o e => V.get id e, hv, ?_⟩ ok.one ok.kind
    exact h _ (V.trans (.toks (t := s₁.toks + 1)))
  exact fin _ U rfl
end
end
end Mine
namespace Mine
open PySem PySem.W PySem.Calls PyProof.Rows
noncomputable section
section
variable {w : World} {A : Around} {s : Shared} {E : Value → Shared → Prop} {env : Env}
theorem Base.below {s s' : Shared} (B : Base w s.heap) (keep : ∀ b o, b < s.heap.objs.size → s.heap.get? b = some o → s'.heap.get? b = some o) (hsz : s.heap.objs.size ≤ s'.heap.objs.size) : Base w s'.heap :=
  ⟨fun b o n e => keep b o (Heap.lt_size (B.1 b o n e)) (B.1 b o n e), Nat.le_trans B.2 hsz⟩
/-- what a table of texts gives under a value -/
noncomputable def DomOf (kvs : KVs) (v : Value) (k : List Nat) : Prop := ∃ y t z u, v = .str y t ∧ valueAt kvs y = some (.str z u) ∧ tx z = k
theorem lam_spec {f c R : Addr} {name x : Str} {params : Arguments} {body : Expr} {scope : Scope} {pm cv ct : Value} {kvs : KVs} (B : Base w s.heap) (ok : LamOk x params body scope)
    (ho : s.heap.get? f = some { cls := .type "function", data := .func (kla_fn name lamQ params body scope [(x, c)] pm cv ct) }) (hrec : s.heap.CodeRec cv lamQ) (hcell : s.heap.IsCell c (some (.ref R))) (hd : s.heap.DictOf (sk w) R kvs) :
    KeySpec w s f (DomOf kvs) := by
  refine ⟨⟨_, _, ho, rfl⟩, ?_⟩
  rintro v k ⟨y, t, z, u, rfl, hv, hk⟩ A' hr s' Q' E' keep hsz h
  have kp : ∀ b o, s.heap.get? b = some o → s'.heap.get? b = some o := fun b o e => keep b o (Heap.lt_size e) e
  refine lam_call (hr.le (by decide)) (B.below keep hsz) ok (kp _ _ ho) (hrec.keeps kp) ?_ (hd.at fun o e => kp _ _ e) hv fun s'' U => h s'' z u U hk
  obtain ⟨o, h1, h2⟩ := hcell
  exact ⟨o, kp _ _ h1, h2⟩
/-- the lambda over a table of lists as a key of a sort -/
theorem lam_keycall {f c R : Addr} {name x : Str} {params : Arguments} {body : Expr} {scope : Scope} {pm cv ct : Value} {kvs : KVs} {vs : List Value} {K : Nat → List Nat} (hr : Room 5 A) (B : Base w s.heap) (ok : LamOk x params body scope)
    (ho : s.heap.get? f = some { cls := .type "function", data := .func (kla_fn name lamQ params body scope [(x, c)] pm cv ct) }) (hrec : s.heap.CodeRec cv lamQ) (hcell : s.heap.IsCell c (some (.ref R))) (hd : s.heap.DictOf (sk w) R kvs)
    (hk : ∀ i v, vs[i]? = some v → ∃ y t ka kws, v = .str y t ∧ valueAt kvs y = some (.ref ka) ∧ s.heap.PlainList ka (List.toArray kws) ∧ IntsAre kws (zs (K i))) : KeyCall w A s (.ref f) vs K := by
  intro i v s' Q E hv U h
  obtain ⟨y, t, ka, kws, rfl, h1, h2, h3⟩ := hk i v hv
  have hlt : ka < hs s := by obtain ⟨n, e⟩ := h2; exact Heap.lt_size e
  refine lam_call hr (B.upd0 U) ok (U.get id ho) (hrec.keeps fun b o e => U.get id e) ?_ (hd.at fun o e => U.get id e) h1 fun s'' U' => h ka kws s'' U' (h2.at fun o e => U'.get id (U.get id e)) h3 (.inr hlt)
  obtain ⟨o, e1, e2⟩ := hcell
  exact ⟨o, U.get id e1, e2⟩
theorem codes_keycall {vs : List Value} {xs : List Str} {K : Nat → List Nat} (hr : Room 5 A) (hh : A.handled = none) (B : Base w s.heap) (hv : StrsAre vs xs) (hz : ∀ x ∈ xs, x.cps.size ≤ 10000) (hK : ∀ i x, xs[i]? = some x → K i = tx x) : KeyCall w A s (.ref 150) vs K := by
  intro i v s' Q E hi U h
  obtain ⟨x, t, hx, rfl⟩ : ∃ x t, xs[i]? = some x ∧ v = .str x t := by
    clear hK hz h
    induction hv generalizing i with
    | nil => simp at hi
    | cons k t r ih =>
      cases i with
      | zero => simp at hi; exact ⟨k, t, rfl, hi.symm⟩
      | succ i => exact ih i (by simpa using hi)
  refine codes_call hr hh (B.upd0 U) (hz x (List.mem_of_getElem? hx)) fun D ws s'' hD U' hl hw => h D ws s'' U' hl ?_ (.inl hD)
  rw [hK i x hx]; exact hw
end
end
end Mine
namespace Mine
open PySem PySem.W PySem.Calls PyProof.Rows
noncomputable section
section
variable {w : World} {A : Around} {s : Shared} {E : Value → Shared → Prop} {env : Env}
theorem list_sl {value : Expr} {lower upper : Option Expr} {p pos : Pos} {Q : Value → Shared → Prop}
    (h : wpAny (model pw w) A (eval value env) (fun o s₁ => wpAny (model pw w) A (evalPart lower env) (fun vl s₂ => wpAny (model pw w) A (evalPart upper env) (fun vu s₃ =>
      ∃ l items lo hi, o = .ref l ∧ s₃.heap.PlainList l items ∧ items.size ≤ 10000 ∧ IsPart vl lo ∧ IsPart vu hi ∧ ∀ D s', hs s₃ ≤ D → Upd noW s₃ s' → s'.heap.PlainList D (slicePick items lo hi none) → Q (.ref D) s') E s₂) E s₁) E s)
    (ht : ∀ o r, letTemporaryGo value o r = pure () := by intro _ _; rfl) :
    wpAny (model pw w) A (eval (.Subscript value (.Slice lower upper none p) pos) env) Q E s := by
  refine wpAny_Subscript_list_slice (wpAny_mono h (fun o s₁ h₁ => wpAny_mono h₁ (fun vl s₂ h₂ => wpAny_mono h₂ (fun vu s₃ h₃ => ?_) fun _ _ e => e) fun _ _ e => e) fun _ _ e => e) ht
  obtain ⟨l, items, lo, hi, rfl, hl, hz, p1, p2, hq⟩ := h₃
  refine ⟨l, items, lo, hi, rfl, hl.isList, Nat.le_trans hz sz10k, p1, p2, hq _ _ (Nat.le_succ _) (Upd.of_heap (tk := s₃.toks) ?_ fun b o _ e => Heap.get?_push_of_some _ (Heap.get?_push_of_some _ e)) ⟨0, ?_⟩⟩
  · rw [Heap.size_push, Heap.size_push]; omega
  · have e : s₃.heap.objs.size + 1 = (s₃.heap.push { cls := .type "slice", data := .fields #[vl, vu, .none] }).objs.size := by rw [Heap.size_push]
    rw [e]
    exact Heap.get?_push_size _ rfl
theorem list_sl_step {value st : Expr} {lower upper : Option Expr} {p pos : Pos} {Q : Value → Shared → Prop}
    (h : wpAny (model pw w) A (eval value env) (fun o s₁ => wpAny (model pw w) A (evalPart lower env) (fun vl s₂ => wpAny (model pw w) A (evalPart upper env) (fun vu s₃ => wpAny (model pw w) A (eval st env) (fun vs s₄ =>
      ∃ l items lo hi c, o = .ref l ∧ s₄.heap.PlainList l items ∧ items.size ≤ 10000 ∧ IsPart vl lo ∧ IsPart vu hi ∧ IsPart vs (some c) ∧ c ≠ 0 ∧ ∀ D s', hs s₄ ≤ D → Upd noW s₄ s' → s'.heap.PlainList D (slicePick items lo hi (some c)) → Q (.ref D) s') E s₃) E s₂) E s₁) E s)
    (ht : ∀ o r, letTemporaryGo value o r = pure () := by intro _ _; rfl) :
    wpAny (model pw w) A (eval (.Subscript value (.Slice lower upper (some st) p) pos) env) Q E s := by
  refine wpAny_Subscript_Slice_step (T := "list") list_getitem_lookup (wpAny_mono h (fun o s₁ h₁ => wpAny_Slice (wpAny_mono h₁ (fun vl s₂ h₂ => wpAny_mono h₂ (fun vu s₃ h₃ => wpAny_evalPart_some (wpAny_mono h₃ (fun vs s₄ h₄ => ?_) fun _ _ e => e)) fun _ _ e => e) fun _ _ e => e)) fun _ _ e => e) ht
  obtain ⟨l, items, lo, hi, c, rfl, hl, hz, p1, p2, p3, h0, hq⟩ := h₄
  refine ⟨(hl.isList.push _).typeIs, wpAny_getItem_list_slice (hl.isList.push _) (Heap.IsSliceOf.new ..) p1 p2 p3 (by simpa using h0) ?_ (Nat.le_trans hz sz10k)⟩
  refine hq _ _ ?_ (Upd.of_heap (tk := s₄.toks) ?_ fun b o _ e => Heap.get?_push_of_some _ (Heap.get?_push_of_some _ e)) ⟨0, Heap.get?_push_size _ rfl⟩
  · rw [Heap.size_push]; exact Nat.le_succ _
  · rw [Heap.size_push, Heap.size_push]; omega
/-- sum of a list of ints -/
theorem sum_list {l : Addr} {vs : List Value} {ns : List Int} {Q : Value → Shared → Prop} (hh : A.handled = none) (hl : s.heap.PlainList l vs.toArray) (hi : IntsAre vs ns) 
    (h : ∀ t s', Upd noW s s' → Q (.int ns.sum t) s') : wpAny (model pw w) A (call (.builtin "sum") [.ref l] []) Q E s := by
  obtain ⟨xs, hx⟩ := hi.allInts.items
  have hn := hi.numsOf
  have hx' : vs = (intItems xs).toList := by rw [← hx]
  rw [hx', nums_intItems] at hn
  have hl' : s.heap.IsList l (intItems xs) := by rw [← hx]; exact hl.isList
  refine with_hs (sum_intListG hh hl' fun h' tk t' hk hsz => ?_)
  rw [preSum_eq, List.take_of_length_le (by simp), hn]
  exact h t' _ (Upd.of_heap hsz fun b o _ e => hk b o e)
end
end
end Mine
namespace Mine
open PySem PySem.W PySem.Calls PyProof.Rows
noncomputable section
theorem all_eq {α : Type} [DecidableEq α] : ∀ {xs ys : List α} {e : Nat → Bool}, xs.length = ys.length → (∀ j a b, xs[j]? = some a → ys[j]? = some b → e j = decide (a = b)) → (List.range xs.length).all e = decide (xs = ys)
  | [], [], _, _, _ => by simp
  | a :: r, b :: t, e, hl, he => by
    have ih := all_eq (xs := r) (ys := t) (e := fun j => e (j + 1)) (by simpa using hl) fun j x y hx hy => he (j + 1) x y (by simpa using hx) (by simpa using hy)
    have h0 := he 0 a b rfl rfl
    rw [List.length_cons, List.range_succ_eq_map, List.all_cons, List.all_map, h0]
    have : (List.range r.length).all (e ∘ Nat.succ) = decide (r = t) := ih
    rw [this]
    by_cases h : a = b <;> by_cases h' : r = t <;> simp [h, h']
  | [], _ :: _, _, hl, _ => by simp at hl
  | _ :: _, [], _, hl, _ => by simp at hl
theorem StrsAre.at' : ∀ {vs : List Value} {ns : List Str} {i : Nat} {v : Value}, StrsAre vs ns → vs[i]? = some v → ∃ k t, ns[i]? = some k ∧ v = .str k t
  | _, _, 0, _, .cons n t _, h => by simp at h; exact ⟨n, t, rfl, h.symm⟩
  | _, _, i + 1, _, .cons n t r, h => by simp at h; simpa using StrsAre.at' r h
  | _, _, _, _, .nil, h => by simp at h
theorem eqvAll_nones : ∀ m n : Nat, PyData.eqvAll (List.replicate m PyData.none) (List.replicate n PyData.none) = decide (m = n)
  | 0, 0 => by simp [PyData.eqvAll]
  | 0, _ + 1 => by simp [PyData.eqvAll, List.replicate_succ]
  | _ + 1, 0 => by simp [PyData.eqvAll, List.replicate_succ]
  | m + 1, n + 1 => by
    simp only [List.replicate_succ, PyData.eqvAll, PyData.eqv, eqvAll_nones m n]
    by_cases h : m = n <;> simp [h]
theorem canLay_nones : ∀ n, PyData.canLayAll0 (List.replicate n PyData.none) = true
  | 0 => rfl
  | n + 1 => by simp [List.replicate_succ, PyData.canLayAll0, PyData.canLay0, canLay_nones n]
theorem depth_nones : ∀ n, PyData.depthAll (List.replicate n PyData.none) = 0
  | 0 => rfl
  | n + 1 => by simp [List.replicate_succ, PyData.depthAll, PyData.depth, depth_nones n]
theorem shaped_nones (n : Nat) : SeqAt.shaped (.list (List.replicate n PyData.none)) = true := by
  simp [SeqAt.shaped, PyData.canLay0, PyData.depth, canLay_nones, depth_nones]
theorem carried_nones : ∀ n, CarriedAll (List.replicate n Value.none) (List.replicate n PyData.none)
  | 0 => .nil
  | n + 1 => .cons .none (carried_nones n)
section
variable {prog : Program} {w : World} {A : Around} {s : Shared} {E : Value → Shared → Prop} {a b : Addr} {xs ys : List Value} {Q : Value → Shared → Prop}
theorem eq_ints {ns ms : List Int} (ha : s.heap.PlainList a xs.toArray) (hb : s.heap.PlainList b ys.toArray) (hi : IntsAre xs ns) (hj : IntsAre ys ms) (hr : Room 7 A) (h : Q (.bool (decide (ns = ms))) s) :
    wpAny (model prog w) A (compareOp .Eq (.ref a) (.ref b)) Q E s := ke_eq_ints ha.isList hb.isList hi hj (by have := hr.2; omega) h
theorem ne_ints {ns ms : List Int} (ha : s.heap.PlainList a xs.toArray) (hb : s.heap.PlainList b ys.toArray) (hi : IntsAre xs ns) (hj : IntsAre ys ms) (hr : Room 7 A) (h : Q (.bool (!decide (ns = ms))) s) :
    wpAny (model prog w) A (compareOp .NotEq (.ref a) (.ref b)) Q E s := ke_ne_ints ha.isList hb.isList hi hj (by have := hr.2; omega) h
noncomputable def strEq (xs ys : List Str) (j : Nat) : Bool := xs.getD j ⟨#[]⟩ == ys.getD j ⟨#[]⟩
theorem strs_eqAt {ns ms : List Str} (hi : StrsAre xs ns) (hj : StrsAre ys ms) (j : Nat) (h1 : j < xs.toArray.size) (h2 : j < ys.toArray.size) : SeqAt.EqAt A s xs.toArray[j] ys.toArray[j] (strEq ns ms j) := by
  have g1 : j < xs.length := by simpa using h1
  have g2 : j < ys.length := by simpa using h2
  obtain ⟨x, t, e1, f1⟩ := StrsAre.at' hi (List.getElem?_eq_getElem g1)
  obtain ⟨y, u, e2, f2⟩ := StrsAre.at' hj (List.getElem?_eq_getElem g2)
  have q : strEq ns ms j = (x == y) := by
    unfold strEq
    rw [List.getD_eq_getElem?_getD, List.getD_eq_getElem?_getD, e1, e2]; rfl
  have r1 : xs.toArray[j] = .str x t := by rw [← f1]; simp
  have r2 : ys.toArray[j] = .str y u := by rw [← f2]; simp
  rw [q, r1, r2]
  exact SeqAt.EqAt.str_str x t y u
theorem strs_all {ns ms : List Str} (hl : ns.length = ms.length) : (List.range ns.length).all (strEq ns ms) = decide (ns = ms) := all_eq hl fun j a b ha hb => by
  unfold strEq
  rw [List.getD_eq_getElem?_getD, List.getD_eq_getElem?_getD, ha, hb]
  show (a == b) = _
  by_cases q : a = b
  · simp [q]
  · simp [q]
theorem eq_strs {ns ms : List Str} (ha : s.heap.PlainList a xs.toArray) (hb : s.heap.PlainList b ys.toArray) (hi : StrsAre xs ns) (hj : StrsAre ys ms) (hr : Room 7 A) (h : Q (.bool (decide (ns = ms))) s) :
    wpAny (model prog w) A (compareOp .Eq (.ref a) (.ref b)) Q E s := by
  show wpAny _ _ (richCompare .Eq (.ref a) (.ref b)) Q E s
  have l1 := StrsAre.len hi
  have l2 := StrsAre.len hj
  by_cases hl : ns.length = ms.length
  · refine SeqAt.RcAt.lists (e := strEq ns ms) ha.isList hb.isList (by simp; omega) hr.units (fun j h1 h2 => strs_eqAt hi hj j h1 h2) prog w E Q ?_
    have : xs.toArray.size = ns.length := by simp; omega
    rw [this, strs_all hl]; exact h
  · refine SeqAt.RcAt.lists_lengths ha.isList hb.isList (by simp; omega) hr.units prog w E Q ?_
    rw [decide_eq_false (fun q => hl (by rw [q]))] at h; exact h
theorem ne_strs {ns ms : List Str} (ha : s.heap.PlainList a xs.toArray) (hb : s.heap.PlainList b ys.toArray) (hi : StrsAre xs ns) (hj : StrsAre ys ms) (hr : Room 7 A) (h : Q (.bool (!decide (ns = ms))) s) :
    wpAny (model prog w) A (compareOp .NotEq (.ref a) (.ref b)) Q E s := by
  show wpAny _ _ (richCompare .NotEq (.ref a) (.ref b)) Q E s
  have l1 := StrsAre.len hi
  have l2 := StrsAre.len hj
  by_cases hl : ns.length = ms.length
  · refine SeqAt.RcNeAt.lists (e := strEq ns ms) ha.isList hb.isList (by simp; omega) hr.units (fun j h1 h2 => strs_eqAt hi hj j h1 h2) prog w E Q ?_
    have : xs.toArray.size = ns.length := by simp; omega
    rw [this, strs_all hl]; exact h
  · refine SeqAt.RcNeAt.lists_lengths ha.isList hb.isList (by simp; omega) hr.units prog w E Q ?_
    rw [decide_eq_false (fun q => hl (by rw [q]))] at h; exact h
theorem ne_nones {m n : Nat} (ha : s.heap.PlainList a (List.replicate m Value.none).toArray) (hb : s.heap.PlainList b (List.replicate n Value.none).toArray) (hr : Room 7 A) (h : Q (.bool (!decide (m = n))) s) :
    wpAny (model prog w) A (compareOp .NotEq (.ref a) (.ref b)) Q E s :=
  ne_dataH (reads_newData ha.isList (carried_nones m)) (reads_newData hb.isList (carried_nones n)) (shaped_nones _) (shaped_nones _) (by have := hr.2; omega) (by show Q (.bool (!PyData.eqvAll _ _)) s; rw [eqvAll_nones]; exact h)
theorem ne_bools {x y : Bool} (hr : Room 7 A) (h : Q (.bool (!(x == y))) s) : wpAny (model prog w) A (compareOp .NotEq (.bool x) (.bool y)) Q E s :=
  ne_dataH (Reads.bool x) (Reads.bool y) rfl rfl (by have := hr.2; omega) h
theorem foldl_rep {x : Value} : ∀ (m : Nat) (acc : Array Value), List.foldl (fun x1 x2 => x1 ++ x2) acc (List.replicate m #[x]) = acc ++ (List.replicate m x).toArray
  | 0, acc => by simp
  | m + 1, acc => by
    rw [List.replicate_succ, List.foldl_cons, foldl_rep m, List.replicate_succ]
    apply Array.toList_inj.mp
    simp [← List.replicate_succ]
theorem mul_gen {l : Addr} {items : Array Value} {n : Nat} {z : Int} {u : Tok} {k : Nat} (ho : s.heap.get? l = some { cls := .type "list", data := .seq items k }) (h1 : items.size = 1) (hz : z = n) (hn : n ≤ 10000)
    (h : ∀ D s', hs s ≤ D → Upd noW s s' → s'.heap.PlainList D (List.foldl (fun x1 x2 => x1 ++ x2) #[] (List.replicate (if items.isEmpty = true then 0 else z.toNat) items)) → Q (.ref D) s') :
    wpAny (model prog w) A (binaryOp .Mult (.ref l) (.int z u)) Q E s := by
  have h2 : z.toNat = n := by omega
  have hc0 : ¬ (!Builtin.List.listFitsIndex z) = true := by rw [hz, fits_nat (by omega)]; decide
  have m2 := AutoListH.list___mul___list_int_3 l items k z u hc0 (by rw [h1, h2]; omega) (by unfold Builtin.List.listTooLong; rw [h1, h2]; have := sz10k; simp; omega)
  have hq := h s.heap.objs.size _ (Nat.le_refl _) (.push (t := s.toks)) ⟨0, Heap.get?_push_size _ rfl⟩
  have m1 := int___rmul___int_list z u l items k
  exact wpAny_binaryOp_repeat_ref (T := "list") (U := "int") (by decide) ⟨_, ho, rfl⟩ (fun s' => typeIs_int s' _ u) noFill_list_mul PySem.F.fills_int_mul PySem.F.slot_int_rmul repeat_list PySem.F.slot_int_index.lookup
    (call_meets PySem.F.slot_int_rmul (typeIs_int s _ u) PySem.F.entry_int_rmul (PySem.F.args_int_rmul_2 _ _) m1
      ⟨ho, rfl, ⟨_, ho, rfl⟩, call_meets PySem.F.slot_list_mul ⟨_, ho, rfl⟩ PySem.F.entry_list_mul (PySem.F.args_list_mul_2 _ _) m2 ⟨ho, hq⟩⟩)
/-- [x] * n -/
theorem mul_one {l : Addr} {x : Value} {n : Nat} {u : Tok} (hl : s.heap.PlainList l #[x]) (hn : n ≤ 10000) (h : ∀ D s', hs s ≤ D → Upd noW s s' → s'.heap.PlainList D (List.replicate n x).toArray → Q (.ref D) s') :
    wpAny (model prog w) A (binaryOp .Mult (.ref l) (.int (n : Int) u)) Q E s := by
  obtain ⟨k, ho⟩ := hl
  refine mul_gen ho rfl rfl hn fun D s' hD U hl => h D s' hD U ?_
  have e1 : (n : Int).toNat = n := by omega
  rw [if_neg (by simp), e1, foldl_rep] at hl
  simpa using hl
end
end
end Mine
namespace Mine
open PySem PySem.W PySem.Calls PyProof.Rows
theorem compTurn_list1 (elt target iter : Expr) (g0 : Comprehension) (ifs : List Expr) (scope : Scope) (pos : Pos) (it acc : Value) (env : Env) :
    compTurn (.ListComp elt [g0, ⟨target, iter, ifs, 0⟩] scope pos) 1 it acc env = (do
      standAt iter.pos
      match ← pyNext it with
      | none => pure (.done .next)
      | some v =>
        letOwnedTupleGo target it v
        assign target env v
        let mut ok := true
        for c in ifs do
          if ok then ok ← isTrue c env (eval c env)
        if ok then
          (do let _ ← call (.builtin "list.append") [acc, ← eval elt env])
        again (.compLoop (.ListComp elt [g0, ⟨target, iter, ifs, 0⟩] scope pos) 1 it acc env)) := by rfl
theorem compTurn_list0 (elt target iter t2 i2 : Expr) (f2 ifs : List Expr) (scope : Scope) (pos : Pos) (it acc : Value) (env : Env) :
    compTurn (.ListComp elt [⟨target, iter, ifs, 0⟩, ⟨t2, i2, f2, 0⟩] scope pos) 0 it acc env = (do
      standAt iter.pos
      match ← pyNext it with
      | none => pure (.done .next)
      | some v =>
        letOwnedTupleGo target it v
        assign target env v
        let mut ok := true
        for c in ifs do
          if ok then ok ← isTrue c env (eval c env)
        if ok then
          let x ← eval i2 env
          standAt i2.pos
          let x ← foldedSetIterable i2 env x
          let it2 ← holding [x] (pyIter x)
          let _ ← runOwn (.compStart (.ListComp elt [⟨target, iter, ifs, 0⟩, ⟨t2, i2, f2, 0⟩] scope pos) 1 it2 acc env) env
          again (.compLoop (.ListComp elt [⟨target, iter, ifs, 0⟩, ⟨t2, i2, f2, 0⟩] scope pos) 0 it acc env)
        else again (.compLoop (.ListComp elt [⟨target, iter, ifs, 0⟩, ⟨t2, i2, f2, 0⟩] scope pos) 0 it acc env)) := by rfl
section
variable {w : World} {A : Around} {R : Result → Shared → Prop} {s : Shared} {E : Value → Shared → Prop}
theorem codeAny_compStart_list1 {elt target iter ifs rest scope pos it acc env} {g0 : Comprehension}
    (h0 : codeAny (model pw w) A (.compLoop (.ListComp elt (g0 :: ⟨target, iter, ifs, 0⟩ :: rest) scope pos) 1 it acc env) R s)
    (h : wpAny (model pw w) A (pyIter it) (fun it' s' => codeAny (model pw w) A (.compLoop (.ListComp elt (g0 :: ⟨target, iter, ifs, 0⟩ :: rest) scope pos) 1 it' acc env) R s')
      (notedBy (model pw w) A env fun x s' => R (.error x) s') s) :
    codeAny (model pw w) A (.compStart (.ListComp elt (g0 :: ⟨target, iter, ifs, 0⟩ :: rest) scope pos) 1 it acc env) R s := by
  refine codeAny_of_tree ?_
  show wpAny _ _ ((compStart (.ListComp elt (g0 :: ⟨target, iter, ifs, 0⟩ :: rest) scope pos) 1 it acc env).onRaise (fun x => do noteFrame x env; standAt theWindowsPlace)) _ _ s
  refine wpAny_notedAt ?_
  unfold compStart
  show wpAny _ A (ask >>= _) _ _ s
  refine wpAny_bind (wpAny_askSetting (wpAny_ite ?_))
  split
  · first
      | exact wpAny_bind (wpAny_pure (wpAny_pure (And.intro rfl h0)))
      | exact wpAny_pure (And.intro rfl h0)
  · first
      | exact wpAny_bind (wpAny_rule (wpAny_bind (wpAny_standAt (wpAny_bind (wpAny_mono h (fun it' s' h' => wpAny_pure (And.intro rfl h')) fun _ _ x => x)))))
      | (refine wpAny_bind (wpAny_rule ?_); show wpAny _ _ (standAt iter.pos >>= _) _ _ s; exact wpAny_bind (wpAny_standAt (wpAny_bind (wpAny_mono h (fun it' s' h' => wpAny_pure (And.intro rfl h')) fun _ _ x => x))))
theorem list_loop1 {elt target iter : Expr} {g0 : Comprehension} {y0 : List Value} {ifs : List Expr} {scope : Scope} {pos : Pos} {it : Value} {D : Addr} {cenv : Env} {fp wr : List Addr} {n : Nat} {St : Nat → Heap → Prop} {B : Nat → (Str → Option Value) → (Str → Option Value) → Prop} {ok : Env → Prop} {m₀ : Str → Option Value} (F : Feed w A it target fp wr n St B ok) (hok : ok cenv)
    (hDC : D ≠ cenv.locals) (hDf : D ∉ fp) (hCf : cenv.locals ∉ fp) (hn : y0.length + n ≤ 10000) (hst : St 0 s.heap) (hacc : s.heap.PlainList D y0.toArray) (hns : s.heap.Ns cenv.locals m₀)
    (M : (Str → Option Value) → Prop) (hM0 : M m₀) (hMB : ∀ i m m', M m → B i m m' → M m') (Wd : Addr → Prop) (hWd : ∀ b, Wd b → b ∉ fp ∧ b ≠ D ∧ b ≠ cenv.locals) (O : Nat → List Value → Shared → Prop) (hO : O 0 y0 s)
    (stable : ∀ i ys s s', O i ys s → Upd (fun b => b ∈ wr ∨ b = cenv.locals ∨ b = D) s s' → O i ys s')
    (step : ∀ i ys s₁ m m' (E' : Value → Shared → Prop), i < n → O i ys s₁ → B i m m' → M m' → s₁.heap.Ns cenv.locals m' → s₁.heap.PlainList D ys.toArray → Upd (fun b => Wd b ∨ b ∈ wr ∨ b = cenv.locals ∨ b = D) s s₁ →
      wpAny (model pw w) A (testsOf ifs cenv) (fun t s₂ => if t = true then wpAny (model pw w) A (eval elt cenv) (fun y s₃ => Upd Wd s₁ s₃ ∧ O (i + 1) (ys ++ [y]) s₃) E' s₂ else Upd Wd s₁ s₂ ∧ O (i + 1) ys s₂) E' s₁)
    (fin : ∀ s' ys m, O n ys s' → ys.length ≤ y0.length + n → s'.heap.PlainList D ys.toArray → s'.heap.Ns cenv.locals m → Upd (fun b => Wd b ∨ b ∈ wr ∨ b = cenv.locals ∨ b = D) s s' → R (.ok .next) s') :
    codeAny (model pw w) A (.compLoop (.ListComp elt [g0, ⟨target, iter, ifs, 0⟩] scope pos) 1 it (.ref D) cenv) R s := by
  refine codeAny_loop rfl (fun k s' => ∃ i ys m, k = n - i ∧ i ≤ n ∧ ys.length ≤ y0.length + i ∧ St i s'.heap ∧ O i ys s' ∧ s'.heap.PlainList D ys.toArray ∧ s'.heap.Ns cenv.locals m ∧ Upd (fun b => Wd b ∨ b ∈ wr ∨ b = cenv.locals ∨ b = D) s s' ∧ M m) (fun k s' hI => ?_) n
    ⟨0, y0, m₀, rfl, Nat.zero_le _, Nat.le_refl _, hst, hO, hacc, hns, .refl _ _, hM0⟩
  obtain ⟨i, ys, m, rfl, hi, hys, hst', hO', hacc', hns', U, hMm⟩ := hI
  show wpAny _ A ((compTurn (.ListComp elt [g0, ⟨target, iter, ifs, 0⟩] scope pos) 1 it (.ref D) cenv).onRaise (fun x => do noteFrame x cenv; theTreesLotGoes x)) _ _ s'
  refine wpAny_noted ?_
  rw [compTurn_list1]
  refine wpAny_bind (wpAny_standAt (wpAny_bind ?_))
  rcases Nat.lt_or_ge i n with hlt | hge
  · refine wpAny_mono (F.turn i s' cenv m (fun s₃ => ∃ m', Upd (fun b => b ∈ wr ∨ b = cenv.locals) s' s₃ ∧ St (i + 1) s₃.heap ∧ s₃.heap.Ns cenv.locals m' ∧ B i m m') _ hlt hst' hok hCf hns' fun s₃ m' a b c d => ⟨m', a, b, c, d⟩) (fun r s₁ q => ?_) fun _ _ q => q
    obtain ⟨v, rfl, q⟩ := q
    refine wpAny_bind (wpAny_mono q (fun _ s₂ q => wpAny_bind (wpAny_mono q (fun _ s₃ q => ?_) fun _ _ q => q)) fun _ _ q => q)
    obtain ⟨m', U₃, hst₃, hns₃, hB⟩ := q
    have hO₃ : O i ys s₃ := stable _ _ _ _ hO' (U₃.mono fun b h => h.elim .inl fun h => .inr (.inl h))
    have hacc₃ : s₃.heap.PlainList D ys.toArray := hacc'.at fun o e => U₃.get (fun q => q.elim (fun q => hDf (F.sub _ q)) hDC) e
    have U₃' : Upd (fun b => Wd b ∨ b ∈ wr ∨ b = cenv.locals ∨ b = D) s s₃ := U.trans (U₃.mono fun b h => .inr (h.elim .inl fun h => .inr (.inl h)))
    refine wpAny_bind (wpAny_mono (step i ys s₃ m m' _ hlt hO₃ hB (hMB _ _ _ hMm hB) hns₃ hacc₃ U₃') (fun t s₄ q => ?_) fun _ _ q => q)
    cases t with
    | false =>
      simp only [Bool.false_eq_true, if_false] at q ⊢
      obtain ⟨U₄, hO₄⟩ := q
      refine wpAny_pure ⟨rfl, n - (i + 1), by omega, i + 1, ys, m', rfl, hlt, by omega, F.frame _ _ _ hst₃ (fun b hb o e => U₄.get (fun q => (hWd b q).1 hb) e), hO₄, hacc₃.at fun o e => U₄.get (fun q => (hWd _ q).2.1 rfl) e, U₄.ns (fun q => (hWd _ q).2.2 rfl) hns₃, U₃'.trans (U₄.mono fun _ h => .inl h), hMB _ _ _ hMm hB⟩
    | true =>
      simp only [if_true] at q ⊢
      refine wpAny_bind (wpAny_bind (wpAny_mono q (fun y s₅ q => ?_) fun _ _ q => q))
      obtain ⟨U₅, hO₅⟩ := q
      have hacc₅ : s₅.heap.PlainList D ys.toArray := hacc₃.at fun o e => U₅.get (fun q => (hWd _ q).2.1 rfl) e
      refine wpAny_bind (wpAny_list_append_plain hacc₅ (fun h' hl' hs' => ?_) (by rw [List.size_toArray]; exact Nat.le_trans (by omega) sz10k))
      have U₆ : Upd (fun b => b = D) s₅ { s₅ with heap := h', toks := s₅.toks } := Upd.same hs' rfl
      have hl₆ : h'.PlainList D (ys ++ [y]).toArray := by
        have e : ys.toArray.push y = (ys ++ [y]).toArray := by simp
        rw [← e]; exact hl'
      refine wpAny_pure (wpAny_pure ⟨rfl, n - (i + 1), by omega, i + 1, ys ++ [y], m', rfl, hlt, (by rw [List.length_append, List.length_singleton]; omega), F.frame _ _ _ hst₃ (fun b hb o e => U₆.get (fun q => hDf (q ▸ hb)) (U₅.get (fun q => (hWd b q).1 hb) e)), stable _ _ _ _ hO₅ (U₆.mono fun b h => .inr (.inr h)), hl₆, U₆.ns (fun q => hDC q.symm) (U₅.ns (fun q => (hWd _ q).2.2 rfl) hns₃), (U₃'.trans (U₅.mono fun _ h => .inl h)).trans (U₆.mono fun b h => .inr (.inr (.inr h))), hMB _ _ _ hMm hB⟩)
  · have e : i = n := Nat.le_antisymm hi hge
    subst e
    refine F.done s' _ _ hst' fun s₁ U₁ => wpAny_pure ?_
    exact fin s₁ ys m (stable _ _ _ _ hO' (U₁.mono fun b h => .inl h)) hys (hacc'.at fun o e => U₁.get (fun q => hDf (F.sub _ q)) e) (U₁.ns (fun q => hCf (F.sub _ q)) hns') (U.trans (U₁.mono fun b h => .inr (.inl h)))
end
end Mine
namespace Mine
open PySem PySem.W PySem.Calls PyProof.Rows
section
variable {w : World} {A : Around} {R : Result → Shared → Prop} {s : Shared} {E : Value → Shared → Prop}
theorem list_loop2 {elt target iter t2 i2 : Expr} {f2 : List Expr} {scope : Scope} {pos : Pos} {it : Value} {D : Addr} {cenv : Env} {fp wr : List Addr} {n : Nat} {St : Nat → Heap → Prop} {B : Nat → (Str → Option Value) → (Str → Option Value) → Prop} {ok : Env → Prop} {m₀ : Str → Option Value} (F : Feed w A it target fp wr n St B ok) (hok : ok cenv)
    (hDC : D ≠ cenv.locals) (hDf : D ∉ fp) (hCf : cenv.locals ∉ fp) (hn : n ≤ 10000) (hst : St 0 s.heap) (hacc : s.heap.PlainList D #[]) (hns : s.heap.Ns cenv.locals m₀)
    (Wd : Addr → Prop) (hs2 : ∀ (env : Env) x, foldedSetIterable i2 env x = pure x) (O : Nat → List Value → Shared → Prop) (hO : O 0 [] s)
    (stable : ∀ i ys s s', O i ys s → Upd (fun b => b ∈ wr ∨ b = cenv.locals ∨ b = D) s s' → O i ys s')
    (step : ∀ i ys s₁ m m' (E' : Value → Shared → Prop), i < n → O i ys s₁ → B i m m' → s₁.heap.Ns cenv.locals m' → s₁.heap.PlainList D ys.toArray → Upd (fun b => Wd b ∨ b ∈ wr ∨ b = cenv.locals ∨ b = D) s s₁ →
      wpAny (model pw w) A (eval i2 cenv) (fun xv s₂ => wpAny (model pw w) A (pyIter xv) (fun it2 s₃ => codeAny (model pw w) A (.compStart (.ListComp elt [⟨target, iter, [], 0⟩, ⟨t2, i2, f2, 0⟩] scope pos) 1 it2 (.ref D) cenv)
        (fun r s' => match r with | .ok _ => ∃ ys' m'', Upd (fun b => b = cenv.locals ∨ b = D) s₁ s' ∧ s'.heap.PlainList D (List.toArray ys') ∧ s'.heap.Ns cenv.locals m'' ∧ O (i + 1) ys' s' | .error e => cameBackBy (model pw w) A cenv E' e s') s₃) E' s₂) E' s₁)
    (fin : ∀ s' ys m, O n ys s' → s'.heap.PlainList D ys.toArray → s'.heap.Ns cenv.locals m → Upd (fun b => Wd b ∨ b ∈ wr ∨ b = cenv.locals ∨ b = D) s s' → R (.ok .next) s') :
    codeAny (model pw w) A (.compLoop (.ListComp elt [⟨target, iter, [], 0⟩, ⟨t2, i2, f2, 0⟩] scope pos) 0 it (.ref D) cenv) R s := by
  refine codeAny_loop rfl (fun k s' => ∃ i ys m, k = n - i ∧ i ≤ n ∧ St i s'.heap ∧ O i ys s' ∧ s'.heap.PlainList D ys.toArray ∧ s'.heap.Ns cenv.locals m ∧ Upd (fun b => Wd b ∨ b ∈ wr ∨ b = cenv.locals ∨ b = D) s s') (fun k s' hI => ?_) n
    ⟨0, [], m₀, rfl, Nat.zero_le _, hst, hO, hacc, hns, .refl _ _⟩
  obtain ⟨i, ys, m, rfl, hi, hst', hO', hacc', hns', U⟩ := hI
  show wpAny _ A ((compTurn (.ListComp elt [⟨target, iter, [], 0⟩, ⟨t2, i2, f2, 0⟩] scope pos) 0 it (.ref D) cenv).onRaise (fun x => do noteFrame x cenv; theTreesLotGoes x)) _ _ s'
  refine wpAny_noted ?_
  rw [compTurn_list0]
  refine wpAny_bind (wpAny_standAt (wpAny_bind ?_))
  rcases Nat.lt_or_ge i n with hlt | hge
  · refine wpAny_mono (F.turn i s' cenv m (fun s₃ => ∃ m', Upd (fun b => b ∈ wr ∨ b = cenv.locals) s' s₃ ∧ St (i + 1) s₃.heap ∧ s₃.heap.Ns cenv.locals m' ∧ B i m m') _ hlt hst' hok hCf hns' fun s₃ m' a b c d => ⟨m', a, b, c, d⟩) (fun r s₁ q => ?_) fun _ _ q => q
    obtain ⟨v, rfl, q⟩ := q
    refine wpAny_bind (wpAny_mono q (fun _ s₂ q => wpAny_bind (wpAny_mono q (fun _ s₃ q => ?_) fun _ _ q => q)) fun _ _ q => q)
    obtain ⟨m', U₃, hst₃, hns₃, hB⟩ := q
    have hO₃ : O i ys s₃ := stable _ _ _ _ hO' (U₃.mono fun b h => h.elim .inl fun h => .inr (.inl h))
    have hacc₃ : s₃.heap.PlainList D ys.toArray := hacc'.at fun o e => U₃.get (fun q => q.elim (fun q => hDf (F.sub _ q)) hDC) e
    have U₃' : Upd (fun b => Wd b ∨ b ∈ wr ∨ b = cenv.locals ∨ b = D) s s₃ := U.trans (U₃.mono fun b h => .inr (h.elim .inl fun h => .inr (.inl h)))
    refine wpAny_bind (wpAny_tests_nil ?_)
    simp only [if_true]
    refine wpAny_bind (wpAny_mono (step i ys s₃ m m' _ hlt hO₃ hB hns₃ hacc₃ U₃') (fun xv s₄ q => ?_) fun _ _ q => q)
    refine wpAny_bind (wpAny_standAt (wpAny_bind (wpAny_of_eq (hs2 cenv xv) ?_)))
    refine wpAny_bind (wpAny_holding (wpAny_mono q (fun it2 s₅ q => ?_) fun _ _ q => q))
    refine wpAny_bind (wpAny_runOwn (codeAny_mono q fun r s₆ q => ?_))
    cases r with
    | error e => exact q
    | ok f =>
      obtain ⟨ys', m'', U₅, hl₅, hn₅, hO₅⟩ := q
      have wn : ∀ b, b ∈ fp → ¬ (b = cenv.locals ∨ b = D) := fun b hb q => q.elim (fun q => hCf (q ▸ hb)) fun q => hDf (q ▸ hb)
      exact wpAny_pure ⟨rfl, n - (i + 1), by omega, i + 1, ys', m'', rfl, hlt, F.frame _ _ _ hst₃ (fun b hb o e => U₅.get (wn b hb) e), hO₅, hl₅, hn₅, U₃'.trans (U₅.mono fun b h => .inr (.inr h))⟩
  · have e : i = n := Nat.le_antisymm hi hge
    subst e
    refine F.done s' _ _ hst' fun s₁ U₁ => wpAny_pure ?_
    exact fin s₁ ys m (stable _ _ _ _ hO' (U₁.mono fun b h => .inl h)) (hacc'.at fun o e => U₁.get (fun q => hDf (F.sub _ q)) e) (U₁.ns (fun q => hCf (F.sub _ q)) hns') (U.trans (U₁.mono fun b h => .inr (.inl h)))
end
end Mine
namespace Mine
open PySem PySem.W PySem.Calls PyProof.Rows
noncomputable section
/-! the law's frame -/
noncomputable def mkSc (names : List (Str × NameKind)) : Scope := { kind := .function, names, isGenerator := false, isCoroutine := false, more := [] }
noncomputable abbrev fdLaw : FuncData := fdOf (ho162 P0)
noncomputable abbrev lwEnv (L : Addr) : Env := callEnvC fdLaw L 162
noncomputable def lwBody (k : Nat) : List Stmt := (bodyOf fdLaw).drop k
section
variable {w : World} {A : Around} {s : Shared} {E : Value → Shared → Prop} {env : Env}
theorem iter_list {l : Addr} {vs : List Value} {Q : Value → Shared → Prop} (hh : A.handled = none) (hl : s.heap.PlainList l vs.toArray)
    (h : ∀ I St s', hs s ≤ I → I < hs s' → l < hs s → Upd noW s s' → (∀ (x : Str) (px : Pos), Feed w A (.ref I) (.Name x px) [I, l] [I] vs.length St (fun i m m' => ∃ v, vs[i]? = some v ∧ m' = setM m x v) (LocEnv x)) → St 0 s'.heap → Q (.ref I) s') :
    wpAny (model pw w) A (pyIter (.ref l)) Q E s := by
  have hlt : l < hs s := by obtain ⟨n, ho⟩ := hl; exact Heap.lt_size ho
  refine wpAny_pyIter_list hl.isList ?_
  have U : Upd noW s { s with heap := s.heap.push { cls := .type "list_iterator", data := .fields #[.ref l, .int 0 0] } } := .push (t := s.toks)
  have W := Walks.list (prog := pw) (w := w) hh s.heap.objs.size l (Nat.ne_of_lt hlt) vs.toArray
  have F : ∀ (x : Str) (px : Pos), Feed w A (.ref s.heap.objs.size) (.Name x px) [s.heap.objs.size, l] [s.heap.objs.size] vs.length (fun i h => h.IsListIter s.heap.objs.size l i ∧ h.IsList l vs.toArray) (fun i m m' => ∃ v, vs[i]? = some v ∧ m' = setM m x v) (LocEnv x) := fun x px => by
    have := Feed.ofWalks (x := x) (px := px) W
    simpa using this
  refine h s.heap.objs.size _ _ (Nat.le_refl _) ?_ hlt U F ⟨⟨_, Heap.get?_push_size _ rfl, rfl, rfl⟩, (hl.at fun o e => U.get id e).isList⟩
  show s.heap.objs.size < (s.heap.push _).objs.size
  rw [Heap.size_push]; exact Nat.lt_succ_self _
/-- elements kept and made: index by index -/
inductive Made2 (F : Nat → Value → Prop) : List Nat → List Value → Prop
  | nil : Made2 F [] []
  | snoc {is ys i y} : Made2 F is ys → F i y → Made2 F (is ++ [i]) (ys ++ [y])
theorem filter_range_succ (p : Nat → Bool) (i : Nat) : (List.range (i + 1)).filter p = (List.range i).filter p ++ (if p i then [i] else []) := by
  rw [List.range_succ, List.filter_append]
  congr 1
  by_cases h : p i <;> simp [h]
/-- a comprehension over a list that changes no old object -/
theorem lc_pure {target elt : Expr} {ifs : List Expr} {scope : Scope} {cl : List (Str × Addr)} {it : Value} {fin : Addr → Addr → List Value → Shared → Prop} {fp wr : List Addr} {n : Nat} {St : Nat → Heap → Prop} {B : Nat → (Str → Option Value) → (Str → Option Value) → Prop} {ok : Env → Prop} {s₁ : Shared}
    (F : Feed w A it target fp wr n St B ok) (hn : n ≤ 10000) (st : St 0 s.heap) (fpl : ∀ b ∈ fp, b < hs s) (okC : ∀ C, ok (compEnvC scope cl C env)) (hwr : ∀ b ∈ wr, hs s₁ ≤ b) (U₁ : Upd noW s₁ s) (p : Nat → Bool) (G : Nat → Value → Prop)
    (test : ∀ C i s' m m' E', i < n → Upd noW s₁ s' → s'.heap.Ns C m' → B i m m' → wpAny (model pw w) A (testsOf ifs (compEnvC scope cl C env)) (fun t s'' => t = p i ∧ Upd noW s' s'') E' s')
    (make : ∀ C i s' m m' E', i < n → p i = true → Upd noW s₁ s' → s'.heap.Ns C m' → B i m m' → wpAny (model pw w) A (eval elt (compEnvC scope cl C env)) (fun y s'' => G i y ∧ Upd noW s' s'') E' s')
    (done : ∀ C D ys s' m, hs s₁ ≤ D → C ≠ D → hs s₁ ≤ C → Upd noW s₁ s' → s'.heap.PlainList D (List.toArray ys) → s'.heap.Ns C m → Made2 G ((List.range n).filter p) ys → ys.length ≤ n → fin C D ys s') :
    LC w A env target elt ifs scope cl it s fin fp wr n St B ok noW (fun _ _ i ys _ => Made2 G ((List.range i).filter p) ys) where
  feed := F
  few := hn
  st := st
  fpl := fpl
  okC := okC
  wd := fun b q => q.elim
  start := fun C D s' _ _ _ _ => .nil
  stable := fun C D i ys s s' h _ => h
  step := fun C D i ys s₂ m m' E' hC hD hCD hi hO hB hns hl U => by
    have U' : Upd noW s₁ s₂ := U₁.then_fresh (U.mono fun b q => q.elim (fun q => .inl q) fun q => .inr (hwr b q))
    refine wpAny_mono (test C i s₂ m m' E' hi U' hns hB) (fun t s₃ q => ?_) fun _ _ q => q
    obtain ⟨rfl, U₃⟩ := q
    rw [filter_range_succ]
    cases hp : p i with
    | false =>
      simp only [Bool.false_eq_true, if_false, List.append_nil]
      exact ⟨U₃, hO⟩
    | true =>
      simp only [if_true]
      exact wpAny_mono (make C i s₃ m m' E' hi hp (U'.trans U₃) (U₃.ns id hns) hB) (fun y s₄ q => ⟨U₃.trans q.2, hO.snoc q.1⟩) fun _ _ q => q
  done := fun C D ys s' m hC hD hCD hO hy hl hns U => by
    have U' : Upd noW s₁ s' := U₁.then_fresh (U.mono fun b q => q.elim (fun q => .inl q) fun q => .inr (hwr b q))
    exact done C D ys s' m (Nat.le_trans U₁.size hD) hCD (Nat.le_trans U₁.size hC) U' hl hns hO hy
end
end
end Mine
namespace Mine
open PySem PySem.W PySem.Calls PyProof.Rows
noncomputable section
section
variable {w : World} {A : Around} {s : Shared} {E : Value → Shared → Prop} {env : Env}
/-- what a pure comprehension asks of its source and its parts -/
noncomputable def Pure (w : World) (A : Around) (env : Env) (target elt : Expr) (ifs : List Expr) (scope : Scope) (cl : List (Str × Addr)) (s : Shared) (it : Value) (s₂ : Shared) (fin : Nat → (Nat → Bool) → (Nat → Value → Prop) → Prop) : Prop :=
  ∃ (fp wr : List Addr) (n : Nat) (St : Nat → Heap → Prop) (B : Nat → (Str → Option Value) → (Str → Option Value) → Prop) (ok : Env → Prop) (p : Nat → Bool) (G : Nat → Value → Prop),
    Feed w A it target fp wr n St B ok ∧ n ≤ 10000 ∧ St 0 s₂.heap ∧ (∀ b ∈ fp, b < hs s₂) ∧ (∀ C, ok (compEnvC scope cl C env)) ∧ (∀ b ∈ wr, hs s ≤ b) ∧ Upd noW s s₂ ∧
    (∀ C i s' m m' (E' : Value → Shared → Prop), i < n → Upd noW s s' → s'.heap.Ns C m' → B i m m' → wpAny (model pw w) A (testsOf ifs (compEnvC scope cl C env)) (fun t s'' => t = p i ∧ Upd noW s' s'') E' s') ∧
    (∀ C i s' m m' (E' : Value → Shared → Prop), i < n → p i = true → Upd noW s s' → s'.heap.Ns C m' → B i m m' → wpAny (model pw w) A (eval elt (compEnvC scope cl C env)) (fun y s'' => G i y ∧ Upd noW s' s'') E' s') ∧
    fin n p G
theorem comp_v {target elt iter : Expr} {ifs : List Expr} {scope : Scope} {cl : List (Str × Addr)} {pos : Pos} {Q : Value → Shared → Prop}
    (hclos : closureFor scope env = pure cl) (hcell : ∀ y ∈ scope.names, y.2 ≠ .cell) (hkind : scope.kind = .function) (hnames : ∀ y ∈ scope.names, y.2 = .local → scope.names.lookup y.1 = some .local)
    (h : wpAny (model pw w) A (eval iter env) (fun xv s₁ => wpAny (model pw w) A (pyIter xv) (fun it s₂ =>
      Pure w A env target elt ifs scope cl s it s₂ (fun n p G => ∀ D ys s', hs s ≤ D → Upd noW s s' → s'.heap.PlainList D (List.toArray ys) → Made2 G ((List.range n).filter p) ys → Q (.ref D) s')) E s₁) E s)
    (hs' : ∀ x, foldedSetIterable iter env x = pure x := by intro _; rfl) :
    wpAny (model pw w) A (eval (.ListComp elt [⟨target, iter, ifs, 0⟩] scope pos) env) Q E s := by
  refine list_comp hclos hcell hkind hnames (wpAny_mono h (fun xv s₁ h₁ => wpAny_mono h₁ (fun it s₂ h₂ => ?_) fun _ _ e => e) fun _ _ e => e) hs'
  obtain ⟨fp, wr, n, St, B, ok, p, G, F, hn, st, fpl, okC, hwr, U, test, make, fin⟩ := h₂
  refine ⟨fp, wr, n, St, B, ok, noW, _, lc_pure (s₁ := s) F hn st fpl okC hwr U p G test make fun C D ys s' m hD hCD hC U' hl hns hM _ => ⟨⟨m, hns⟩, fun s'' U'' => ?_⟩⟩
  exact fin D ys s'' hD (U'.then_fresh (U''.mono fun b q => .inr (q ▸ hC))) (hl.at fun o e => U''.get (fun q => hCD q.symm) e) hM
theorem comp_to {target elt iter : Expr} {ifs : List Expr} {scope : Scope} {cl : List (Str × Addr)} {pos py spos : Pos} {y : Str} {rest : List Stmt} {Q : Flow → Shared → Prop} {m : Str → Option Value}
    (hsw : swapsWith (.ListComp elt [⟨target, iter, ifs, 0⟩] scope pos) (some (.Name y py)) spos.line env = pure true)
    (hclos : closureFor scope env = pure cl) (hcell : ∀ y ∈ scope.names, y.2 ≠ .cell) (hkind : scope.kind = .function) (hnames : ∀ y ∈ scope.names, y.2 = .local → scope.names.lookup y.1 = some .local)
    (hn : s.heap.Ns env.locals m)
    (h : wpAny (model pw w) A (eval iter env) (fun xv s₁ => wpAny (model pw w) A (pyIter xv) (fun it s₂ =>
      Pure w A env target elt ifs scope cl s it s₂ (fun n p G => ∀ D ys s', hs s ≤ D → Upd (fun b => b = env.locals) s s' → s'.heap.Ns env.locals (setM m y (.ref D)) → s'.heap.PlainList D (List.toArray ys) → Made2 G ((List.range n).filter p) ys → wpAny (model pw w) A (execs rest env) Q E s')) E s₁) E s)
    (hl : env.kindOf y = some .local := by kernel_rfl) (hk : env.scope.kind = .function := by kernel_rfl)
    (hs' : ∀ x, foldedSetIterable iter env x = pure x := by intro _; rfl) :
    wpAny (model pw w) A (execs (.Assign [.Name y py] (.ListComp elt [⟨target, iter, ifs, 0⟩] scope pos) spos :: rest) env) Q E s := by
  refine list_comp_to hsw hclos hcell hkind hnames (wpAny_mono h (fun xv s₁ h₁ => wpAny_mono h₁ (fun it s₂ h₂ => ?_) fun _ _ e => e) fun _ _ e => e) hs'
  obtain ⟨fp, wr, n, St, B, ok, p, G, F, hn', st, fpl, okC, hwr, U, test, make, fin⟩ := h₂
  have Ls : env.locals < hs s := lt_of_ns hn
  refine ⟨fp, wr, n, St, B, ok, noW, _, lc_pure (s₁ := s) F hn' st fpl okC hwr U p G test make fun C D ys s' m' hD hCD hC U' hl' hns hM _ => ?_⟩
  have LC : env.locals ≠ C := Nat.ne_of_lt (Nat.lt_of_lt_of_le Ls hC)
  have LD : D ≠ env.locals := Nat.ne_of_gt (Nat.lt_of_lt_of_le Ls hD)
  refine sL (U'.ns id hn) (fun s'' U'' hn'' => ⟨⟨m', U''.ns (fun q => LC q.symm) hns⟩, fun s₃ U₃ => ?_⟩) hl hk
  refine fin D ys s₃ hD ?_ (U₃.ns LC hn'') (hl'.at fun o e => U₃.get (fun q => hCD q.symm) (U''.get LD e)) hM
  exact Upd.then_fresh (U'.up.trans U'') (U₃.mono fun b q => .inr (q ▸ hC))
/-- a list as the source -/
theorem pure_list {x : Str} {px : Pos} {elt : Expr} {ifs : List Expr} {scope : Scope} {cl : List (Str × Addr)} {s₀ : Shared} {l : Addr} {vs : List Value} {fin : Nat → (Nat → Bool) → (Nat → Value → Prop) → Prop} (hh : A.handled = none) (U : Upd noW s₀ s) (hl : s.heap.PlainList l vs.toArray) (hn : vs.length ≤ 10000)
    (okC : ∀ C, LocEnv x (compEnvC scope cl C env)) (p : Nat → Bool) (G : Nat → Value → Prop)
    (test : ∀ C i v s' m' (E' : Value → Shared → Prop), vs[i]? = some v → Upd noW s₀ s' → s'.heap.Ns C m' → m' x = some v → wpAny (model pw w) A (testsOf ifs (compEnvC scope cl C env)) (fun t s'' => t = p i ∧ Upd noW s' s'') E' s')
    (make : ∀ C i v s' m' (E' : Value → Shared → Prop), vs[i]? = some v → p i = true → Upd noW s₀ s' → s'.heap.Ns C m' → m' x = some v → wpAny (model pw w) A (eval elt (compEnvC scope cl C env)) (fun y s'' => G i y ∧ Upd noW s' s'') E' s')
    (hfin : fin vs.length p G) :
    wpAny (model pw w) A (pyIter (.ref l)) (fun it s₂ => Pure w A env (.Name x px) elt ifs scope cl s₀ it s₂ fin) E s := by
  refine iter_list hh hl fun I St s' h1 h2 h3 U' F st => ?_
  refine ⟨[I, l], [I], vs.length, St, _, _, p, G, F x px, hn, st, fun b hb => ?_, okC, fun b hb => ?_, U.trans U', fun C i s' m m' E' hi U2 hns hB => ?_, fun C i s' m m' E' hi hp U2 hns hB => ?_, hfin⟩
  · rcases List.mem_cons.mp hb with e | hb
    · exact e ▸ h2
    · rw [List.mem_singleton.mp hb]; exact Nat.lt_of_lt_of_le h3 U'.size
  · rw [List.mem_singleton.mp hb]; exact Nat.le_trans U.size h1
  · obtain ⟨v, hv, rfl⟩ := hB
    exact test C i v s' _ E' hv U2 hns (if_pos rfl)
  · obtain ⟨v, hv, rfl⟩ := hB
    exact make C i v s' _ E' hv hp U2 hns (if_pos rfl)
theorem pure_zip {x y : Str} {px py pt : Pos} {k : Nat} {elt : Expr} {ifs : List Expr} {scope : Scope} {cl : List (Str × Addr)} {s₀ : Shared} {l1 l2 : Addr} {vs us : List Value} {fin : Nat → (Nat → Bool) → (Nat → Value → Prop) → Prop} (hh : A.handled = none) (U : Upd noW s₀ s) (h1 : s.heap.PlainList l1 vs.toArray) (h2 : s.heap.PlainList l2 us.toArray) (hn : min vs.length us.length ≤ 10000)
    (hxy : x ≠ y) (okC : ∀ C, LocEnv x (compEnvC scope cl C env) ∧ LocEnv y (compEnvC scope cl C env)) (p : Nat → Bool) (G : Nat → Value → Prop)
    (test : ∀ C i a b s' m' (E' : Value → Shared → Prop), vs[i]? = some a → us[i]? = some b → Upd noW s₀ s' → s'.heap.Ns C m' → m' x = some a → m' y = some b → wpAny (model pw w) A (testsOf ifs (compEnvC scope cl C env)) (fun t s'' => t = p i ∧ Upd noW s' s'') E' s')
    (make : ∀ C i a b s' m' (E' : Value → Shared → Prop), vs[i]? = some a → us[i]? = some b → p i = true → Upd noW s₀ s' → s'.heap.Ns C m' → m' x = some a → m' y = some b → wpAny (model pw w) A (eval elt (compEnvC scope cl C env)) (fun y s'' => G i y ∧ Upd noW s' s'') E' s')
    (hfin : fin (min vs.length us.length) p G) :
    wpAny (model pw w) A (call (.type "zip") [.ref l1, .ref l2] []) (fun xv s₁ => wpAny (model pw w) A (pyIter xv) (fun it s₂ => Pure w A env (.Tuple [.Name x px, .Name y py] k pt) elt ifs scope cl s₀ it s₂ fin) E s₁) E s := by
  refine zip_feed hh h1.isList h2.isList fun z fp wr St s₂ F st hfp hwr U₂ hit => ?_
  refine wpAny_mono hit (fun it s₃ q => ?_) fun _ _ q => q
  obtain ⟨rfl, rfl⟩ := q
  have F' := F x y px py pt k
  have e : min vs.toArray.size us.toArray.size = min vs.length us.length := by simp
  rw [e] at F'
  refine ⟨fp, wr, _, St, _, _, p, G, F', hn, st, fun b hb => (hfp b hb).2, okC, fun b hb => Nat.le_trans U.size (hwr b hb), U.trans U₂, fun C i s' m m' E' hi U2 hns hB => ?_, fun C i s' m m' E' hi hp U2 hns hB => ?_, hfin⟩
  · obtain ⟨a, b, ha, hb, rfl⟩ := hB
    exact test C i a b s' _ E' (by simpa using ha) (by simpa using hb) U2 hns ((if_neg hxy).trans (if_pos rfl)) (if_pos rfl)
  · obtain ⟨a, b, ha, hb, rfl⟩ := hB
    exact make C i a b s' _ E' (by simpa using ha) (by simpa using hb) hp U2 hns ((if_neg hxy).trans (if_pos rfl)) (if_pos rfl)
end
end
end Mine
namespace Mine
open PySem PySem.W PySem.Calls PyProof.Rows
noncomputable section
theorem IsCell.at' {h h' : Heap} {c : Addr} {v : Option Value} (x : h.IsCell c v) (hk : ∀ o, h.get? c = some o → h'.get? c = some o) : h'.IsCell c v := by
  obtain ⟨o, a, b⟩ := x
  exact ⟨o, hk o a, b⟩
theorem lw_cells (L : Addr) : (lwEnv L).cells = [(Str.ofString "ready", L + 8), (Str.ofString "coded", L + 7), (Str.ofString "codes", L + 6), (Str.ofString "shelf", L + 5), (Str.ofString "last", L + 4), (Str.ofString "stock", L + 3), (Str.ofString "meant", L + 2), (Str.ofString "other_cell", L + 1)] := by kernel_rfl
/-- the law's frame as it stands -/
structure Lw (w : World) (s₀ s : Shared) (L : Addr) (m cm : Str → Option Value) : Prop where
  base0 : Base w s₀.heap
  hL : hs s₀ ≤ L
  upd : Upd (fun b => b = lawTab ∨ hs s₀ ≤ b) s₀ s
  ns : s.heap.Ns L m
  cells : ∀ n c, (lwEnv L).cells.lookup n = some c → s.heap.IsCell c (cm n)
  low : L + 9 ≤ hs s
section
variable {w : World} {A : Around} {s s' s₀ : Shared} {L : Addr} {m cm : Str → Option Value} {E : Value → Shared → Prop}
theorem Lw.base (F : Lw w s₀ s L m cm) : Base w s.heap := F.base0.upd F.upd fun b q => q.elim .inl fun q => .inr (Nat.le_trans F.base0.2 q)
theorem Lw.range {n : Str} {c : Addr} (h : (lwEnv L).cells.lookup n = some c) : L < c ∧ c < L + 9 := by
  rw [lw_cells] at h
  have := mem_of_lookup h
  simp only [List.mem_cons, Prod.mk.injEq, List.not_mem_nil, or_false] at this
  rcases this with ⟨_, e⟩ | ⟨_, e⟩ | ⟨_, e⟩ | ⟨_, e⟩ | ⟨_, e⟩ | ⟨_, e⟩ | ⟨_, e⟩ | ⟨_, e⟩ <;> (subst e; exact ⟨Nat.lt_add_of_pos_right (by decide), Nat.add_lt_add_left (by decide) _⟩)
theorem Lw.keep (F : Lw w s₀ s L m cm) {W : Addr → Prop} (U : Upd W s s') (hW : ∀ b, W b → b = lawTab ∨ L + 9 ≤ b) : Lw w s₀ s' L m cm where
  base0 := F.base0
  hL := F.hL
  upd := F.upd.trans (U.mono fun b q => (hW b q).elim .inl fun q => .inr (Nat.le_trans F.hL (Nat.le_trans (Nat.le_add_right _ _) q)))
  ns := U.ns (fun q => by
    rcases hW L q with q | q
    · have h1 := Nat.le_trans F.base0.2 F.hL
      rw [q] at h1
      exact absurd h1 (by decide)
    · exact absurd q (Nat.not_le.mpr (Nat.lt_add_of_pos_right (by decide)))) F.ns
  cells := fun n c h => IsCell.at' (F.cells n c h) fun o e => by
    have r := Lw.range h
    refine U.get (fun q => ?_) e
    rcases hW c q with q | q
    · have h1 := Nat.le_trans F.base0.2 F.hL
      rw [q] at r
      exact absurd (Nat.lt_of_le_of_lt h1 r.1) (by decide)
    · exact absurd q (Nat.not_le.mpr r.2)
  low := Nat.le_trans F.low U.size
theorem Lw.keep0 (F : Lw w s₀ s L m cm) (U : Upd noW s s') : Lw w s₀ s' L m cm := F.keep U fun _ q => q.elim
theorem Lw.loc (F : Lw w s₀ s L m cm) {m' : Str → Option Value} (U : Upd (fun b => b = L) s s') (hn : s'.heap.Ns L m') : Lw w s₀ s' L m' cm where
  base0 := F.base0
  hL := F.hL
  upd := F.upd.trans (U.mono fun b q => .inr (q ▸ F.hL))
  ns := hn
  cells := fun n c h => IsCell.at' (F.cells n c h) fun o e => U.get (fun q => absurd (Lw.range h).1 (by rw [q]; exact Nat.lt_irrefl _)) e
  low := Nat.le_trans F.low U.size
/-- a cell is set -/
theorem sC {x : Str} {c : Addr} {v : Value} {Q : Unit → Shared → Prop} (F : Lw w s₀ s L m cm) (hc : (lwEnv L).cells.lookup x = some c) (h : ∀ s', Upd (fun b => b = c) s s' → Lw w s₀ s' L m (setM cm x v) → Q () s')
    (hl : (lwEnv L).kindOf x = some .cell := by kernel_rfl) : wpAny (model pw w) A (storeName (lwEnv L) x v) Q E s := by
  have r := Lw.range hc
  refine wpAny_storeName_cell (by kernel_rfl) hl hc (F.cells x c hc) fun h' hc' hs' => ?_
  have U : Upd (fun b => b = c) s { s with heap := h' } := Upd.same (t := s.toks) hs' rfl
  refine h _ U ⟨F.base0, F.hL, F.upd.trans (U.mono fun b q => .inr (q ▸ Nat.le_trans F.hL (Nat.le_of_lt r.1))), U.ns (fun q => absurd r.1 (by rw [← q]; exact Nat.lt_irrefl _)) F.ns, fun n d hd => ?_, Nat.le_trans F.low U.size⟩
  by_cases q : n = x
  · subst q
    rw [hc] at hd
    cases hd
    show h'.IsCell c (setM cm n v n)
    rw [show setM cm n v n = some v from if_pos rfl]
    exact hc'
  · show h'.IsCell d (setM cm x v n)
    rw [show setM cm x v n = cm n from if_neg q]
    refine IsCell.at' (F.cells n d hd) fun o e => U.get (fun q' => q ?_) e
    subst q'
    have ap : ((lwEnv L).cells).Pairwise fun x y => x.2 ≠ y.2 := by
      rw [lw_cells]
      simp only [List.pairwise_cons, List.mem_cons, List.not_mem_nil, or_false, forall_eq_or_imp, forall_eq, List.Pairwise.nil, false_imp_iff, implies_true, and_true]
      refine ⟨?_, ?_, ?_, ?_, ?_, ?_, ?_⟩ <;> (repeat' apply And.intro) <;> (show (_ : Nat) ≠ _; omega)
    exact name_of_addr ap (mem_of_lookup hd) (mem_of_lookup hc)
theorem lwL {x : Str} {pos : Pos} {v : Value} {Q : Value → Shared → Prop} (F : Lw w s₀ s L m cm) (hv : m x = some v) (h : Q v s) (hl : (lwEnv L).kindOf x = some .local := by kernel_rfl) (hd : (x == ("__debug__" : Str)) = false := by kernel_rfl) :
    wpAny (model pw w) A (eval (.Name x pos) (lwEnv L)) Q E s := nL (env := lwEnv L) F.ns hv h hl (by kernel_rfl) hd
theorem lwC {x : Str} {pos : Pos} {c : Addr} {v : Value} {Q : Value → Shared → Prop} (F : Lw w s₀ s L m cm) (hc : (lwEnv L).cells.lookup x = some c) (hv : cm x = some v) (h : Q v s) (hl : (lwEnv L).kindOf x = some .cell := by kernel_rfl) (hd : (x == ("__debug__" : Str)) = false := by kernel_rfl) :
    wpAny (model pw w) A (eval (.Name x pos) (lwEnv L)) Q E s := nC (env := lwEnv L) hc (hv ▸ F.cells x c hc) h hl (by kernel_rfl) hd
end
end
end Mine
namespace Mine
open PySem PySem.W PySem.Calls PyProof.Rows
noncomputable section
section
variable {w : World} {A : Around} {s s' s₀ : Shared} {L : Addr} {m cm : Str → Option Value} {E : Value → Shared → Prop}
theorem cell_val {a0 : Addr} {vs : List Value} {ns : List Int} {k0 : Int} {lower : Option Expr} {lo : Option Int} {c1 c5 c11 c13 : Nat} {p2 p3 p4 p6 p7 p8 p9 p10 p12 p14 p15 p16 : Pos} {Q : Value → Shared → Prop} (hh : A.handled = none) (F : Lw w s₀ s L m cm) (hm : m (Str.ofString "script") = some (.ref a0)) (hl : s.heap.PlainList a0 vs.toArray) (hi : IntsAre vs ns) (hz : vs.length ≤ 100)
    (hlow : ∀ (s₁ : Shared) (Q : Value → Shared → Prop) (E : Value → Shared → Prop), (∀ v k, IsPart v lo → Q v { s₁ with toks := k }) → wpAny (model pw w) A (evalPart lower (lwEnv L)) Q E s₁)
    (h : ∀ (n : Nat) t s', n < 10 ^ 9 → Upd noW s s' → Q (.int (n : Int) t) s') :
    wpAny (model pw w) A (eval (.BinOp (.BinOp (.Constant (.int k0) c1 p2) .Add (.Call (.Name (Str.ofString "sum") p3) [.Subscript (.Name (Str.ofString "script") p4) (.Slice lower none (some (.Constant (.int 2) c5 p6)) p7) p8] [] p9) p10) .Mod (.BinOp (.Constant (.int 10) c11 p12) .Pow (.Constant (.int 9) c13 p14) p15) p16) (lwEnv L)) Q E s := by
  refine wpAny_BinOp (wpAny_BinOp (wpAny_Constant_int (k := 0) (pos := p0) ?_))
  have F1 : Lw w s₀ { s with toks := s.toks + 1 } L m cm := F.keep0 (.toks (t := s.toks + 1))
  have U1 : Upd noW s { s with toks := s.toks + 1 } := .toks
  have hl1 : ({ s with toks := s.toks + 1 } : Shared).heap.PlainList a0 vs.toArray := hl
  generalize ({ s with toks := s.toks + 1 } : Shared) = s₁ at F1 U1 hl1 ⊢
  refine callB1 (env := lwEnv L) (id := "sum") F1.base (fun P => by kernel_rfl) (fun P => by kernel_rfl) ?_
  refine list_sl_step (lwL F1 hm (hlow _ _ _ fun vl k hp => ?_))
  refine wpAny_pure ?_
  refine wpAny_Constant_int (k := 0) (pos := p0) ?_
  refine ⟨a0, vs.toArray, lo, none, 2, rfl, hl1, by simp; omega, hp, .none, .int _ _, by decide, fun D s₂ hD U2 hl2 => ?_⟩
  have U2' : Upd noW s₁ s₂ := (Upd.toks (t := k + 1)).trans U2
  have hi2 := hi.pick lo none (some 2)
  have hl2' : s₂.heap.PlainList D (slicePick vs.toArray lo none (some 2)).toList.toArray := by rw [Array.toArray_toList]; exact hl2
  refine sum_list hh hl2' hi2 fun t s₃ U3 => ?_
  refine add_int ?_
  refine wpAny_BinOp (wpAny_Constant_int (k := 0) (pos := p0) (wpAny_Constant_int (k := 0) (pos := p0) (PyProof.Rows.pow_int_small (by decide) (by decide) (by decide) ?_)))
  refine mod_int (by decide) ?_
  have e : (10 : Int) ^ (9 : Int).toNat = 1000000000 := by decide
  rw [e]
  have h0 : 0 ≤ Int.fmod (k0 + (pickNums ns lo none (some 2)).sum) 1000000000 := Int.fmod_nonneg_of_pos _ (by decide)
  have h1 : Int.fmod (k0 + (pickNums ns lo none (some 2)).sum) 1000000000 < 1000000000 := Int.fmod_lt_of_pos _ (by decide)
  obtain ⟨n, hn⟩ := Int.eq_ofNat_of_zero_le h0
  rw [hn] at h1 ⊢
  refine h n _ _ (by omega) ((((U1.trans U2').trans U3)).trans .toks)
end
end
end Mine
namespace Mine
open PySem PySem.W PySem.Calls PyProof.Rows
noncomputable section
section
variable {w : World} {A : Around} {s : Shared} {E : Value → Shared → Prop} {env : Env}
theorem draw_list {it t : Addr} {items : Array Value} (hne : t ≠ it) : ∀ (n i : Nat) (s : Shared) (Q : List Value → Shared → Prop), s.heap.IsListIter it t i → s.heap.IsList t items → i + n ≤ items.size →
    (∀ h', h'.IsListIter it t (i + n) → Heap.SameBut it s.heap h' → Q ((items.toList.drop i).take n) { s with heap := h' }) → wpAny (model pw w) A (draw (.ref it) n) Q E s
  | 0, i, s, Q, hit, _, _, hQ => by
    show wpAny _ _ (pure []) Q E s
    exact wpAny_pure (by simpa using hQ s.heap hit (Heap.SameBut.refl ..))
  | n + 1, i, s, Q, hit, ht, hle, hQ => by
    have hlt : i < items.size := by omega
    show wpAny _ _ (pyNext (.ref it) >>= _) Q E s
    refine wpAny_bind (wpAny_pyNext_list_item hit ht (x := items[i]) (by simp [hlt]) fun h₁ hit₁ hs₁ => ?_)
    refine wpAny_bind (wpAny_holding (draw_list hne n (i + 1) _ _ hit₁ (ht.extBut hs₁.extBut hne) (by omega) fun h₂ hit₂ hs₂ => wpAny_pure ?_))
    have hd : items.toList.drop i = items[i] :: items.toList.drop (i + 1) := by simp [List.drop_eq_getElem_cons, hlt]
    have := hQ h₂ (by rw [show i + (n + 1) = i + 1 + n by omega]; exact hit₂) (hs₁.trans hs₂)
    rw [hd, List.take_succ_cons] at this
    exact this
theorem unpackItems_list {t : Addr} {items : Array Value} {Q : List Value → Shared → Prop} (hh : A.handled = none) (ht : s.heap.IsList t items)
    (hQ : ∀ h', Heap.ExtBut s.heap.objs.size s.heap h' → Q items.toList { s with heap := h' }) : wpAny (model pw w) A (unpackItems (.ref t) items.size none) Q E s := by
  have hlt : t ≠ s.heap.objs.size := by obtain ⟨o, ho, _⟩ := ht; exact Nat.ne_of_lt (Heap.lt_size ho)
  unfold unpackItems
  refine wpAny_bind ?_
  · unfold notIterableAtAll
    refine wpAny_bind (wpAny_specialOf ht.typeIs PySem.F.slot_list_iter.lookup ?_)
    refine wpAny_pure ?_
    simp only [Bool.false_eq_true, if_false]
    refine wpAny_bind (wpAny_holding (wpAny_pyIter_list ht ?_))
    refine wpAny_bind (wpAny_holding (draw_list hlt items.size 0 _ _ ⟨_, Heap.get?_push_size _ rfl, rfl, rfl⟩ (ht.push _) (by omega) fun h₁ hit₁ hs₁ => ?_))
    have hall : List.take items.size (List.drop 0 items.toList) = items.toList := by
      rw [List.drop_zero]; exact List.take_of_length_le (by simp)
    rw [hall]
    rw [if_neg (by simp)]
    have ht₁ : h₁.IsList t items := (ht.push _).extBut hs₁.extBut hlt
    refine wpAny_bind (wpAny_holding (wpAny_pyNext_list_end hh hit₁ ht₁ (by simp) fun h₂ he₂ => ?_))
    simp only [Option.isSome_none, Bool.false_eq_true, if_false]
    refine wpAny_pure (hQ h₂ fun b o hb e => he₂ b o hb (hs₁.extBut b o hb (Heap.get?_push_of_some _ e)))
theorem assign_pair {x y : Str} {px py pt : Pos} {k : Nat} {t : Addr} {a b : Value} {Q : Unit → Shared → Prop} {m : Str → Option Value} (hh : A.handled = none) (ht : s.heap.PlainList t #[a, b]) (hx : LocEnv x env) (hy : LocEnv y env) (hn : s.heap.Ns env.locals m)
    (h : ∀ s', Upd (fun c => c = env.locals) s s' → s'.heap.Ns env.locals (setM (setM m x a) y b) → Q () s') : wpAny (model pw w) A (assign (.Tuple [.Name x px, .Name y py] k pt) env (.ref t)) Q E s := by
  rw [arm_assign_Tuple]
  refine with_hs ?_
  refine wpAny_bind (wpAny_standAt ?_)
  unfold unpack
  refine wpAny_bind (wpAny_holding ?_)
  have hLs : env.locals ≠ s.heap.objs.size := Nat.ne_of_lt (lt_of_ns hn)
  refine unpackItems_list (items := #[a, b]) hh ht.isList fun h' hx' => ?_
  have hn' : h'.Ns env.locals m := hn.at' fun o e => hx' _ _ hLs e
  show wpAny _ _ (assignInOrder [assign (.Name x px) env, assign (.Name y py) env] [a, b]) _ _ _
  refine assignInOrder_cons (wpAny_assign_Name (wpAny_storeName_local hx.1 hn' (fun h₄ hn₄ hs₄ => ?_) hx.2))
  refine assignInOrder_cons (wpAny_assign_Name (wpAny_storeName_local hy.1 hn₄ (fun h₅ hn₅ hs₅ => assignInOrder_nil fun hsz₅ => ?_) hy.2))
  have old : ∀ b o, b ≠ env.locals → s.heap.get? b = some o → h₅.get? b = some o := fun b o nb e => hs₅.extBut _ _ nb (hs₄.extBut _ _ nb (hx' _ _ (Nat.ne_of_lt (Heap.lt_size e)) e))
  exact h _ (Upd.of_heap hsz₅ fun b o nb e => old b o nb e) hn₅
/-- a list of pairs as a feed -/
theorem Feed.pairs {x y : Str} {px py pt : Pos} {k : Nat} (hh : A.handled = none) {I l : Addr} (hne : l ≠ I) {vs : List Value} {qs : List Pr} {P : Addr → Prop} {fp : List Addr} (hP : ∀ a, P a → a ∈ fp ∧ a ≠ I) (hI : I ∈ fp) (hl : l ∈ fp) :
    Feed w A (.ref I) (.Tuple [.Name x px, .Name y py] k pt) fp [I] vs.length (fun i h => h.IsListIter I l i ∧ h.IsList l vs.toArray ∧ PairsAre h P vs qs)
      (fun i m m' => ∃ c z t u, qs[i]? = some (c, tx z) ∧ m' = setM (setM m x (.str ⟨#[c]⟩ t)) y (.str z u)) (fun env => LocEnv x env ∧ LocEnv y env) where
  sub := fun b hb => by rw [List.mem_singleton.mp hb]; exact hI
  frame := fun i h h' st hk => ⟨st.1.at fun o e => hk I hI o e, st.2.1.at fun o e => hk l hl o e, st.2.2.keep fun a p o e => hk a (hP a p).1 o e⟩
  done := fun s Q E st hQ => with_hs (wpAny_pyNext_list_end hh st.1 st.2.1 (by simp) fun h' he hsz => hQ _ (Upd.of_heap (tk := s.toks) hsz fun b o nb e => he b o (fun q => nb (q ▸ List.mem_singleton_self _)) e))
  self := fun i s Q E st hQ => wpAny_pyIter_listiter st.1 hQ
  turn := fun i s env m Q E hi st hok hLf hn hQ => by
    obtain ⟨st1, st2, st3⟩ := st
    have hv : vs[i]? = some vs[i] := List.getElem?_eq_getElem hi
    obtain ⟨a, c, z, t, u, ha, hPa, hpl, hq⟩ := st3.get hv
    refine with_hs (wpAny_pyNext_list_item st1 st2 (x := vs[i]) (by simp [hi]) fun h' hit' hs' hsz => ⟨vs[i], rfl, ?_⟩)
    have U : Upd (fun b => b = I) s { s with heap := h' } := Upd.same (t := s.toks) hs' rfl
    have aI := (hP a hPa).2
    have LI : env.locals ≠ I := fun q => hLf (q ▸ hI)
    rw [ha]
    have g : wpAny (model pw w) A (letOwnedTupleGo (.Tuple [.Name x px, .Name y py] k pt) (.ref I) (.ref a)) (fun _ s₂ => wpAny (model pw w) A (assign (.Tuple [.Name x px, .Name y py] k pt) env (.ref a)) (fun _ s₃ => Q s₃) E s₂) E { s with heap := h' } := by
      obtain ⟨o, ho, hc, hd⟩ := id hit'
      show wpAny _ _ (do let o ← load I; _) _ _ _
      refine wpAny_bind (wpAny_load ho ?_)
      rw [hc, hd]
      dsimp only
      rw [if_neg (by rw [show (["enumerate", "zip", "dict_itemiterator", "dict_reverseitemiterator", "odict_iterator", "itertools.zip_longest", "itertools.pairwise"].contains "list_iterator") = false from by decide +kernel]; simp)]
      refine wpAny_pure ?_
      refine assign_pair hh (s := { s with heap := h' }) (hpl.at fun o e => U.get aI e) hok.1 hok.2 (U.ns LI hn) fun s₃ U₃ hn₃ => ?_
      have noL : ∀ b, b ∈ fp → b ≠ env.locals := fun b hb q => hLf (q ▸ hb)
      refine hQ s₃ _ ((U.mono fun b q => .inl (q ▸ List.mem_singleton_self _)).trans (U₃.mono fun b q => .inr q)) ⟨?_, ?_, ?_⟩ hn₃ ⟨c, z, t, u, hq, rfl⟩
      · exact hit'.at fun o e => U₃.get (noL I hI) e
      · exact (st2.at fun o e => U.get hne e).at fun o e => U₃.get (noL l hl) e
      · exact (st3.keep fun b p o e => U.get (hP b p).2 e).keep fun b p o e => U₃.get (noL b (hP b p).1) e
    exact g
end
end
end Mine
namespace Mine
open PySem PySem.W PySem.Calls PyProof.Rows
noncomputable section
noncomputable abbrev ch (c : Nat) : Str := ⟨#[c]⟩
/-- a table of signs and words -/
inductive KVq : KVs → List Pr → Prop
  | nil : KVq [] []
  | snoc {kvs qs c z u} : KVq kvs qs → KVq (kvs ++ [(ch c, .str z u)]) (qs ++ [(c, tx z)])
theorem KVq.len {kvs : KVs} {qs : List Pr} (h : KVq kvs qs) : kvs.length = qs.length := by
  induction h with
  | nil => rfl
  | snoc _ ih => simp [ih]
theorem KVq.keys {kvs : KVs} {qs : List Pr} (h : KVq kvs qs) : kvs.map (·.1) = qs.map fun q => ch q.1 := by
  induction h with
  | nil => rfl
  | snoc _ ih => simp [ih]
theorem ch_inj {a b : Nat} (h : ch a = ch b) : a = b := by injection h with h; simpa using h
theorem stored_fresh {kvs : KVs} {k : Str} {v : Value} (h : k ∉ kvs.map (·.1)) : stored kvs k v = kvs ++ [(k, v)] := by
  unfold stored
  rw [if_neg]
  intro q
  rw [List.any_eq_true] at q
  obtain ⟨x, hx, e⟩ := q
  exact h (List.mem_map.mpr ⟨x, hx, of_decide_eq_true e⟩)
theorem KVq.store {kvs : KVs} {qs : List Pr} (h : KVq kvs qs) {c : Nat} {z : Str} {u : Tok} (hc : c ∉ qs.map (·.1)) : KVq (stored kvs (ch c) (.str z u)) (qs ++ [(c, tx z)]) := by
  rw [stored_fresh]
  · exact .snoc h
  · rw [h.keys]
    intro q
    obtain ⟨x, hx, e⟩ := List.mem_map.mp q
    exact hc (List.mem_map.mpr ⟨x, hx, ch_inj e⟩)
theorem nodup_take_succ {qs : List Pr} {i : Nat} {q : Pr} (hn : (qs.map (·.1)).Nodup) (h : qs[i]? = some q) : q.1 ∉ (qs.take i).map (·.1) ∧ qs.take (i + 1) = qs.take i ++ [q] := by
  have e : qs.take (i + 1) = qs.take i ++ [q] := by rw [List.take_add_one, h]; rfl
  have hn' : ((qs.take (i + 1)).map (·.1)).Nodup := hn.sublist ((List.take_sublist _ _).map _)
  rw [e, List.map_append, List.nodup_append] at hn'
  exact ⟨fun hm => hn'.2.2 _ hm _ (by simp) rfl, e⟩
noncomputable def addrsOf : List Value → List Addr
  | [] => []
  | .ref a :: r => a :: addrsOf r
  | _ :: r => addrsOf r
theorem mem_addrsOf {a : Addr} : ∀ {vs : List Value}, a ∈ addrsOf vs ↔ Value.ref a ∈ vs
  | [] => by simp [addrsOf]
  | v :: r => by
    have ih := mem_addrsOf (a := a) (vs := r)
    cases v <;> simp [addrsOf, ih]
theorem PairsAre.mems {h : Heap} {P : Addr → Prop} : ∀ {vs : List Value} {qs : List Pr}, PairsAre h P vs qs → PairsAre h (fun a => P a ∧ Value.ref a ∈ vs) vs qs
  | _, _, .nil => .nil
  | _, _, .cons p l r => .cons ⟨p, List.mem_cons_self ..⟩ l (r.mems.mono fun a q => ⟨q.1, List.mem_cons_of_mem _ q.2⟩)
theorem PairsAre.prop {h : Heap} {P : Addr → Prop} : ∀ {vs : List Value} {qs : List Pr}, PairsAre h P vs qs → ∀ a, Value.ref a ∈ vs → P a ∧ a < h.objs.size
  | _, _, .nil, a, q => by simp at q
  | _, _, .cons p l r, a, q => by
    rcases List.mem_cons.mp q with e | q
    · cases e; exact ⟨p, by obtain ⟨n, ho⟩ := l; exact Heap.lt_size ho⟩
    · exact r.prop a q
section
variable {w : World} {A : Around} {s s' s₀ : Shared} {L : Addr} {m cm : Str → Option Value} {E : Value → Shared → Prop}
theorem lw_drop2 : ∃ (ps : List Pos) (cs : List Nat), lwBody 2 = (.Assign [(.Name (Str.ofString "meant") (posN ps 0))] (.DictComp (.Name (Str.ofString "sign") (posN ps 1)) (.Name (Str.ofString "word") (posN ps 2)) [⟨(.Tuple [(.Name (Str.ofString "sign") (posN ps 3)), (.Name (Str.ofString "word") (posN ps 4))] (natN cs 0) (posN ps 5)), (.Call (.Name (Str.ofString "_law_stock") (posN ps 6)) [(.Name (Str.ofString "cell") (posN ps 7)), (.BinOp (.Constant (.int 3) (natN cs 1) (posN ps 8)) .Add (.BinOp (.Call (.Name (Str.ofString "len") (posN ps 9)) [(.Name (Str.ofString "script") (posN ps 10))] [] (posN ps 11)) .Mod (.Constant (.int 2) (natN cs 2) (posN ps 12)) (posN ps 13)) (posN ps 14))] [] (posN ps 15)), [], 0⟩] (mkSc [((Str.ofString ".0"), .local), ((Str.ofString "sign"), .local), ((Str.ofString "word"), .local)]) (posN ps 16)) (posN ps 17)) :: lwBody 3 :=
   ⟨[_, _, _, _, _, _, _, _, _, _, _, _, _, _, _, _, _, _], [_, _, _], rfl⟩
theorem lw2 {a0 : Addr} {vs : List Value} {cell : Nat} {tc : Tok} {Q : Flow → Shared → Prop} (hr : Room 30 A) (hh : A.handled = none) (F : Lw w s₀ s L m cm) (hm : m (Str.ofString "script") = some (.ref a0)) (hl : s.heap.PlainList a0 vs.toArray) (hz : vs.length ≤ 100)
    (hc : m (Str.ofString "cell") = some (.int (cell : Int) tc)) (hcell : cell < 10 ^ 9) (hnd : ((stockOf cell (3 + vs.length % 2)).map (·.1)).Nodup) (hlen : (stockOf cell (3 + vs.length % 2)).length ≤ 100)
    (h : ∀ D kvs s', L + 9 ≤ D → Upd (fun b => b = L + 2) s s' → Lw w s₀ s' L m (setM cm (Str.ofString "meant") (.ref D)) → s'.heap.DictOf (sk w) D kvs → KVq kvs (stockOf cell (3 + vs.length % 2)) → wpAny (model pw w) A (execs (lwBody 3) (lwEnv L)) Q E s') :
    wpAny (model pw w) A (execs (lwBody 2) (lwEnv L)) Q E s := by
  obtain ⟨ps, cs, he⟩ := lw_drop2
  rw [he]
  refine asg ?_ (by kernel_rfl)
  refine dict_comp (cl := []) (by kernel_rfl) (by decide +kernel) (by kernel_rfl) (by decide +kernel) ?_
  refine callG2 (env := lwEnv L) okStock F.base (fun P => by kernel_rfl) ?_
  refine lwL F hc ?_
  refine wpAny_BinOp (wpAny_Constant_int (k := 0) (pos := (posN ps 0)) (wpAny_BinOp ?_))
  have U1 : Upd noW s { s with toks := s.toks + 1 } := .toks
  have F1 := F.keep0 U1
  have hl1 : ({ s with toks := s.toks + 1 } : Shared).heap.PlainList a0 vs.toArray := hl
  generalize ({ s with toks := s.toks + 1 } : Shared) = s₁ at U1 F1 hl1 ⊢
  refine callB1 (env := lwEnv L) (id := "len") F1.base (fun P => by kernel_rfl) (fun P => by kernel_rfl) (lwL F1 hm (len_list hl1.isList (by simp; omega) ?_))
  refine wpAny_Constant_int (k := 0) (pos := (posN ps 0)) (mod_int (by decide) (add_int ?_))
  have e1 : (3 : Int) + Int.fmod ((vs.toArray.size : Nat) : Int) 2 = ((3 + vs.length % 2 : Nat) : Int) := by
    have := fmod_nat vs.toArray.size 2
    rw [show ((2 : Nat) : Int) = 2 from rfl] at this
    rw [this, List.size_toArray]; push_cast; rfl
  rw [e1]
  have U2 : Upd noW s₁ { s₁ with toks := s₁.toks + 1 + 1 + 1 + 1 + 1 } := .toks
  have F2 := F1.keep0 U2
  generalize ({ s₁ with toks := s₁.toks + 1 + 1 + 1 + 1 + 1 } : Shared) = s₂ at U2 F2 ⊢
  refine ⟨F2.base, stock_call (hr.le (by decide)) hh F2.base hcell (by omega) (by omega) fun s₃ D0 ps hD0 U3 hl3 hP3 => ?_⟩
  have F3 := F2.keep0 U3
  have lenP := hP3.len
  refine wpAny_pyIter_list hl3.isList ?_
  have hD0' : D0 < hs s₃ := by obtain ⟨n, ho⟩ := hl3; exact Heap.lt_size ho
  have U4 : Upd noW s₃ { s₃ with heap := s₃.heap.push { cls := .type "list_iterator", data := .fields #[.ref D0, .int 0 0] } } := .push (t := s₃.toks)
  have hI : (s₃.heap.push { cls := .type "list_iterator", data := .fields #[.ref D0, .int 0 0] }).IsListIter s₃.heap.objs.size D0 0 := ⟨_, Heap.get?_push_size _ rfl, rfl, rfl⟩
  have F4 := F3.keep0 U4
  have sz4 : hs s₃ < hs { s₃ with heap := s₃.heap.push { cls := .type "list_iterator", data := .fields #[.ref D0, .int 0 0] } } := by
    show s₃.heap.objs.size < (s₃.heap.push _).objs.size
    rw [Heap.size_push]; exact Nat.lt_succ_self _
  have eh : ({ s₃ with heap := s₃.heap.push { cls := .type "list_iterator", data := .fields #[.ref D0, .int 0 0] } } : Shared).heap = s₃.heap.push { cls := .type "list_iterator", data := .fields #[.ref D0, .int 0 0] } := rfl
  generalize ({ s₃ with heap := s₃.heap.push { cls := .type "list_iterator", data := .fields #[.ref D0, .int 0 0] } } : Shared) = s₄ at U4 F4 sz4 eh ⊢
  rw [← eh] at hI
  have hpr := hP3.prop
  have Fd : ∀ (px py pt : Pos) (k : Nat), Feed w A (.ref (hs s₃)) (.Tuple [.Name (Str.ofString "sign") px, .Name (Str.ofString "word") py] k pt) (hs s₃ :: D0 :: addrsOf ps) [hs s₃] ps.length _ _ _ := fun px py pt k =>
    Feed.pairs (x := Str.ofString "sign") (y := Str.ofString "word") (P := fun a => (hs s₂ ≤ a ∧ a ≠ D0) ∧ Value.ref a ∈ ps) (qs := stockOf cell (3 + vs.length % 2)) hh (Nat.ne_of_lt hD0') (fun a p => ⟨List.mem_cons_of_mem _ (List.mem_cons_of_mem _ (mem_addrsOf.mpr p.2)), Nat.ne_of_lt (hpr a p.2).2⟩) (List.mem_cons_self ..) (List.mem_cons_of_mem _ (List.mem_cons_self ..))
  have V : Upd noW s s₄ := ((U1.trans U2).trans U3).trans U4
  refine ⟨_, _, _, _, _, _, noW, fun C D i ys s' => KVq ys ((stockOf cell (3 + vs.length % 2)).take i), Fd _ _ _ _, by omega, ⟨hI, hl3.isList.at fun o e => U4.get id e, hP3.mems.keep fun a _ o e => U4.get id e⟩, ?_, ?_, fun b q => q.elim, ?_, ?_, ?_, ?_⟩
  · intro b hb
    rcases List.mem_cons.mp hb with e | hb
    · exact e ▸ sz4
    rcases List.mem_cons.mp hb with e | hb
    · exact e ▸ Nat.lt_of_lt_of_le hD0' U4.size
    · exact Nat.lt_of_lt_of_le (hpr b (mem_addrsOf.mp hb)).2 U4.size
  · exact fun C => ⟨⟨by kernel_rfl, by kernel_rfl⟩, ⟨by kernel_rfl, by kernel_rfl⟩⟩
  · intro C D s' _ _ _ _; rw [List.take_zero]; exact .nil
  · intro C D i ys s s' hO _; exact hO
  · rintro C D i ys s₅ m₁ m₂ E' hC hD hCD hi hO ⟨c, z, t, u, hq, rfl⟩ hns hl5 U5
    have hn := nodup_take_succ hnd hq
    refine wpAny_tests_nil ?_
    simp only [if_true]
    refine nL hns (v := .str (ch c) t) ((if_neg (by decide)).trans (if_pos rfl)) (nL hns (v := .str z u) (if_pos rfl) ⟨ch c, PySem.strKind_is pw w _ _, .refl _ _, ?_⟩)
    rw [hn.2]
    exact hO.store hn.1
  · intro C D ys s₅ m₅ hC hD hCD hO hy hl5 hns U5
    have V5 : Upd noW s s₅ := V.then_fresh (U5.mono fun b q => q.elim (fun q => .inl q) fun q => .inr (by rw [List.mem_singleton.mp q]; exact ((U1.trans U2).trans U3).size))
    refine ⟨⟨m₅, hns⟩, fun s₆ U6 => ?_⟩
    have hsC : hs s ≤ C := Nat.le_trans V.size hC
    have V6 : Upd noW s s₆ := V5.then_fresh (U6.mono fun b q => .inr (q ▸ hsC))
    have F6 := F.keep0 V6
    have hD9 : L + 9 ≤ D := Nat.le_trans F4.low hD
    refine sC F6 (c := L + 2) (by kernel_rfl) (fun s₇ U7 F7 => ?_)
    have hO' : KVq ys (stockOf cell (3 + vs.length % 2)) := by
      rw [lenP, List.take_length] at hO
      exact hO
    exact h D ys s₇ hD9 (V6.up.trans U7) F7 ((hl5.at fun o e => U6.get (fun q => hCD q.symm) e).at fun o e => U7.get (fun q => absurd hD9 (by rw [q]; exact Nat.not_le.mpr (Nat.add_lt_add_left (by decide) _))) e) hO'
end
end
end Mine
namespace Mine
open PySem PySem.W PySem.Calls PyProof.Rows
/-! plain: insertion and order -/
section
variable {α : Type}
noncomputable def insL (l : List α) (r : Nat) (x : α) : List α := l.take r ++ x :: l.drop r
theorem insL_perm (l : List α) (r : Nat) (x : α) : (insL l r x).Perm (x :: l) := by
  unfold insL
  have h : (l.take r ++ x :: l.drop r).Perm (x :: (l.take r ++ l.drop r)) := List.perm_middle
  rwa [List.take_append_drop] at h
theorem insL_sorted {R : α → α → Prop} (tr : ∀ a b c, R a b → R b c → R a c) {l : List α} {r : Nat} {x : α} (hl : l.Pairwise R) (hr : r ≤ l.length) (h1 : ∀ a, (0 < r → l[r - 1]? = some a → R a x)) (h2 : ∀ a, l[r]? = some a → R x a) : (insL l r x).Pairwise R := by
  unfold insL
  have e := List.take_append_drop r l
  rw [← e] at hl
  obtain ⟨p1, p2, p3⟩ := List.pairwise_append.mp hl
  have a1 : ∀ a ∈ l.take r, R a x := by
    intro a ha
    obtain ⟨i, hi⟩ := List.getElem?_of_mem ha
    have hir : i < r := by
      by_cases q : i < r
      · exact q
      · rw [List.getElem?_eq_none (by simp; omega)] at hi; cases hi
    have hla : (l.take r)[r - 1]? = l[r - 1]? := by rw [List.getElem?_take]; rw [if_pos (by omega)]
    have hlt : r - 1 < l.length := by omega
    have hz := h1 l[r - 1] (by omega) (List.getElem?_eq_getElem hlt)
    by_cases q : i = r - 1
    · rw [q, hla, List.getElem?_eq_getElem hlt] at hi
      cases hi; exact hz
    · refine tr _ _ _ ?_ hz
      have hm : r - 1 < (l.take r).length := by simp; omega
      have hi' : i < (l.take r).length := by simp; omega
      have := List.pairwise_iff_getElem.mp p1 i (r - 1) hi' hm (by omega)
      rw [List.getElem?_eq_getElem hi'] at hi
      cases hi
      simpa using this
  have a2 : ∀ a ∈ l.drop r, R x a := by
    intro a ha
    cases hd : l.drop r with
    | nil => rw [hd] at ha; cases ha
    | cons b t =>
      have hb : l[r]? = some b := by
        have := congrArg (fun z => z[0]?) hd
        simpa using this
      have hz := h2 b hb
      rw [hd] at ha p2
      rcases List.mem_cons.mp ha with e | ha
      · rw [e]; exact hz
      · exact tr _ _ _ hz ((List.pairwise_cons.mp p2).1 a ha)
  refine List.pairwise_append.mpr ⟨p1, List.pairwise_cons.mpr ⟨a2, p2⟩, fun a ha b hb => ?_⟩
  rcases List.mem_cons.mp hb with e | hb
  · rw [e]; exact a1 a ha
  · exact p3 a ha b hb
/-- two sorted lists of the same things are the same -/
theorem sorted_unique {R : α → α → Prop} (irr : ∀ a, ¬ R a a) (tr : ∀ a b c, R a b → R b c → R a c) : ∀ {l k : List α}, l.Perm k → l.Pairwise R → k.Pairwise R → l = k
  | [], k, hp, _, _ => by rw [List.nil_perm.mp hp]
  | a :: l, [], hp, _, _ => by have := hp.length_eq; simp at this
  | a :: l, b :: k, hp, hl, hk => by
    have h1 := List.pairwise_cons.mp hl
    have h2 := List.pairwise_cons.mp hk
    have e : a = b := by
      have ha : a ∈ b :: k := hp.mem_iff.mp (List.mem_cons_self ..)
      have hb : b ∈ a :: l := hp.mem_iff.mpr (List.mem_cons_self ..)
      rcases List.mem_cons.mp ha with e | ha
      · exact e
      · rcases List.mem_cons.mp hb with e | hb
        · exact e.symm
        · exact absurd (tr _ _ _ (h1.1 b hb) (h2.1 a ha)) (irr a)
    subst e
    rw [sorted_unique irr tr (List.Perm.cons_inv hp) h1.2 h2.2]
end
end Mine
namespace Mine
open PySem PySem.W PySem.Calls PyProof.Rows
noncomputable section
noncomputable def ltT (a b : Str) : Prop := tx a < tx b
noncomputable def ltF (f : Str → List Nat) (a b : Str) : Prop := f a < f b ∨ (f a = f b ∧ tx a < tx b)
theorem tx_inj {a b : Str} (h : tx a = tx b) : a = b := by
  cases a; cases b
  simp only [Str.mk.injEq]
  exact Array.toList_inj.mp h
theorem ltT_trans (a b c : Str) (h1 : ltT a b) (h2 : ltT b c) : ltT a c := List.lt_trans h1 h2
theorem ltT_irr (a : Str) : ¬ ltT a a := List.lt_irrefl _
theorem ltF_trans (f : Str → List Nat) (a b c : Str) (h1 : ltF f a b) (h2 : ltF f b c) : ltF f a c := by
  rcases h1 with h1 | ⟨e1, h1⟩ <;> rcases h2 with h2 | ⟨e2, h2⟩
  · exact .inl (List.lt_trans h1 h2)
  · exact .inl (e2 ▸ h1)
  · exact .inl (e1 ▸ h2)
  · exact .inr ⟨e1.trans e2, List.lt_trans h1 h2⟩
theorem ltF_irr (f : Str → List Nat) (a : Str) : ¬ ltF f a a := fun h => h.elim (List.lt_irrefl _) fun q => List.lt_irrefl _ q.2
theorem ltT_total {a b : Str} (h : ¬ ltT a b) (hne : a ≠ b) : ltT b a := by
  by_cases q : ltT b a
  · exact q
  · exact absurd (tx_inj (lex_eq h q)) hne
theorem StrsAre.insAt' {vs : List Value} {xs : List Str} (h : StrsAre vs xs) (r : Nat) (x : Str) (t : Tok) : StrsAre (insAt vs r (.str x t)) (insL xs r x) := by
  unfold insAt insL
  induction h generalizing r with
  | nil => cases r <;> exact .cons _ _ .nil
  | cons y u hs ih =>
    cases r with
    | zero => exact .cons _ _ (.cons _ _ hs)
    | succ r => exact .cons _ _ (ih r)
theorem StrsAre.get' {vs : List Value} {xs : List Str} (h : StrsAre vs xs) {i : Nat} (hi : i < vs.length) : ∃ y u, vs[i]? = some (.str y u) ∧ xs[i]? = some y := by
  obtain ⟨k, t, h1, h2⟩ := StrsAre.at' h (List.getElem?_eq_getElem hi)
  exact ⟨k, t, by rw [List.getElem?_eq_getElem hi, h2], h1⟩
section
variable {w : World} {A : Around} {s : Shared} {E : Value → Shared → Prop} {a : Addr} {vs : List Value} {xs : List Str} {x : Str} {t : Tok} {Q : Value → Shared → Prop}
theorem ins_left (hr : Room 40 A) (B : Base w s.heap) (hl : s.heap.PlainList a vs.toArray) (hz : vs.length ≤ 10000) (hv : StrsAre vs xs) (hs' : xs.Pairwise ltT) (hx : x ∉ xs)
    (h : ∀ s' vs' xs', Upd (fun b => b = a) s s' → s'.heap.PlainList a (List.toArray vs') → StrsAre vs' xs' → xs'.Pairwise ltT → xs'.Perm (x :: xs) → Q .none s') : wpAny (model pw w) A (call (.ref 105) [.ref a, .str x t] []) Q E s := by
  have len := StrsAre.len hv
  refine il_none (p := fun i => decide (tx (xs.getD i ⟨#[]⟩) < tx x)) hr B hl hz (fun i hi => ?_) fun r s' U hB hl' => ?_
  · obtain ⟨y, u, h1, h2⟩ := StrsAre.get' hv hi
    exact ⟨y, u, h1, by rw [List.getD_eq_getElem?_getD, h2]; rfl⟩
  · obtain ⟨b1, b2, b3⟩ := hB
    refine h s' _ (insL xs r x) U hl' (StrsAre.insAt' hv r x t) (insL_sorted ltT_trans hs' (by omega) (fun a h0 ha => ?_) fun a ha => ?_) (insL_perm _ _ _)
    · rcases b2 with q | q
      · omega
      · dsimp only at q; rw [List.getD_eq_getElem?_getD, ha] at q; exact (of_decide_eq_true q : tx a < tx x)
    · rcases b3 with q | q
      · rw [List.getElem?_eq_none (by omega)] at ha; cases ha
      · dsimp only at q; rw [List.getD_eq_getElem?_getD, ha] at q
        exact ltT_total (of_decide_eq_false q : ¬ tx a < tx x) fun e => hx (e ▸ List.mem_of_getElem? ha)
theorem ins_right (hr : Room 40 A) (B : Base w s.heap) (hl : s.heap.PlainList a vs.toArray) (hz : vs.length ≤ 10000) (hv : StrsAre vs xs) (hs' : xs.Pairwise ltT) (hx : x ∉ xs)
    (h : ∀ s' vs' xs', Upd (fun b => b = a) s s' → s'.heap.PlainList a (List.toArray vs') → StrsAre vs' xs' → xs'.Pairwise ltT → xs'.Perm (x :: xs) → Q .none s') : wpAny (model pw w) A (call (.ref 87) [.ref a, .str x t] []) Q E s := by
  have len := StrsAre.len hv
  refine ir_none (p := fun i => !decide (tx x < tx (xs.getD i ⟨#[]⟩))) hr B hl hz (fun i hi => ?_) fun r s' U hB hl' => ?_
  · obtain ⟨y, u, h1, h2⟩ := StrsAre.get' hv hi
    exact ⟨y, u, h1, by rw [List.getD_eq_getElem?_getD, h2]; simp⟩
  · obtain ⟨b1, b2, b3⟩ := hB
    refine h s' _ (insL xs r x) U hl' (StrsAre.insAt' hv r x t) (insL_sorted ltT_trans hs' (by omega) (fun a h0 ha => ?_) fun a ha => ?_) (insL_perm _ _ _)
    · rcases b2 with q | q
      · omega
      · dsimp only at q; rw [List.getD_eq_getElem?_getD, ha] at q
        refine ltT_total (fun z => ?_) fun e => hx (e ▸ List.mem_of_getElem? ha)
        simp only [Bool.not_eq_true', Option.getD_some] at q
        exact of_decide_eq_false q z
    · rcases b3 with q | q
      · rw [List.getElem?_eq_none (by omega)] at ha; cases ha
      · dsimp only at q; rw [List.getD_eq_getElem?_getD, ha] at q
        simp only [Bool.not_eq_false', Option.getD_some] at q
        exact (of_decide_eq_true q : tx x < tx a)
theorem ins_right_key {ka : Addr} {dom : Value → List Nat → Prop} {f : Str → List Nat} (hr : Room 60 A) (B : Base w s.heap) (hl : s.heap.PlainList a vs.toArray) (hz : vs.length ≤ 10000) (hv : StrsAre vs xs) (K : KeySpec w s ka dom) (hd : ∀ y u, y ∈ xs ∨ y = x → dom (.str y u) (f y))
    (R : Str → Str → Prop) (tr : ∀ a b c, R a b → R b c → R a c) (hs' : xs.Pairwise R) (r1 : ∀ y ∈ xs, ¬ f x < f y → R y x) (r2 : ∀ y ∈ xs, f x < f y → R x y)
    (h : ∀ s' vs' xs', Upd (fun b => b = a) s s' → s'.heap.PlainList a (List.toArray vs') → StrsAre vs' xs' → xs'.Pairwise R → xs'.Perm (x :: xs) → Q .none s') : wpAny (model pw w) A (call (.ref 87) [.ref a, .str x t] [(Str.ofString "key", .ref ka)]) Q E s := by
  have len := StrsAre.len hv
  refine ir_key (ks := fun i => f (xs.getD i ⟨#[]⟩)) (kx := f x) (p := fun i => !decide (f x < f (xs.getD i ⟨#[]⟩))) hr B hl hz K (fun i hi => ?_) (hd x t (.inr rfl)) (fun i hi => by simp) fun r s' U hB hl' => ?_
  · obtain ⟨y, u, h1, h2⟩ := StrsAre.get' hv hi
    rw [List.getElem?_eq_getElem hi] at h1
    cases h1' : vs[i]
    all_goals rw [h1'] at h1
    all_goals cases h1
    rw [List.getD_eq_getElem?_getD, h2]
    exact hd y u (.inl (List.mem_of_getElem? h2))
  · obtain ⟨b1, b2, b3⟩ := hB
    refine h s' _ (insL xs r x) U hl' (StrsAre.insAt' hv r x t) (insL_sorted tr hs' (by omega) (fun a h0 ha => ?_) fun a ha => ?_) (insL_perm _ _ _)
    · rcases b2 with q | q
      · omega
      · dsimp only at q; rw [List.getD_eq_getElem?_getD, ha] at q
        simp only [Bool.not_eq_true', Option.getD_some] at q
        exact r1 a (List.mem_of_getElem? ha) (of_decide_eq_false q)
    · rcases b3 with q | q
      · rw [List.getElem?_eq_none (by omega)] at ha; cases ha
      · dsimp only at q; rw [List.getD_eq_getElem?_getD, ha] at q
        simp only [Bool.not_eq_false', Option.getD_some] at q
        exact r2 a (List.mem_of_getElem? ha) (of_decide_eq_true q)
theorem ins_left_key {ka : Addr} {dom : Value → List Nat → Prop} {f : Str → List Nat} (hr : Room 60 A) (B : Base w s.heap) (hl : s.heap.PlainList a vs.toArray) (hz : vs.length ≤ 10000) (hv : StrsAre vs xs) (K : KeySpec w s ka dom) (hd : ∀ y u, y ∈ xs ∨ y = x → dom (.str y u) (f y))
    (R : Str → Str → Prop) (tr : ∀ a b c, R a b → R b c → R a c) (hs' : xs.Pairwise R) (r1 : ∀ y ∈ xs, f y < f x → R y x) (r2 : ∀ y ∈ xs, ¬ f y < f x → R x y)
    (h : ∀ s' vs' xs', Upd (fun b => b = a) s s' → s'.heap.PlainList a (List.toArray vs') → StrsAre vs' xs' → xs'.Pairwise R → xs'.Perm (x :: xs) → Q .none s') : wpAny (model pw w) A (call (.ref 105) [.ref a, .str x t] [(Str.ofString "key", .ref ka)]) Q E s := by
  have len := StrsAre.len hv
  refine il_key (ks := fun i => f (xs.getD i ⟨#[]⟩)) (kx := f x) (p := fun i => decide (f (xs.getD i ⟨#[]⟩) < f x)) hr B hl hz K (fun i hi => ?_) (hd x t (.inr rfl)) (fun i hi => rfl) fun r s' U hB hl' => ?_
  · obtain ⟨y, u, h1, h2⟩ := StrsAre.get' hv hi
    rw [List.getElem?_eq_getElem hi] at h1
    cases h1' : vs[i]
    all_goals rw [h1'] at h1
    all_goals cases h1
    rw [List.getD_eq_getElem?_getD, h2]
    exact hd y u (.inl (List.mem_of_getElem? h2))
  · obtain ⟨b1, b2, b3⟩ := hB
    refine h s' _ (insL xs r x) U hl' (StrsAre.insAt' hv r x t) (insL_sorted tr hs' (by omega) (fun a h0 ha => ?_) fun a ha => ?_) (insL_perm _ _ _)
    · rcases b2 with q | q
      · omega
      · dsimp only at q; rw [List.getD_eq_getElem?_getD, ha] at q
        exact r1 a (List.mem_of_getElem? ha) (of_decide_eq_true q)
    · rcases b3 with q | q
      · rw [List.getElem?_eq_none (by omega)] at ha; cases ha
      · dsimp only at q; rw [List.getD_eq_getElem?_getD, ha] at q
        exact r2 a (List.mem_of_getElem? ha) (of_decide_eq_false q)
end
end
end Mine
namespace Mine
open PySem PySem.W PySem.Calls PyProof.Rows
noncomputable section
section
variable {w : World} {A : Around} {s : Shared} {E : Value → Shared → Prop} {env : Env}
/-- a test by one comparison -/
theorem isT_cmp {l r : Expr} {op : CmpOp} {p : Pos} {whole : Sem Value} {Q : Bool → Shared → Prop}
    (h : wpAny (model pw w) A (eval l env) (fun a s₁ => wpAny (model pw w) A (eval r env) (fun b s₂ => wpAny (model pw w) A (compareOp op a b) (fun c s₃ => ∃ x, c = .bool x ∧ Q x s₃) E s₂) E s₁) E s)
    (hm : behindInMarks op r = false := by with_unfolding_all rfl) : wpAny (model pw w) A (isTrue (.Compare l [op] [r] p) env whole) Q E s := by
  refine wpAny_isTrue_Compare1 (wpAny_mono h (fun a s₁ q => wpAny_mono q (fun b s₂ q => wpAny_mono q (fun c s₃ q => ?_) fun _ _ q => q) fun _ _ q => q) fun _ _ q => q) hm
  obtain ⟨x, rfl, q⟩ := q
  exact wpAny_truthy_bool q
/-- «if A or B: …» with both false -/
theorem if_or2 {c1 c2 : Expr} {p pos : Pos} {body rest : List Stmt} {Q : Flow → Shared → Prop}
    (h : wpAny (model pw w) A (isTrue c1 env (eval c1 env)) (fun b s₁ => b = false ∧ wpAny (model pw w) A (isTrue c2 env (eval c2 env)) (fun b s₂ => b = false ∧ wpAny (model pw w) A (execs rest env) Q E s₂) E s₁) E s) :
    wpAny (model pw w) A (execs (.If (.BoolOp .Or [c1, c2] p) body [] pos :: rest) env) Q E s := by
  refine wpAny_execs_cons (wpAny_If (wpAny_isTrue_BoolOp (wpAny_allTrue_Or_cons (wpAny_mono h (fun b s₁ q => ?_) fun _ _ q => q))))
  obtain ⟨rfl, q⟩ := q
  simp only [Bool.false_eq_true, if_false]
  refine wpAny_allTrue_Or_cons (wpAny_mono q (fun b s₂ q => ?_) fun _ _ q => q)
  obtain ⟨rfl, q⟩ := q
  simp only [Bool.false_eq_true, if_false]
  exact wpAny_allTrue_Or_nil (by simp only [Bool.false_eq_true, if_false]; exact wpAny_execs_nil q)
theorem if_1 {c1 : Expr} {pos : Pos} {body rest : List Stmt} {Q : Flow → Shared → Prop}
    (h : wpAny (model pw w) A (isTrue c1 env (eval c1 env)) (fun b s₁ => b = false ∧ wpAny (model pw w) A (execs rest env) Q E s₁) E s) :
    wpAny (model pw w) A (execs (.If c1 body [] pos :: rest) env) Q E s := by
  refine wpAny_execs_cons (wpAny_If (wpAny_mono h (fun b s₁ q => ?_) fun _ _ q => q))
  obtain ⟨rfl, q⟩ := q
  simp only [Bool.false_eq_true, if_false]
  exact wpAny_execs_nil q
/-- f(e, key=k) of a builtin -/
theorem callBk {f k : Str} {p kp pos : Pos} {e ke : Expr} {id : String} {Q : Value → Shared → Prop} (B : Base w s.heap) (hm : ∀ P, mgF P f = none) (hv : ∀ P, mbF P f = some (.builtin id))
    (h : wpAny (model pw w) A (eval e env) (fun v s₁ => wpAny (model pw w) A (eval ke env) (fun u s₂ => wpAny (model pw w) A (call (.builtin id) [v] [(k, u)]) Q E s₂) E s₁) E s)
    (hs : backTo pos (starEach [e] env) = [(false, eval e env)] := by with_unfolding_all rfl) (hks : backToKw pos (keywordEach [⟨some k, ke, kp⟩] env) = [(some k, do let v ← eval ke env; standAt pos; pure v)] := by with_unfolding_all rfl) (hg : env.globals = mainGlobals := by kernel_rfl) (hb : env.builtins = builtinsNs := by kernel_rfl) (hl : env.kindOf f = some .globalImplicit := by kernel_rfl) (hk : env.scope.kind = .function := by kernel_rfl) (hd : (f == ("__debug__" : Str)) = false := by kernel_rfl) :
    wpAny (model pw w) A (eval (.Call (.Name f p) [e] [⟨some k, ke, kp⟩] pos) env) Q E s :=
  call_ (trees := [(false, eval e env)]) (kts := [(some k, do let v ← eval ke env; standAt pos; pure v)]) hs hks (nB B hm hv (callWith_builtin_kwB rfl rfl (evalArgs_kwB rfl (spliced_cons (wpAny_mono h (fun v s₁ q => spliced_nil (wpAny_evalAll_cons (wpAny_bind (wpAny_mono q (fun _ _ q => wpAny_bind (wpAny_standAt (wpAny_pure (wpAny_evalAll_nil q)))) fun _ _ q => q)))) fun _ _ q => q)))) hg hb hl hk hd)
/-- f(e, e2, key=k) of a def -/
theorem callG2k {f k : Str} {p kp pos : Pos} {e e' ke : Expr} {a : Addr} {fd : FuncData} {Q : Value → Shared → Prop} (F : FnOk a fd) (B : Base w s.heap) (hv : ∀ P, mgF P f = some (.ref a))
    (h : wpAny (model pw w) A (eval e env) (fun v s₁ => wpAny (model pw w) A (eval e' env) (fun v' s₂ => wpAny (model pw w) A (eval ke env) (fun u s₃ => Base w s₃.heap ∧ wpAny (model pw w) A (call (.ref a) [v, v'] [(k, u)]) Q E s₃) E s₂) E s₁) E s)
    (hs : backTo pos (starEach [e, e'] env) = [(false, eval e env), (false, eval e' env)] := by with_unfolding_all rfl) (hks : backToKw pos (keywordEach [⟨some k, ke, kp⟩] env) = [(some k, do let v ← eval ke env; standAt pos; pure v)] := by with_unfolding_all rfl) (hg : env.globals = mainGlobals := by kernel_rfl) (hl : env.kindOf f = some .globalImplicit := by kernel_rfl) (hk : env.scope.kind = .function := by kernel_rfl) (hd : (f == ("__debug__" : Str)) = false := by kernel_rfl) :
    wpAny (model pw w) A (eval (.Call (.Name f p) [e, e'] [⟨some k, ke, kp⟩] pos) env) Q E s :=
  call_ (trees := [(false, eval e env), (false, eval e' env)]) (kts := [(some k, do let v ← eval ke env; standAt pos; pure v)]) hs hks (nG B hv (gcall F (evalArgs_kwB rfl (spliced_cons (wpAny_mono h (fun v s₁ q => spliced_cons (wpAny_mono q (fun v' s₂ q => spliced_nil (wpAny_evalAll_cons (wpAny_bind (wpAny_mono q (fun _ _ q => wpAny_bind (wpAny_standAt (wpAny_pure (wpAny_evalAll_nil q)))) fun _ _ q => q)))) fun _ _ q => q)) fun _ _ q => q)))) hg hl hk hd)
end
end
end Mine
namespace Mine
open PySem PySem.W PySem.Calls PyProof.Rows
noncomputable section
section
variable {w : World} {A : Around} {s s' s₀ : Shared} {L : Addr} {m cm : Str → Option Value} {E : Value → Shared → Prop} {env : Env}
theorem iter_dict {d : Addr} {kvs : KVs} {Q : Value → Shared → Prop} (hh : A.handled = none) (hd : s.heap.DictOf (sk w) d kvs) (lo : (d == sysModules) = false)
    (h : ∀ I St s', hs s ≤ I → I < hs s' → d < hs s → Upd noW s s' → (∀ (x : Str) (px : Pos), Feed w A (.ref I) (.Name x px) [I, d] [I] kvs.length St (fun i m m' => ∃ v, (∃ k x, kvs[i]? = some (k, x) ∧ (sk w).is k v = true) ∧ m' = setM m x v) (LocEnv x)) → St 0 s'.heap → Q (.ref I) s') :
    wpAny (model pw w) A (pyIter (.ref d)) Q E s := by
  obtain ⟨ep, hat⟩ := hd.dictAt
  have K := kdl_dict (prog := pw) (w := w) (knd := sk w) (kvs := kvs) (ep := ep) (d := d) lo
  obtain ⟨oI, St, hit, W, st⟩ := K.iter A s hh hat
  have hlt := (K.there _ hat).1
  refine hit E Q ?_
  refine h s.heap.objs.size _ _ (Nat.le_refl _) ?_ hlt (.push (t := s.toks)) (fun x px => Feed.ofWalks W) st
  show s.heap.objs.size < (s.heap.push _).objs.size
  rw [Heap.size_push]; exact Nat.lt_succ_self _
theorem sk_is {k : Str} {v : Value} (h : (sk w).is k v = true) : ∃ t, v = .str k t := Value.isStrOf_shape h
theorem lw_drop3 : ∃ (p0 : Pos) (p1 : Pos) (p2 : Pos), lwBody 3 = (.Assign [(.Name (Str.ofString "stock") p0)] (.List [] p1) p2) :: lwBody 4 := ⟨_, _, _, rfl⟩
/-- x = [] for a cell -/
theorem lw_nil {x : Str} {c : Addr} {p0 p1 p2 : Pos} {rest : List Stmt} {Q : Flow → Shared → Prop} (F : Lw w s₀ s L m cm) (hc : (lwEnv L).cells.lookup x = some c)
    (h : ∀ D s', hs s ≤ D → Upd (fun b => b = c) s s' → Lw w s₀ s' L m (setM cm x (.ref D)) → s'.heap.PlainList D (List.toArray []) → wpAny (model pw w) A (execs rest (lwEnv L)) Q E s')
    (hl : (lwEnv L).kindOf x = some .cell := by kernel_rfl) : wpAny (model pw w) A (execs (.Assign [(.Name x p0)] (.List [] p1) p2 :: rest) (lwEnv L)) Q E s := by
  refine asg (wpAny_List (spliced_nil ⟨Nat.zero_le _, ?_⟩)) rfl
  have U1 : Upd noW s { s with heap := s.heap.push { cls := .type "list", data := .seq #[] }, toks := s.toks } := .push
  have hl1 : (s.heap.push { cls := .type "list", data := .seq #[] }).PlainList s.heap.objs.size #[] := ⟨0, Heap.get?_push_size _ rfl⟩
  have F1 := F.keep0 U1
  have eh : ({ s with heap := s.heap.push { cls := .type "list", data := .seq #[] }, toks := s.toks } : Shared).heap = s.heap.push { cls := .type "list", data := .seq #[] } := rfl
  have fin : ∀ s₁ : Shared, Upd noW s s₁ → Lw w s₀ s₁ L m cm → s₁.heap.PlainList (hs s) #[] → wpAny (model pw w) A (storeName (lwEnv L) x (.ref (hs s))) (fun _ s₂ => wpAny (model pw w) A (execs rest (lwEnv L)) Q E s₂) E s₁ := by
    intro s₁ U1 F1 hl1
    refine sC F1 hc (fun s₂ U2 F2 => ?_) hl
    have r := Lw.range hc
    refine h (hs s) s₂ (Nat.le_refl _) (U1.up.trans U2) F2 (hl1.at fun o e => U2.get (fun q => ?_) e)
    have := F.low
    rw [q] at this
    exact absurd r.2 (Nat.not_lt.mpr this)
  exact fin _ U1 F1 hl1
theorem compEnv_local {sc : Scope} {cl : List (Str × Addr)} {C L : Addr} {x : Str} (h : (compEnvC sc cl C (lwEnv L)).kindOf x = some .local) (h2 : (compEnvC sc cl C (lwEnv L)).scope.kind = .function) : LocEnv x (compEnvC sc cl C (lwEnv L)) := ⟨h, by rw [h2]; rfl⟩
noncomputable abbrev sc4 : Scope := mkSc [((Str.ofString ".0"), .local), ((Str.ofString "sign"), .local), ((Str.ofString "insort_left"), .globalImplicit), ((Str.ofString "stock"), .free)]
theorem s4_comp {p0 p1 p2 p3 p4 p5 p6 p8 p9 p10 : Pos} {c7 : Nat} {DM DS : Addr} {kvs : KVs} {qs : List Pr} {Q : Value → Shared → Prop} (hr : Room 60 A) (hh : A.handled = none) (F : Lw w s₀ s L m cm) (hM : cm (Str.ofString "meant") = some (.ref DM)) (hS : cm (Str.ofString "stock") = some (.ref DS))
    (hd : s.heap.DictOf (sk w) DM kvs) (lo : (DM == sysModules) = false) (hq : KVq kvs qs) (hnd : (qs.map (·.1)).Nodup) (hlen : qs.length ≤ 100) (hl : s.heap.PlainList DS (List.toArray [])) (h9 : L + 9 ≤ DS) (hne : DS ≠ DM)
    (h : ∀ D s' vs' xs', hs s ≤ D → Upd (fun b => b = DS) s s' → s'.heap.PlainList D (List.toArray []) → s'.heap.PlainList DS (List.toArray vs') → StrsAre vs' xs' → xs'.Pairwise ltT → xs'.Perm (qs.map fun q => ch q.1) → Q (.ref D) s') :
    wpAny (model pw w) A (eval (.ListComp (.Name (Str.ofString "sign") p0) [⟨(.Name (Str.ofString "sign") p1), (.Name (Str.ofString "meant") p2), [(.Compare (.Call (.Name (Str.ofString "insort_left") p3) [(.Name (Str.ofString "stock") p4), (.Name (Str.ofString "sign") p5)] [] p6) [.IsNot] [(.Constant .none c7 p8)] p9)], 0⟩] sc4 p10) (lwEnv L)) Q E s := by
  have kl := hq.len
  have keys := hq.keys
  refine list_comp (cl := [(Str.ofString "stock", L + 3)]) (by kernel_rfl) (by decide +kernel) (by kernel_rfl) (by decide +kernel) ?_
  refine lwC F (c := L + 2) (by kernel_rfl) hM ?_
  refine iter_dict hh hd lo fun I St s₁ hI1 hI2 hDM U1 Fd st => ?_
  have hDS : DS < hs s := by obtain ⟨n, ho⟩ := hl; exact Heap.lt_size ho
  refine ⟨[I, DM], [I], kvs.length, St, _, _, fun b => b = DS, fun C D i ys s' => (DS ≠ C ∧ DS ≠ D) ∧ ys = [] ∧ ∃ vs' xs', s'.heap.PlainList DS (List.toArray vs') ∧ StrsAre vs' xs' ∧ xs'.Pairwise ltT ∧ xs'.Perm ((qs.take i).map fun q => ch q.1), Fd _ _, by omega, st, ?_, fun C => compEnv_local (by kernel_rfl) (by kernel_rfl), ?_, ?_, ?_, ?_, ?_⟩
  · intro b hb
    rcases List.mem_cons.mp hb with e | hb
    · exact e ▸ hI2
    · rw [List.mem_singleton.mp hb]; exact Nat.lt_of_lt_of_le hDM U1.size
  · rintro b rfl
    refine ⟨fun hb => ?_, Nat.lt_of_lt_of_le hDS U1.size⟩
    rcases List.mem_cons.mp hb with e | hb
    · rw [e] at hDS; exact absurd hDS (Nat.not_lt.mpr hI1)
    · exact hne (List.mem_singleton.mp hb)
  · intro C D s' hC hD hCD U
    have hd1 : DS < hs s₁ := Nat.lt_of_lt_of_le hDS U1.size
    refine ⟨⟨Nat.ne_of_lt (Nat.lt_of_lt_of_le hd1 hC), Nat.ne_of_lt (Nat.lt_of_lt_of_le hd1 hD)⟩, rfl, [], [], hl.at fun o e => U.get id (U1.get id e), .nil, .nil, ?_⟩
    rw [List.take_zero]; exact .refl _
  · rintro C D i ys s' s'' ⟨⟨n1, n2⟩, hys, vs', xs', g1, g2, g3, g4⟩ U
    refine ⟨⟨n1, n2⟩, hys, vs', xs', g1.at fun o e => U.get (fun q => ?_) e, g2, g3, g4⟩
    rcases q with q | q | q
    · rw [List.mem_singleton.mp q] at hDS; exact absurd hDS (Nat.not_lt.mpr hI1)
    · exact n1 q
    · exact n2 q
  · rintro C D i ys s₂ m₁ m₂ E' hC hD hCD hi ⟨⟨n1, n2⟩, rfl, vs', xs', g1, g2, g3, g4⟩ ⟨v, ⟨k, x, hkx, hkv⟩, rfl⟩ hns hl2 U2
    obtain ⟨t, rfl⟩ := sk_is hkv
    have hk : (qs.map fun q => ch q.1)[i]? = some k := by
      rw [← keys, List.getElem?_map, hkx]; rfl
    rw [List.getElem?_map] at hk
    obtain ⟨q, hqi, rfl⟩ := Option.map_eq_some_iff.mp hk
    have nt := nodup_take_succ hnd hqi
    have V2 : Upd (fun b => b = DS) s s₂ := Upd.then_fresh (U1.up) (U2.mono fun b q => q.elim (fun q => .inl q) fun q => .inr (by rw [List.mem_singleton.mp q]; exact hI1))
    have B2 : Base w s₂.heap := F.base.upd V2 fun b q => .inr (by rw [q]; exact Nat.le_trans F.base0.2 (Nat.le_trans F.hL (Nat.le_trans (Nat.le_add_right _ _) h9)))
    have hcell : s₂.heap.IsCell (L + 3) (some (.ref DS)) := IsCell.at' (hS ▸ F.cells (Str.ofString "stock") (L + 3) (by kernel_rfl)) fun o e => V2.get (fun q => by
      rw [← q] at h9; exact absurd h9 (Nat.not_le.mpr (Nat.add_lt_add_left (by decide) _))) e
    refine wpAny_tests_one (isT_cmp ?_)
    refine callG2 okIL B2 (fun P => by kernel_rfl) ?_
    refine nC (c := L + 3) (by kernel_rfl) hcell ?_
    refine nL hns (v := .str (ch q.1) t) (if_pos rfl) ⟨B2, ?_⟩
    have lenx : vs'.length = xs'.length := StrsAre.len g2
    have lent : xs'.length ≤ 100 := by rw [g4.length_eq, List.length_map, List.length_take]; omega
    refine ins_left (hr.le (by decide)) B2 g1 (by omega) g2 g3 (fun hm => ?_) fun s₃ vs₃ xs₃ U3 l3 v3 p3 e3 => ?_
    · have := g4.mem_iff.mp hm
      obtain ⟨q', hq', e⟩ := List.mem_map.mp this
      exact nt.1 (List.mem_map.mpr ⟨q', hq', ch_inj e⟩)
    · refine wpAny_Constant_none (k := 0) (pos := p0) (wpAny_isNot_self rfl ⟨false, rfl, ?_⟩)
      simp only [Bool.false_eq_true, if_false]
      refine ⟨U3, ⟨n1, n2⟩, trivial, vs₃, xs₃, l3, v3, p3, ?_⟩
      rw [nt.2, List.map_append]
      exact e3.trans ((List.Perm.cons _ g4).trans (List.perm_append_comm (l₁ := [ch q.1])))
  · rintro C D ys s₂ m₂ hC hD hCD ⟨⟨n1, n2⟩, rfl, vs', xs', g1, g2, g3, g4⟩ hy hl2 hns U2
    refine ⟨⟨m₂, hns⟩, fun s₃ U3 => ?_⟩
    have V2 : Upd (fun b => b = DS) s s₂ := Upd.then_fresh (U1.up) (U2.mono fun b q => q.elim (fun q => .inl q) fun q => .inr (by rw [List.mem_singleton.mp q]; exact hI1))
    rw [kl, List.take_length] at g4
    have hsC : hs s ≤ C := Nat.le_trans U1.size hC
    exact h D s₃ vs' xs' (Nat.le_trans U1.size hD) (V2.then_fresh (U3.mono fun b q => .inr (q ▸ hsC))) (hl2.at fun o e => U3.get (fun q => hCD q.symm) e) (g1.at fun o e => U3.get n1 e) g2 g3 g4
end
end
end Mine
namespace Mine
open PySem PySem.W PySem.Calls PyProof.Rows
noncomputable section
/-- the text of a value -/
noncomputable def strOf : Value → Str
  | .str x _ => x
  | _ => ⟨#[]⟩
theorem StrsAre.map_strOf : ∀ {vs : List Value} {xs : List Str}, StrsAre vs xs → vs.map strOf = xs
  | _, _, .nil => rfl
  | _, _, .cons y t r => by simp [strOf, StrsAre.map_strOf r]
theorem strsAre_of {vs : List Value} (h : ∀ v ∈ vs, ∃ x t, v = .str x t) : StrsAre vs (vs.map strOf) := by
  induction vs with
  | nil => exact .nil
  | cons v r ih =>
    obtain ⟨x, t, rfl⟩ := h v (List.mem_cons_self ..)
    exact .cons x t (ih fun u hu => h u (List.mem_cons_of_mem _ hu))
theorem StrsAre.mem {vs : List Value} {xs : List Str} (h : StrsAre vs xs) : ∀ v ∈ vs, ∃ x t, v = .str x t := by
  induction h with
  | nil => intro v hv; cases hv
  | cons y t r ih =>
    intro v hv
    rcases List.mem_cons.mp hv with e | hv
    · exact ⟨y, t, e⟩
    · exact ih v hv
/-- what a stable sort gives of texts -/
theorem stable_strs {K : Nat → List Nat} {vs out : List Value} {xs : List Str} (h : StableBy K vs out) (hv : StrsAre vs xs) (f : Str → List Nat) (hK : ∀ i x, xs[i]? = some x → K i = f x) (R : Str → Str → Prop)
    (r1 : ∀ a ∈ xs, ∀ b ∈ xs, f a < f b → R a b) (r2 : ∀ (i j : Nat) (a b : Str), i < j → xs[i]? = some a → xs[j]? = some b → f a = f b → R a b) : ∃ ys, StrsAre out ys ∧ ys.Perm xs ∧ ys.Pairwise R := by
  obtain ⟨hp, π, hlen, hπ, hA⟩ := h
  have l1 := StrsAre.len hv
  have ho : StrsAre out (out.map strOf) := strsAre_of fun v hm => StrsAre.mem hv v (hp.mem_iff.mp hm)
  refine ⟨out.map strOf, ho, ?_, ?_⟩
  · rw [← StrsAre.map_strOf hv]; exact hp.map _
  · rw [List.pairwise_iff_getElem]
    intro i j hi hj hij
    have hi' : i < out.length := by simpa using hi
    have hj' : j < out.length := by simpa using hj
    obtain ⟨p1, e1⟩ := hπ i (by omega)
    obtain ⟨p2, e2⟩ := hπ j (by omega)
    have key : ∀ k, (hk : k < out.length) → π k < vs.length → out[k]? = vs[π k]? → xs[π k]? = some (strOf out[k]) := fun k hk pk ek => by
      obtain ⟨y, u, g1, g2⟩ := StrsAre.get' hv pk
      rw [g1, List.getElem?_eq_getElem hk] at ek
      have e := Option.some.inj ek
      rw [g2, e]; rfl
    have x1 := key i hi' p1 e1
    have x2 := key j hj' p2 e2
    rw [List.getElem_map, List.getElem_map]
    rcases hA i j hij (by omega) with q | ⟨q, r⟩
    · rw [hK _ _ x1, hK _ _ x2] at q
      exact r1 _ (List.mem_of_getElem? x1) _ (List.mem_of_getElem? x2) q
    · rw [hK _ _ x1, hK _ _ x2] at q
      exact r2 _ _ _ _ r x1 x2 q
section
variable {w : World} {A : Around} {s s' s₀ : Shared} {L : Addr} {m cm : Str → Option Value} {E : Value → Shared → Prop} {env : Env}
theorem collects_list {l : Addr} {vs : List Value} (hl : s.heap.PlainList l vs.toArray) (hn : vs.length ≤ 10000) : Collects w A s (.ref l) (fun us => us = vs) := fun Q E h => by
  refine with_hs (collect_list hl.isList ?_ (Nat.le_trans hn sz10k))
  intro hsz
  refine h vs _ rfl (Upd.of_heap (tk := s.toks) hsz fun b o _ e => ?_)
  have hlt : b < s.heap.objs.size := Heap.lt_size e
  rw [Heap.get?_update_ne _ _ _ _ (Nat.ne_of_lt hlt)]
  exact Heap.get?_push_of_some _ e
theorem collects_dict {d : Addr} {kvs : KVs} (hh : A.handled = none) (hd : s.heap.DictOf (sk w) d kvs) (lo : (d == sysModules) = false) (hn : kvs.length ≤ 10000) : Collects w A s (.ref d) (fun us => StrsAre us (kvs.map (·.1))) := fun Q E h => by
  obtain ⟨ep, hat⟩ := hd.dictAt
  have K := kdl_dict (prog := pw) (w := w) (knd := sk w) (kvs := kvs) (ep := ep) (d := d) lo
  refine with_hs (kdu_collect K hh hat (Nat.le_trans hn sz10k) fun h' tk acc hk hacc hsz => ?_)
  refine h acc.toList _ ?_ (Upd.of_heap hsz fun b o _ e => hk b o e)
  have len : acc.toList.length = kvs.length := by rw [Array.length_toList]; exact hacc.1
  have hst : StrsAre acc.toList (acc.toList.map strOf) := strsAre_of fun v hv => by
    obtain ⟨i, hi⟩ := List.getElem?_of_mem hv
    obtain ⟨k, x, _, hk⟩ := hacc.2 i v (by rw [← Array.getElem?_toList]; exact hi)
    obtain ⟨t, rfl⟩ := sk_is hk
    exact ⟨k, t, rfl⟩
  have e : acc.toList.map strOf = kvs.map (·.1) := by
    refine List.ext_getElem? fun i => ?_
    rw [List.getElem?_map, List.getElem?_map]
    cases hi : acc.toList[i]? with
    | none =>
      have : kvs[i]? = none := List.getElem?_eq_none (by have := List.getElem?_eq_none_iff.mp hi; omega)
      rw [this]; rfl
    | some v =>
      obtain ⟨k, x, hk, hkv⟩ := hacc.2 i v (by rw [← Array.getElem?_toList]; exact hi)
      obtain ⟨t, rfl⟩ := sk_is hkv
      rw [hk]; rfl
  rw [← e]; exact hst
end
end
end Mine
namespace Mine
open PySem PySem.W PySem.Calls PyProof.Rows
noncomputable section
section
variable {w : World} {A : Around} {s s' s₀ : Shared} {L : Addr} {m cm : Str → Option Value} {E : Value → Shared → Prop} {env : Env}
theorem Room.up {n : Nat} (h : Room n A) (k : Nat) (hk : 10 * k ≤ 10 * n) : A.units + 10 * k < cLine := by have := h.2; omega
/-- the sort of texts by their codes -/
theorem sorted_codes {v : Value} {Pv : List Value → Prop} {xs : List Str} {Q : Value → Shared → Prop} (hr : Room 20 A) (hh : A.handled = none) (B : Base w s.heap) (hcol : Collects w A.in1 s v Pv) (hP : ∀ us, Pv us → StrsAre us xs) (hx : xs.Nodup) (hn : xs.length < 64) (hz : ∀ x ∈ xs, x.cps.size ≤ 10000)
    (h : ∀ D out ys s', hs s ≤ D → Upd noW s s' → s'.heap.PlainList D (List.toArray out) → StrsAre out ys → ys.Perm xs → ys.Pairwise ltT → Q (.ref D) s') :
    wpAny (model pw w) A (call (.builtin "sorted") [v] [(Str.ofString "key", .ref 150)]) Q E s := by
  have hr1 : Room 19 A.in1 := hr.in1
  have hr2 : Room 18 A.in1.in1 := hr1.in1
  refine sorted_key (K := fun i => tx (xs.getD i ⟨#[]⟩)) hr2.units hcol (fun us hu => by rw [StrsAre.len (hP us hu)]; exact hn) (fun us hu => codes_keycall (hr2.le (by decide)) hh B (hP us hu) hz fun i x hx => by rw [List.getD_eq_getElem?_getD, hx]; rfl) fun D out us s' hD U hl hu hst => ?_
  obtain ⟨ys, h1, h2, h3⟩ := stable_strs hst (hP us hu) tx (fun i x hx => by rw [List.getD_eq_getElem?_getD, hx]; rfl) ltT (fun a _ b _ q => q) (fun i j a b hij ha hb e => by
    have := tx_inj e
    subst this
    have hi : i < xs.length := (List.getElem?_eq_some_iff.mp ha).1
    have hj : j < xs.length := (List.getElem?_eq_some_iff.mp hb).1
    rw [List.getElem?_eq_getElem hi] at ha
    rw [List.getElem?_eq_getElem hj] at hb
    have q := List.pairwise_iff_getElem.mp hx i j hi hj hij
    exact absurd ((Option.some.inj ha).trans (Option.some.inj hb).symm) q)
  exact h D out ys s' hD U hl h1 h2 h3
theorem lw_drop4 : ∃ (ps : List Pos) (cs : List Nat), lwBody 4 = (.If (.BoolOp .Or [(.Compare (.ListComp (.Name (Str.ofString "sign") (posN ps 0)) [⟨(.Name (Str.ofString "sign") (posN ps 1)), (.Name (Str.ofString "meant") (posN ps 2)), [(.Compare (.Call (.Name (Str.ofString "insort_left") (posN ps 3)) [(.Name (Str.ofString "stock") (posN ps 4)), (.Name (Str.ofString "sign") (posN ps 5))] [] (posN ps 6)) [.IsNot] [(.Constant .none (natN cs 0) (posN ps 7))] (posN ps 8))], 0⟩] (mkSc [((Str.ofString ".0"), .local), ((Str.ofString "sign"), .local), ((Str.ofString "insort_left"), .globalImplicit), ((Str.ofString "stock"), .free)]) (posN ps 9)) [.NotEq] [(.List [] (posN ps 10))] (posN ps 11)), (.Compare (.Name (Str.ofString "stock") (posN ps 12)) [.NotEq] [(.Call (.Name (Str.ofString "sorted") (posN ps 13)) [(.Name (Str.ofString "meant") (posN ps 14))] [⟨some (Str.ofString "key"), (.Name (Str.ofString "_law_codes") (posN ps 15)), (posN ps 16)⟩] (posN ps 17))] (posN ps 18))] (posN ps 19)) [(.Return (some (.Constant (.bool false) (natN cs 1) (posN ps 20))) (posN ps 21))] [] (posN ps 22)) :: lwBody 5 :=
   ⟨[_, _, _, _, _, _, _, _, _, _, _, _, _, _, _, _, _, _, _, _, _, _, _], [_, _], rfl⟩
theorem lw4 {DM DS : Addr} {kvs : KVs} {qs : List Pr} {Q : Flow → Shared → Prop} (hr : Room 60 A) (hh : A.handled = none) (F : Lw w s₀ s L m cm) (hM : cm (Str.ofString "meant") = some (.ref DM)) (hS : cm (Str.ofString "stock") = some (.ref DS))
    (hd : s.heap.DictOf (sk w) DM kvs) (lo : (DM == sysModules) = false) (hq : KVq kvs qs) (hnd : (qs.map (·.1)).Nodup) (hlen : qs.length < 64) (hl : s.heap.PlainList DS (List.toArray [])) (h9 : L + 9 ≤ DS) (hne : DS ≠ DM)
    (h : ∀ s' vs' xs', Upd (fun b => b = DS) s s' → Lw w s₀ s' L m cm → s'.heap.PlainList DS (List.toArray vs') → StrsAre vs' xs' → xs'.Pairwise ltT → xs'.Perm (qs.map fun q => ch q.1) → wpAny (model pw w) A (execs (lwBody 5) (lwEnv L)) Q E s') :
    wpAny (model pw w) A (execs (lwBody 4) (lwEnv L)) Q E s := by
  obtain ⟨ps, cs, he⟩ := lw_drop4
  rw [he]
  have kl := hq.len
  have keys := hq.keys
  refine if_or2 (isT_cmp ?_)
  refine s4_comp hr hh F hM hS hd lo hq hnd (by omega) hl h9 hne fun D s₁ vs₁ xs₁ hD U1 hD1 l1 v1 s1 e1 => ?_
  have F1 := F.keep U1 fun b q => .inr (q ▸ h9)
  refine wpAny_List (spliced_nil ⟨Nat.zero_le _, ?_⟩)
  have U2 : Upd noW s₁ { s₁ with heap := s₁.heap.push { cls := .type "list", data := .seq [].toArray }, toks := s₁.toks } := .push
  have hl2 : (s₁.heap.push { cls := .type "list", data := .seq [].toArray }).PlainList s₁.heap.objs.size (List.toArray []) := ⟨0, Heap.get?_push_size _ rfl⟩
  refine ne_strs (hD1.at fun o e => U2.get id e) hl2 .nil .nil (hr.le (by decide)) ⟨false, by simp, rfl, ?_⟩
  have F2 := F1.keep0 U2
  have l2 : ({ s₁ with heap := s₁.heap.push { cls := .type "list", data := .seq [].toArray }, toks := s₁.toks } : Shared).heap.PlainList DS (List.toArray vs₁) := l1.at fun o e => U2.get id e
  have hd2 : ({ s₁ with heap := s₁.heap.push { cls := .type "list", data := .seq [].toArray }, toks := s₁.toks } : Shared).heap.DictOf (sk w) DM kvs := (hd.at fun o e => U1.get (fun q => hne q.symm) e).at fun o e => U2.get id e
  generalize ({ s₁ with heap := s₁.heap.push { cls := .type "list", data := .seq [].toArray }, toks := s₁.toks } : Shared) = s₂ at U2 F2 l2 hd2 ⊢
  refine isT_cmp (lwC F2 (c := L + 3) (by kernel_rfl) hS ?_)
  refine callBk (env := lwEnv L) (id := "sorted") F2.base (fun P => by kernel_rfl) (fun P => by kernel_rfl) (lwC F2 (c := L + 2) (by kernel_rfl) hM ?_)
  refine nG (env := lwEnv L) F2.base (v := .ref 150) (fun P => by kernel_rfl) ?_
  have hnd' : (qs.map fun q => ch q.1).Nodup := by
    have : (qs.map fun q => ch q.1) = (qs.map (·.1)).map ch := by rw [List.map_map]; rfl
    rw [this]
    exact List.Pairwise.map _ (fun a b hab e => hab (ch_inj e)) hnd
  refine sorted_codes (xs := qs.map fun q => ch q.1) (hr.le (by decide)) hh F2.base (collects_dict hh hd2 lo (by omega)) (fun us hu => by rw [← keys]; exact hu) hnd' (by rw [List.length_map]; exact hlen) (fun x hx => ?_) fun D2 out ys s₃ hD2 U3 l3 v3 e3 p3 => ?_
  · obtain ⟨q, _, rfl⟩ := List.mem_map.mp hx
    show (#[q.1] : Array Nat).size ≤ 10000
    simp
  · have eq : xs₁ = ys := sorted_unique ltT_irr ltT_trans (e1.trans e3.symm) s1 p3
    have V : Upd (fun b => b = DS) s s₃ := U1.trans (U2.up.trans U3.up)
    refine ne_strs (l2.at fun o e => U3.get id e) l3 v1 v3 (hr.le (by decide)) ⟨false, by simp [eq], rfl, ?_⟩
    exact h s₃ vs₁ xs₁ V (F2.keep0 U3) (l2.at fun o e => U3.get id e) v1 s1 e1
end
end
end Mine
namespace Mine
open PySem PySem.W PySem.Calls PyProof.Rows
noncomputable section
theorem Made2.none {G : Nat → Value → Prop} {ys : List Value} (h : Made2 G [] ys) : ys = [] := by
  generalize he : ([] : List Nat) = is at h
  cases h with
  | nil => rfl
  | snoc _ _ => simp at he
theorem KVq.at' {kvs : KVs} {qs : List Pr} (h : KVq kvs qs) (hn : (qs.map (·.1)).Nodup) {q : Pr} (hq : q ∈ qs) : ∃ z u, valueAt kvs (ch q.1) = some (.str z u) ∧ tx z = q.2 := by
  induction h with
  | nil => cases hq
  | @snoc kvs qs c z u hk ih =>
    rw [List.map_append, List.nodup_append] at hn
    have ke := hk.keys
    rcases List.mem_append.mp hq with hq | hq
    · obtain ⟨z', u', h1, h2⟩ := ih hn.1 hq
      refine ⟨z', u', ?_, h2⟩
      unfold valueAt at h1 ⊢
      rw [List.find?_append]
      cases hf : kvs.find? (fun kv => decide (kv.1 = ch q.1)) with
      | none => rw [hf] at h1; cases h1
      | some kv => rw [hf] at h1; exact h1
    · rw [List.mem_singleton.mp hq]
      refine ⟨z, u, ?_, rfl⟩
      unfold valueAt
      rw [List.find?_append]
      have : kvs.find? (fun kv => decide (kv.1 = ch c)) = none := by
        rw [List.find?_eq_none]
        intro kv hkv e
        have e' := of_decide_eq_true e
        have hm : kv.1 ∈ kvs.map (·.1) := List.mem_map_of_mem hkv
        rw [ke, e'] at hm
        obtain ⟨q', hq', e2⟩ := List.mem_map.mp hm
        exact hn.2.2 q'.1 (List.mem_map_of_mem hq') c (by simp) (ch_inj e2)
      rw [this]
      simp
section
variable {w : World} {A : Around} {s s' s₀ : Shared} {L : Addr} {m cm : Str → Option Value} {E : Value → Shared → Prop} {env : Env}
theorem sub_un {value x : Expr} {op : UnaryOp} {p pos : Pos} {Q : Value → Shared → Prop}
    (h : wpAny (model pw w) A (eval value env) (fun o s₁ => wpAny (model pw w) A (eval (.UnaryOp op x p) env) (fun i s₂ => SubscriptOn (model pw w) A o i Q E s₂) E s₁) E s)
    (ht : ∀ o r, letTemporaryGo value o r = pure () := by intro _ _; rfl) :
    wpAny (model pw w) A (eval (.Subscript value (.UnaryOp op x p) pos) env) Q E s := by
  rw [eval_Subscript]
  refine wpAny_bind (wpAny_mono h (fun o s₁ h₁ => wpAny_bind (wpAny_holding (wpAny_mono h₁ (fun i s₂ h₂ => wpAny_bind (wpAny_standAt ?_)) fun _ _ x => x))) fun _ _ x => x)
  obtain ⟨T, id, hl, hT, hg⟩ := h₂
  refine wpAny_bind ?_
  rw [getitemInPython_of_ne hT.not_modules]
  refine wpAny_bind (wpAny_specialOf hT hl ?_)
  have fin : wpAny (model pw w) A (operate [o, i] (getItem o i)) (fun r s₃ => wpAny (model pw w) A (letTemporaryGo value o r >>= fun _ => pure r) Q E s₃) E s₂ :=
    wpAny_operating (wpAny_mono hg (fun r s₃ h₃ => wpAny_bind (wpAny_of_eq (ht o r) (wpAny_pure h₃))) fun _ _ x => x)
  first
    | exact wpAny_pure (wpAny_bind fin)
    | exact wpAny_bind (wpAny_pure (wpAny_bind fin))
    | exact wpAny_bind fin
theorem lw_drop5 : ∃ (ps : List Pos) (cs : List Nat), lwBody 5 = (.If (.Compare (.ListComp (.Name (Str.ofString "sign") (posN ps 0)) [⟨(.Name (Str.ofString "sign") (posN ps 1)), (.Name (Str.ofString "stock") (posN ps 2)), [(.Compare (.Call (.Name (Str.ofString "in_table_b1") (posN ps 3)) [(.Name (Str.ofString "sign") (posN ps 4))] [] (posN ps 5)) [.IsNot] [(.Compare (.Subscript (.Name (Str.ofString "meant") (posN ps 6)) (.Name (Str.ofString "sign") (posN ps 7)) (posN ps 8)) [.Eq] [(.Constant (.str (Str.ofString "")) (natN cs 0) (posN ps 9))] (posN ps 10))] (posN ps 11))], 0⟩] (mkSc [((Str.ofString ".0"), .local), ((Str.ofString "sign"), .local), ((Str.ofString "in_table_b1"), .globalImplicit), ((Str.ofString "meant"), .free)]) (posN ps 12)) [.NotEq] [(.List [] (posN ps 13))] (posN ps 14)) [(.Return (some (.Constant (.bool false) (natN cs 1) (posN ps 15))) (posN ps 16))] [] (posN ps 17)) :: lwBody 6 :=
   ⟨[_, _, _, _, _, _, _, _, _, _, _, _, _, _, _, _, _, _], [_, _], rfl⟩
/-- «[…] != []» is false when nothing is kept -/
theorem ne_nil {r : Expr} {D : Addr} {p : Pos} {Q : Value → Shared → Prop} (hr : Room 7 A) (hl : s.heap.PlainList D (List.toArray [])) (he : r = .List [] p) (h : ∀ s', Upd noW s s' → Q (.bool false) s') :
    wpAny (model pw w) A (eval r env) (fun b s₂ => wpAny (model pw w) A (compareOp .NotEq (.ref D) b) Q E s₂) E s := by
  subst he
  refine wpAny_List (spliced_nil ⟨Nat.zero_le _, ?_⟩)
  have U2 : Upd noW s { s with heap := s.heap.push { cls := .type "list", data := .seq [].toArray }, toks := s.toks } := .push
  have hl2 : (s.heap.push { cls := .type "list", data := .seq [].toArray }).PlainList s.heap.objs.size (List.toArray []) := ⟨0, Heap.get?_push_size _ rfl⟩
  exact ne_strs (hl.at fun o e => U2.get id e) hl2 .nil .nil hr (by simpa using h _ U2)
theorem lw5 {DM DS : Addr} {kvs : KVs} {qs : List Pr} {vs : List Value} {xs : List Str} {Q : Flow → Shared → Prop} (hr : Room 60 A) (hh : A.handled = none) (F : Lw w s₀ s L m cm) (hM : cm (Str.ofString "meant") = some (.ref DM)) (hS : cm (Str.ofString "stock") = some (.ref DS))
    (hd : s.heap.DictOf (sk w) DM kvs) (hq : KVq kvs qs) (hnd : (qs.map (·.1)).Nodup) (hl : s.heap.PlainList DS vs.toArray) (hv : StrsAre vs xs) (hx : ∀ x ∈ xs, ∃ q ∈ qs, x = ch q.1) (hlen : xs.length ≤ 100) (hb : ∀ q ∈ qs, inB1 q.1 = decide (q.2 = []))
    (h : ∀ s', Upd noW s s' → Lw w s₀ s' L m cm → wpAny (model pw w) A (execs (lwBody 6) (lwEnv L)) Q E s') :
    wpAny (model pw w) A (execs (lwBody 5) (lwEnv L)) Q E s := by
  obtain ⟨ps, cs, he⟩ := lw_drop5
  rw [he]
  refine if_1 (isT_cmp ?_)
  refine comp_v (cl := [(Str.ofString "meant", L + 2)]) (by kernel_rfl) (by decide +kernel) (by kernel_rfl) (by decide +kernel) ?_
  refine lwC F (c := L + 3) (by kernel_rfl) hS ?_
  have hcell := hM ▸ F.cells (Str.ofString "meant") (L + 2) (by kernel_rfl)
  have len := StrsAre.len hv
  refine pure_list hh (.refl _ _) hl (by omega) (fun C => compEnv_local (by kernel_rfl) (by kernel_rfl)) (fun _ => false) (fun _ _ => False) ?_ ?_ ?_
  · intro C i v s' m' E' hi U hns hm
    obtain ⟨x, t, hxi, rfl⟩ := StrsAre.at' hv hi
    obtain ⟨q, hqm, rfl⟩ := hx x (List.mem_of_getElem? hxi)
    obtain ⟨z, u, hz, ez⟩ := hq.at' hnd hqm
    have B' := (F.keep0 U).base
    refine wpAny_tests_one (isT_cmp ?_)
    refine callG1 okB1 B' (fun P => by kernel_rfl) (nL hns hm ⟨B', b1_call (hr.le (by decide)) B' fun s₂ U2 => ?_⟩)
    refine wpAny_Compare1 ?_
    refine dict_at (R := DM) (x := ch q.1) (t := t) (kvs := kvs) (v := .str z u) ?_
    refine nC (c := L + 2) (by kernel_rfl) (IsCell.at' hcell fun o e => U2.get id (U.get id e)) ?_
    refine nL (U2.ns id hns) hm ⟨rfl, rfl, (hd.at fun o e => U.get id e).at fun o e => U2.get id e, hz, ?_⟩
    refine wpAny_Constant_str (k := 0) (pos := (posN ps 0)) (P.eq_str ?_)
    have e2 : ((z.cps.toList == (Str.ofString "").cps.toList) : Bool) = inB1 q.1 := by
      rw [hb q hqm, ← ez]
      have : (Str.ofString "").cps.toList = [] := by kernel_rfl
      rw [this]
      by_cases e : tx z = []
      · rw [decide_eq_true e]; show (tx z == []) = true; rw [e]; rfl
      · rw [decide_eq_false e]; exact beq_eq_false_iff_ne.mpr e
    rw [e2]
    refine wpAny_isNot_plain rfl ⟨false, ?_, rfl, ?_⟩
    · simp
    · exact U2.trans .toks
  · intro C i v s' m' E' hi hp
    cases hp
  · intro D ys s' hD U hl' hM2
    have : (List.range vs.length).filter (fun _ => false) = [] := by simp
    rw [this] at hM2
    rw [hM2.none] at hl'
    refine ne_nil (hr.le (by decide)) hl' rfl fun s'' U' => ⟨false, rfl, rfl, ?_⟩
    exact h s'' (U.trans U') (F.keep0 (U.trans U'))
theorem lw_drop6 : ∃ (ps : List Pos) (cs : List Nat), lwBody 6 = (.Assign [(.Name (Str.ofString "last") (posN ps 0))] (.Subscript (.Name (Str.ofString "stock") (posN ps 1)) (.UnaryOp .USub (.Constant (.int 1) (natN cs 0) (posN ps 2)) (posN ps 3)) (posN ps 4)) (posN ps 5)) :: lwBody 7 :=
   ⟨[_, _, _, _, _, _], [_], rfl⟩
theorem lw6 {DS : Addr} {vs : List Value} {xs : List Str} {Q : Flow → Shared → Prop} (F : Lw w s₀ s L m cm) (hS : cm (Str.ofString "stock") = some (.ref DS)) (hl : s.heap.PlainList DS vs.toArray) (hv : StrsAre vs xs) (h0 : 0 < xs.length) (hlen : xs.length ≤ 100)
    (h : ∀ s' z u, xs[xs.length - 1]? = some z → Upd (fun b => b = L + 4) s s' → Lw w s₀ s' L m (setM cm (Str.ofString "last") (.str z u)) → wpAny (model pw w) A (execs (lwBody 7) (lwEnv L)) Q E s') :
    wpAny (model pw w) A (execs (lwBody 6) (lwEnv L)) Q E s := by
  obtain ⟨ps, cs, he⟩ := lw_drop6
  rw [he]
  have len := StrsAre.len hv
  obtain ⟨z, u, h1, h2⟩ := StrsAre.get' hv (i := xs.length - 1) (by omega)
  refine asg (sub_un (lwC F (c := L + 3) (by kernel_rfl) hS (wpAny_UnaryOp (wpAny_Constant_int (k := 0) (pos := (posN ps 0)) (neg_int ?_))))) (by kernel_rfl)
  have U1 : Upd noW s { s with toks := s.toks + 1 + 1 } := .toks
  refine ⟨"list", _, slot_list_getitem.lookup, hl.isList.typeIs, wpAny_getItem_list_neg (s := { s with toks := s.toks + 1 + 1 }) hl.isList (by omega) (by simp; omega) (by omega) (x := .str z u) ?_ ?_⟩
  · have : (-1 + ((vs.toArray.size : Nat) : Int)).toNat = xs.length - 1 := by simp; omega
    rw [this]; simpa using h1
  · refine sC (F.keep0 U1) (c := L + 4) (by kernel_rfl) fun s₂ U2 F2 => ?_
    exact h s₂ z u h2 (U1.up.trans U2) F2
end
end
end Mine
namespace Mine
open PySem PySem.W PySem.Calls PyProof.Rows
section
variable {w : World} {A : Around} {s : Shared} {E : Value → Shared → Prop} {env : Env}
/-- what a list comprehension needs once its iterator stands -/
structure LC2 (w : World) (A : Around) (env : Env) (target iter t2 i2 elt : Expr) (f2 : List Expr) (pos : Pos) (scope : Scope) (cl : List (Str × Addr)) (it : Value) (s₂ : Shared) (fin : Addr → Addr → List Value → Shared → Prop)
    (fp wr : List Addr) (n : Nat) (St : Nat → Heap → Prop) (B : Nat → (Str → Option Value) → (Str → Option Value) → Prop) (ok : Env → Prop) (O : Addr → Addr → Nat → List Value → Shared → Prop) : Prop where
  feed : Feed w A it target fp wr n St B ok
  few : n ≤ 10000
  st : St 0 s₂.heap
  fpl : ∀ b ∈ fp, b < s₂.heap.objs.size
  okC : ∀ C, ok (compEnvC scope cl C env)
  hs2 : ∀ (env : Env) x, foldedSetIterable i2 env x = pure x
  start : ∀ C D s', s₂.heap.objs.size ≤ C → s₂.heap.objs.size ≤ D → C ≠ D → Upd noW s₂ s' → O C D 0 [] s'
  stable : ∀ C D i ys s s', O C D i ys s → Upd (fun b => b ∈ wr ∨ b = C ∨ b = D) s s' → O C D i ys s'
  step : ∀ C D i ys s₁ m m' (E' : Value → Shared → Prop), s₂.heap.objs.size ≤ C → s₂.heap.objs.size ≤ D → C ≠ D → i < n → O C D i ys s₁ → B i m m' → s₁.heap.Ns C m' → s₁.heap.PlainList D ys.toArray → Upd (fun b => b ∈ wr) s₂ s₁ →
      wpAny (model pw w) A (eval i2 (compEnvC scope cl C env)) (fun xv s₃ => wpAny (model pw w) A (pyIter xv) (fun it2 s₄ => codeAny (model pw w) A (.compStart (.ListComp elt [⟨target, iter, [], 0⟩, ⟨t2, i2, f2, 0⟩] scope pos) 1 it2 (.ref D) (compEnvC scope cl C env))
        (fun r s' => match r with | .ok _ => ∃ ys' m'', Upd (fun b => b = C ∨ b = D) s₁ s' ∧ s'.heap.PlainList D (List.toArray ys') ∧ s'.heap.Ns C m'' ∧ O C D (i + 1) ys' s' | .error e => cameBackBy (model pw w) A (compEnvC scope cl C env) E' e s') s₄) E' s₃) E' s₁
  done : ∀ C D ys s' m, s₂.heap.objs.size ≤ C → s₂.heap.objs.size ≤ D → C ≠ D → O C D n ys s' → s'.heap.PlainList D ys.toArray → s'.heap.Ns C m → Upd (fun b => b ∈ wr) s₂ s' → fin C D ys s'
theorem list_block2 {target iter t2 i2 elt : Expr} {f2 : List Expr} {scope : Scope} {cl : List (Str × Addr)} {pos : Pos} {it : Value} {s₂ : Shared} {fin : Addr → Addr → List Value → Shared → Prop}
    {fp wr : List Addr} {n : Nat} {St : Nat → Heap → Prop} {B : Nat → (Str → Option Value) → (Str → Option Value) → Prop} {ok : Env → Prop} {O : Addr → Addr → Nat → List Value → Shared → Prop}
    {RR : Value → Addr → Result → Shared → Prop} (hcell : ∀ y ∈ scope.names, y.2 ≠ .cell) (hkind : scope.kind = .function)
    (H : LC2 w A env target iter t2 i2 elt f2 pos scope cl it s₂ fin fp wr n St B ok O) (hR : ∀ C D ys s', fin C D ys s' → RR (.ref D) C (.ok .next) s') :
    wpAny (model pw w) A (newList []) (fun acc s₃ => wpAny (model pw w) A (newFunctionEnv scope env.globals cl [] env.qual none .none (some env)) (fun cenv s₄ =>
      codeAny (model pw w) A (.compStart (.ListComp elt [⟨target, iter, [], 0⟩, ⟨t2, i2, f2, 0⟩] scope pos) 0 it acc { cenv with scope := relabel scope env }) (RR acc cenv.locals) s₄) E s₃) E s₂ := by
  refine wpAny_newObj_type (hd := by size_fits) (wpAny_newFunctionEnv hcell (by intro y hy; simp at hy) (fun h₁ hns₁ hsb₁ => ?_) hkind)
  dsimp only at hns₁ hsb₁ ⊢
  generalize hH2 : s₂.heap.push { cls := .type "list", dict := none, data := .seq ([] : List Value).toArray } = H2 at hns₁ hsb₁ ⊢
  have hC : H2.objs.size = s₂.heap.objs.size + 1 := by rw [← hH2, Heap.size_push]
  have hDC : s₂.heap.objs.size ≠ H2.objs.size := by rw [hC]; exact Nat.ne_of_lt (Nat.lt_succ_self _)
  have hCle : s₂.heap.objs.size ≤ H2.objs.size := by rw [hC]; exact Nat.le_succ _
  have below : ∀ b, b < s₂.heap.objs.size → b ≠ H2.objs.size ∧ b ≠ s₂.heap.objs.size := fun b hb => ⟨by rw [hC]; exact Nat.ne_of_lt (Nat.lt_succ_of_lt hb), Nat.ne_of_lt hb⟩
  have hDf : s₂.heap.objs.size ∉ fp := fun hm => Nat.lt_irrefl _ (H.fpl _ hm)
  have hCf : H2.objs.size ∉ fp := fun hm => by have := H.fpl _ hm; rw [hC] at this; exact Nat.lt_irrefl _ (Nat.lt_of_succ_lt this)
  have old : ∀ b o, s₂.heap.get? b = some o → h₁.get? b = some o := fun b o e => hsb₁.extBut b o (below b (Heap.lt_size e)).1 (Heap.get?_push_of_some _ (hH2 ▸ Heap.get?_push_of_some _ e))
  have hacc : h₁.PlainList s₂.heap.objs.size #[] := ⟨_, hsb₁.extBut _ _ hDC (Heap.get?_push_of_some _ (hH2 ▸ Heap.get?_push_size _ rfl))⟩
  have hsz : s₂.heap.objs.size ≤ h₁.objs.size := by rw [hsb₁.1, Heap.size_push]; exact Nat.le_succ_of_le hCle
  have loop : ∀ s₃ : Shared, s₃ = { s₂ with heap := h₁, toks := s₂.toks + ([] : List (Str × Value)).length } →
      codeAny (model pw w) A (.compLoop (.ListComp elt [⟨target, iter, [], 0⟩, ⟨t2, i2, f2, 0⟩] scope pos) 0 it (.ref s₂.heap.objs.size) (compEnvC scope cl H2.objs.size env)) (RR (.ref s₂.heap.objs.size) H2.objs.size) s₃ := by
    rintro s₃ rfl
    have U₀ : Upd noW s₂ { s₂ with heap := h₁, toks := s₂.toks + ([] : List (Str × Value)).length } := Upd.of_heap hsz fun b o _ e => old b o e
    have all : ∀ s', Upd (fun b => b ∈ wr ∨ b = H2.objs.size ∨ b = s₂.heap.objs.size) { s₂ with heap := h₁, toks := s₂.toks + ([] : List (Str × Value)).length } s' → Upd (fun b => b ∈ wr) s₂ s' := fun s' u =>
      (U₀.mono fun _ h => h.elim).then_fresh (u.mono fun b h => by
        rcases h with h | h | h
        · exact .inl h
        · exact .inr (h ▸ hCle)
        · exact .inr (h ▸ Nat.le_refl _))
    refine list_loop2 (cenv := compEnvC scope cl H2.objs.size env) (m₀ := fun x => ([] : List (Str × Value)).reverse.lookup x) H.feed (H.okC _) hDC hDf hCf H.few (H.feed.frame _ _ _ H.st fun b _ o e => old b o e) hacc hns₁ (fun _ => False) H.hs2
      (O H2.objs.size s₂.heap.objs.size) (H.start _ _ _ hCle (Nat.le_refl _) hDC.symm U₀) (fun i ys s s' h u => H.stable _ _ _ _ _ _ h u)
      (fun i ys s₁ m m' E' hi hO hB hn hl u => H.step _ _ _ _ _ _ _ _ hCle (Nat.le_refl _) hDC.symm hi hO hB hn hl (all _ (u.mono fun b q => q.elim (fun q => q.elim) id))) fun s' ys m hO hl hn u => ?_
    exact hR _ _ ys _ (H.done _ _ _ _ _ hCle (Nat.le_refl _) hDC.symm hO hl hn (all _ (u.mono fun b q => q.elim (fun q => q.elim) id)))
  exact codeAny_compStart_list (loop _ rfl) (H.feed.self 0 _ _ _ (H.feed.frame _ _ _ H.st fun b _ o e => old b o e) (loop _ rfl))
/-- a list comprehension as a value -/
theorem list_comp2 {target iter t2 i2 elt : Expr} {f2 : List Expr} {scope : Scope} {cl : List (Str × Addr)} {pos : Pos} {Q : Value → Shared → Prop}
    (hclos : closureFor scope env = pure cl) (hcell : ∀ y ∈ scope.names, y.2 ≠ .cell) (hkind : scope.kind = .function) (hnames : ∀ y ∈ scope.names, y.2 = .local → scope.names.lookup y.1 = some .local)
    (h : wpAny (model pw w) A (eval iter env) (fun xv s₁ => wpAny (model pw w) A (pyIter xv) (fun it s₂ =>
      ∃ fp wr n St B ok O, LC2 w A env target iter t2 i2 elt f2 pos scope cl it s₂ (fun C D _ys s' => (∃ m, s'.heap.Ns C m) ∧ ∀ s'', Upd (fun b => b = C) s' s'' → Q (.ref D) s'') fp wr n St B ok O) E s₁) E s)
    (hs : ∀ x, foldedSetIterable iter env x = pure x := by intro _; rfl) :
    wpAny (model pw w) A (eval (.ListComp elt [⟨target, iter, [], 0⟩, ⟨t2, i2, f2, 0⟩] scope pos) env) Q E s := by
  rw [eval_ListComp]
  refine wpAny_comprehension_free (use := none) rfl hs hclos hkind hnames (wpAny_mono h (fun xv s₁ h₁ => wpAny_mono h₁ (fun it s₂ h₂ => ?_) fun _ _ e => e) fun _ _ e => e)
  obtain ⟨fp, wr, n, St, B, ok, O, H⟩ := h₂
  refine list_block2 (RR := fun acc C => compPost (model pw w) A E none Q acc C) hcell hkind H ?_
  rintro C D ys s' ⟨⟨m, hn⟩, hQ⟩
  exact ⟨m, hn, fun h' hs' => hQ _ (Upd.same (t := s'.toks) hs' rfl)⟩
end
end Mine
namespace Mine
open PySem PySem.W PySem.Calls PyProof.Rows
noncomputable section
noncomputable abbrev sc7 : Scope := mkSc [((Str.ofString ".0"), .local), ((Str.ofString "one"), .local), ((Str.ofString "two"), .local), ((Str.ofString "stock"), .free)]
noncomputable def pairsOf2 (xs : List Str) : List Str := xs.flatMap fun a => xs.map fun b => a ++ b
theorem StrsAre.append {vs us : List Value} {xs ys : List Str} (h : StrsAre vs xs) (k : StrsAre us ys) : StrsAre (vs ++ us) (xs ++ ys) := by
  induction h with
  | nil => exact k
  | cons y t r ih => exact .cons y t ih
theorem take_flatMap_succ {α β : Type} {l : List α} {i : Nat} {a : α} (f : α → List β) (h : l[i]? = some a) : (l.take (i + 1)).flatMap f = (l.take i).flatMap f ++ f a := by
  rw [List.take_add_one, h]; simp
theorem take_map_succ {α β : Type} {l : List α} {i : Nat} {a : α} (f : α → β) (h : l[i]? = some a) : (l.take (i + 1)).map f = (l.take i).map f ++ [f a] := by
  rw [List.take_add_one, h]; simp
section
variable {w : World} {A : Around} {s s' s₀ : Shared} {L : Addr} {m cm : Str → Option Value} {E : Value → Shared → Prop} {env : Env}
theorem pairs_comp {p6 p7 p8 p9 p10 p11 p12 p13 : Pos} {DS : Addr} {vs : List Value} {xs : List Str} {Q : Value → Shared → Prop} (hh : A.handled = none) (F : Lw w s₀ s L m cm) (hS : cm (Str.ofString "stock") = some (.ref DS)) (hl : s.heap.PlainList DS vs.toArray) (hv : StrsAre vs xs) (hlen : xs.length ≤ 20) (hx : ∀ x ∈ xs, x.cps.size ≤ 1000)
    (h : ∀ D ys s', hs s ≤ D → Upd noW s s' → s'.heap.PlainList D (List.toArray ys) → StrsAre ys (pairsOf2 xs) → Q (.ref D) s') :
    wpAny (model pw w) A (eval (.ListComp (.BinOp (.Name (Str.ofString "one") p6) .Add (.Name (Str.ofString "two") p7) p8) [⟨(.Name (Str.ofString "one") p9), (.Name (Str.ofString "stock") p10), [], 0⟩, ⟨(.Name (Str.ofString "two") p11), (.Name (Str.ofString "stock") p12), [], 0⟩] sc7 p13) (lwEnv L)) Q E s := by
  have len := StrsAre.len hv
  refine list_comp2 (cl := [(Str.ofString "stock", L + 3)]) (by kernel_rfl) (by decide +kernel) (by kernel_rfl) (by decide +kernel) ?_
  refine lwC F (c := L + 3) (by kernel_rfl) hS ?_
  refine iter_list hh hl fun I St s₁ hI1 hI2 hDS U1 Fd st => ?_
  have hcell := hS ▸ F.cells (Str.ofString "stock") (L + 3) (by kernel_rfl)
  have L3 : L + 3 < hs s := Nat.lt_of_lt_of_le (Nat.add_lt_add_left (by decide) _) F.low
  refine ⟨[I, DS], [I], vs.length, St, _, _, fun C D i ys s' => StrsAre ys ((xs.take i).flatMap fun a => xs.map fun b => a ++ b), Fd _ _, by omega, st, ?_, fun C => compEnv_local (by kernel_rfl) (by kernel_rfl), fun _ _ => rfl, ?_, ?_, ?_, ?_⟩
  · intro b hb
    rcases List.mem_cons.mp hb with e | hb
    · exact e ▸ hI2
    · rw [List.mem_singleton.mp hb]; exact Nat.lt_of_lt_of_le hDS U1.size
  · intro C D s' _ _ _ _; rw [List.take_zero]; exact .nil
  · intro C D i ys s s' hO _; exact hO
  · rintro C D i ys s₂ m₁ m₂ E' hC hD hCD hi hO ⟨v, hvi, rfl⟩ hns hl2 U2
    obtain ⟨a, ta, hai, rfl⟩ := StrsAre.at' hv hvi
    have V2 : Upd noW s s₂ := U1.then_fresh (U2.mono fun b q => .inr (by rw [List.mem_singleton.mp q]; exact hI1))
    have sC' : hs s ≤ C := Nat.le_trans U1.size hC
    have sD' : hs s ≤ D := Nat.le_trans U1.size hD
    refine nC (c := L + 3) (by kernel_rfl) (IsCell.at' hcell fun o e => V2.get id e) ?_
    have hl2' : s₂.heap.PlainList DS vs.toArray := hl.at fun o e => V2.get id e
    refine iter_list hh hl2' fun I2 St2 s₃ h1 h2 h3 U3 Fd2 st2 => ?_
    have Cs : C < hs s₂ := lt_of_ns hns
    have Ds : D < hs s₂ := by obtain ⟨n, ho⟩ := hl2; exact Heap.lt_size ho
    have CI : C ≠ I2 := Nat.ne_of_lt (Nat.lt_of_lt_of_le Cs h1)
    have DI : D ≠ I2 := Nat.ne_of_lt (Nat.lt_of_lt_of_le Ds h1)
    have CDS : C ≠ DS := Nat.ne_of_gt (Nat.lt_of_lt_of_le hDS sC')
    have DDS : D ≠ DS := Nat.ne_of_gt (Nat.lt_of_lt_of_le hDS sD')
    have lenP : ys.length ≤ 400 := by
      have e1 := StrsAre.len hO
      have e2 : ∀ l : List Str, (l.flatMap fun a => xs.map fun b => a ++ b).length = l.length * xs.length := fun l => by
        induction l with
        | nil => simp
        | cons c r ih => rw [List.flatMap_cons, List.length_append, ih, List.length_map, List.length_cons, Nat.succ_mul, Nat.add_comm]
      rw [e1, e2, List.length_take]
      exact Nat.le_trans (Nat.mul_le_mul (Nat.le_trans (Nat.min_le_right _ _) hlen) hlen) (by decide)
    have loop : codeAny (model pw w) A (.compLoop (.ListComp (.BinOp (.Name (Str.ofString "one") p6) .Add (.Name (Str.ofString "two") p7) p8) [⟨(.Name (Str.ofString "one") p9), (.Name (Str.ofString "stock") p10), [], 0⟩, ⟨(.Name (Str.ofString "two") p11), (.Name (Str.ofString "stock") p12), [], 0⟩] sc7 p13) 1 (.ref I2) (.ref D) (compEnvC sc7 [(Str.ofString "stock", L + 3)] C (lwEnv L)))
        (fun r s' => match r with | .ok _ => ∃ ys' m'', Upd (fun b => b = C ∨ b = D) s₂ s' ∧ s'.heap.PlainList D (List.toArray ys') ∧ s'.heap.Ns C m'' ∧ StrsAre ys' ((xs.take (i + 1)).flatMap fun a => xs.map fun b => a ++ b) | .error e => cameBackBy (model pw w) A (compEnvC sc7 [(Str.ofString "stock", L + 3)] C (lwEnv L)) E' e s') s₃ := by
      refine list_loop1 (y0 := ys) (m₀ := setM m₁ (Str.ofString "one") (.str a ta)) (Fd2 _ _) (compEnv_local (by kernel_rfl) (by kernel_rfl)) (D := D) (fun q => hCD q.symm) ?_ ?_ (by omega) st2 (hl2.at fun o e => U3.get id e) (U3.ns id hns) (fun m => m (Str.ofString "one") = some (.str a ta)) (if_pos rfl) ?_ noW (fun b q => q.elim) (fun j zs _ => StrsAre zs (((xs.take i).flatMap fun a => xs.map fun b => a ++ b) ++ (xs.take j).map fun b => a ++ b)) ?_ ?_ ?_ ?_
      · intro q
        rcases List.mem_cons.mp q with e | q
        · exact DI e
        · exact DDS (List.mem_singleton.mp q)
      · intro q
        rcases List.mem_cons.mp q with e | q
        · exact CI e
        · exact CDS (List.mem_singleton.mp q)
      · rintro j m m' hm ⟨v, _, rfl⟩
        exact (if_neg (by decide)).trans hm
      · rw [List.take_zero, List.map_nil, List.append_nil]; exact hO
      · intro j zs s s' hz _; exact hz
      · rintro j zs s₄ m₄ m₅ E'' hj hz ⟨v, hvj, rfl⟩ hm hn4 hl4 U4
        obtain ⟨b, tb, hbj, rfl⟩ := StrsAre.at' hv hvj
        refine wpAny_tests_nil ?_
        simp only [if_true]
        have ga : a.length ≤ 1000 := hx a (List.mem_of_getElem? hai)
        have gb : b.length ≤ 1000 := hx b (List.mem_of_getElem? hbj)
        refine wpAny_BinOp (nL hn4 hm (nL hn4 (v := .str b tb) (if_pos rfl) (PyProof.Rows.add_str (fun t' tk => ⟨.toks, ?_⟩) (Nat.le_trans (by omega) sz10k))))
        rw [take_map_succ _ hbj, ← List.append_assoc]
        exact StrsAre.snoc hz
      · intro s₄ zs m₄ hz _ hl4 hn4 U4
        refine ⟨zs, m₄, ?_, hl4, hn4, ?_⟩
        · exact Upd.then_fresh (U3.up) (U4.mono fun b q => by
            rcases q with q | q | q | q
            · exact q.elim
            · rw [List.mem_singleton.mp q]; exact .inr h1
            · exact .inl (.inl q)
            · exact .inl (.inr q))
        · rw [take_flatMap_succ _ hai]
          rw [len, List.take_length] at hz
          exact hz
    exact codeAny_compStart_list1 loop ((Fd2 (Str.ofString "two") p11).self 0 _ _ _ st2 loop)
  · intro C D ys s₂ m₂ hC hD hCD hO hl2 hns U2
    refine ⟨⟨m₂, hns⟩, fun s₃ U3 => ?_⟩
    have V2 : Upd noW s s₂ := U1.then_fresh (U2.mono fun b q => .inr (by rw [List.mem_singleton.mp q]; exact hI1))
    rw [len, List.take_length] at hO
    have sC' : hs s ≤ C := Nat.le_trans U1.size hC
    exact h D ys s₃ (Nat.le_trans U1.size hD) (V2.then_fresh (U3.mono fun b q => .inr (q ▸ sC'))) (hl2.at fun o e => U3.get (fun q => hCD q.symm) e) hO
end
end
end Mine
namespace Mine
open PySem PySem.W PySem.Calls PyProof.Rows
noncomputable section
theorem Made2.strs {G : Nat → Value → Prop} {f : Nat → Str} {is : List Nat} {ys : List Value} (h : Made2 G is ys) (hG : ∀ i y, G i y → ∃ t, y = .str (f i) t) : StrsAre ys (is.map f) := by
  induction h with
  | nil => exact .nil
  | snoc _ g ih =>
    obtain ⟨t, rfl⟩ := hG _ _ g
    rw [List.map_append]
    exact StrsAre.snoc ih
theorem Made2.ints {G : Nat → Value → Prop} {f : Nat → Int} {is : List Nat} {ys : List Value} (h : Made2 G is ys) (hG : ∀ i y, G i y → ∃ t, y = .int (f i) t) : IntsAre ys (is.map f) := by
  induction h with
  | nil => exact .nil
  | snoc _ g ih =>
    obtain ⟨t, rfl⟩ := hG _ _ g
    rw [List.map_append]
    exact IntsAre.snoc ih
theorem range_all (n : Nat) : (List.range n).filter (fun _ => true) = List.range n := by simp
theorem map_getD {α β : Type} (l : List α) (d : α) (f : α → β) : (List.range l.length).map (fun i => f (l.getD i d)) = l.map f := by
  apply List.ext_getElem
  · simp
  · intro i h1 h2
    simp at h1
    simp [List.getD_eq_getElem?_getD, h1]
noncomputable def textsOf (xs : List Str) (z : Str) : List Str := ((([Str.ofString ""] ++ xs) ++ pairsOf2 xs) ++ xs.map fun a => (a ++ z) ++ z)
section
variable {w : World} {A : Around} {s s' s₀ : Shared} {L : Addr} {m cm : Str → Option Value} {E : Value → Shared → Prop} {env : Env}
noncomputable abbrev sc7b : Scope := mkSc [((Str.ofString ".0"), .local), ((Str.ofString "one"), .local), ((Str.ofString "last"), .free)]
theorem tails_comp {p15 p16 p17 p18 p19 p20 p21 p22 : Pos} {DS : Addr} {vs : List Value} {xs : List Str} {z : Str} {uz : Tok} {Q : Value → Shared → Prop} (hh : A.handled = none) (F : Lw w s₀ s L m cm) (hS : cm (Str.ofString "stock") = some (.ref DS)) (hZ : cm (Str.ofString "last") = some (.str z uz)) (hl : s.heap.PlainList DS vs.toArray) (hv : StrsAre vs xs) (hlen : xs.length ≤ 20) (hx : ∀ x ∈ xs, x.cps.size ≤ 1000) (hz : z.cps.size ≤ 1000)
    (h : ∀ D ys s', hs s ≤ D → Upd noW s s' → s'.heap.PlainList D (List.toArray ys) → StrsAre ys (xs.map fun a => (a ++ z) ++ z) → Q (.ref D) s') :
    wpAny (model pw w) A (eval (.ListComp (.BinOp (.BinOp (.Name (Str.ofString "one") p15) .Add (.Name (Str.ofString "last") p16) p17) .Add (.Name (Str.ofString "last") p18) p19) [⟨(.Name (Str.ofString "one") p20), (.Name (Str.ofString "stock") p21), [], 0⟩] sc7b p22) (lwEnv L)) Q E s := by
  have len := StrsAre.len hv
  refine comp_v (cl := [(Str.ofString "last", L + 4)]) (by kernel_rfl) (by decide +kernel) (by kernel_rfl) (by decide +kernel) ?_
  refine lwC F (c := L + 3) (by kernel_rfl) hS ?_
  have hcell := hZ ▸ F.cells (Str.ofString "last") (L + 4) (by kernel_rfl)
  refine pure_list hh (.refl _ _) hl (by omega) (fun C => compEnv_local (by kernel_rfl) (by kernel_rfl)) (fun _ => true) (fun i y => ∃ t, y = .str ((xs.getD i ⟨#[]⟩ ++ z) ++ z) t) ?_ ?_ ?_
  · intro C i v s' m' E' hi U hns hm
    exact wpAny_tests_nil ⟨rfl, .refl _ _⟩
  · intro C i v s' m' E' hi _ U hns hm
    obtain ⟨a, t, hai, rfl⟩ := StrsAre.at' hv hi
    have ga : a.length ≤ 1000 := hx a (List.mem_of_getElem? hai)
    have gz : z.length ≤ 1000 := hz
    have c1 : s'.heap.IsCell (L + 4) (some (.str z uz)) := IsCell.at' hcell fun o e => U.get id e
    refine wpAny_BinOp (wpAny_BinOp (nL hns hm (nC (c := L + 4) (by kernel_rfl) c1 (PyProof.Rows.add_str (fun t' tk => ?_) (Nat.le_trans (by omega) sz10k)))))
    refine nC (s := { s' with toks := tk }) (c := L + 4) (by kernel_rfl) c1 (PyProof.Rows.add_str (fun t' tk' => ⟨⟨t', ?_⟩, .toks⟩) ?_)
    · rw [List.getD_eq_getElem?_getD, hai]; rfl
    · have : (a ++ z).length = a.length + z.length := by show (a.cps ++ z.cps).size = _; rw [Array.size_append]; rfl
      rw [this]
      exact Nat.le_trans (by omega) sz10k
  · intro D ys s' hD U hl' hM
    refine h D ys s' hD U hl' ?_
    rw [range_all] at hM
    have := hM.strs (f := fun i => (xs.getD i ⟨#[]⟩ ++ z) ++ z) fun i y g => g
    rw [len, map_getD xs ⟨#[]⟩ fun a => (a ++ z) ++ z] at this
    exact this
theorem lw_drop7 : ∃ (ps : List Pos) (cs : List Nat), lwBody 7 = (.Assign [(.Name (Str.ofString "texts") (posN ps 0))] (.BinOp (.BinOp (.BinOp (.List [(.Constant (.str (Str.ofString "")) (natN cs 0) (posN ps 1))] (posN ps 2)) .Add (.Name (Str.ofString "stock") (posN ps 3)) (posN ps 4)) .Add (.ListComp (.BinOp (.Name (Str.ofString "one") (posN ps 5)) .Add (.Name (Str.ofString "two") (posN ps 6)) (posN ps 7)) [⟨(.Name (Str.ofString "one") (posN ps 8)), (.Name (Str.ofString "stock") (posN ps 9)), [], 0⟩, ⟨(.Name (Str.ofString "two") (posN ps 10)), (.Name (Str.ofString "stock") (posN ps 11)), [], 0⟩] (mkSc [((Str.ofString ".0"), .local), ((Str.ofString "one"), .local), ((Str.ofString "two"), .local), ((Str.ofString "stock"), .free)]) (posN ps 12)) (posN ps 13)) .Add (.ListComp (.BinOp (.BinOp (.Name (Str.ofString "one") (posN ps 14)) .Add (.Name (Str.ofString "last") (posN ps 15)) (posN ps 16)) .Add (.Name (Str.ofString "last") (posN ps 17)) (posN ps 18)) [⟨(.Name (Str.ofString "one") (posN ps 19)), (.Name (Str.ofString "stock") (posN ps 20)), [], 0⟩] (mkSc [((Str.ofString ".0"), .local), ((Str.ofString "one"), .local), ((Str.ofString "last"), .free)]) (posN ps 21)) (posN ps 22)) (posN ps 23)) :: lwBody 8 :=
   ⟨[_, _, _, _, _, _, _, _, _, _, _, _, _, _, _, _, _, _, _, _, _, _, _, _], [_], rfl⟩
theorem lw7 {DS : Addr} {vs : List Value} {xs : List Str} {z : Str} {uz : Tok} {Q : Flow → Shared → Prop} (hh : A.handled = none) (F : Lw w s₀ s L m cm) (hS : cm (Str.ofString "stock") = some (.ref DS)) (hZ : cm (Str.ofString "last") = some (.str z uz)) (hl : s.heap.PlainList DS vs.toArray) (hv : StrsAre vs xs) (hlen : xs.length ≤ 20) (hx : ∀ x ∈ xs, x.cps.size ≤ 1000) (hz : z.cps.size ≤ 1000)
    (h : ∀ D ys s', hs s ≤ D → Upd (fun b => b = L) s s' → Lw w s₀ s' L (setM m (Str.ofString "texts") (.ref D)) cm → s'.heap.PlainList D (List.toArray ys) → StrsAre ys (textsOf xs z) → wpAny (model pw w) A (execs (lwBody 8) (lwEnv L)) Q E s') :
    wpAny (model pw w) A (execs (lwBody 7) (lwEnv L)) Q E s := by
  obtain ⟨ps, cs, he⟩ := lw_drop7
  rw [he]
  have len := StrsAre.len hv
  refine asg ?_ (by kernel_rfl)
  refine wpAny_BinOp (wpAny_BinOp (wpAny_BinOp (wpAny_List (spliced_cons (wpAny_Constant_str (k := 0) (pos := (posN ps 0)) (spliced_nil ⟨(by show 1 ≤ sizeLine; exact Nat.le_trans (by decide) sz10k), ?_⟩))))))
  have U1 : Upd noW s { s with heap := s.heap.push { cls := .type "list", data := .seq [Value.str (Str.ofString "") s.toks].toArray }, toks := s.toks + 1 } := .push
  have l1 : (s.heap.push { cls := .type "list", data := .seq [Value.str (Str.ofString "") s.toks].toArray }).PlainList s.heap.objs.size [Value.str (Str.ofString "") s.toks].toArray := ⟨0, Heap.get?_push_size _ rfl⟩
  have F1 := F.keep0 U1
  have l1' : ({ s with heap := s.heap.push { cls := .type "list", data := .seq [Value.str (Str.ofString "") s.toks].toArray }, toks := s.toks + 1 } : Shared).heap.PlainList s.heap.objs.size [Value.str (Str.ofString "") s.toks].toArray := l1
  have v1 : StrsAre [Value.str (Str.ofString "") s.toks] [Str.ofString ""] := .cons _ _ .nil
  generalize ({ s with heap := s.heap.push { cls := .type "list", data := .seq [Value.str (Str.ofString "") s.toks].toArray }, toks := s.toks + 1 } : Shared) = s₁ at U1 F1 l1' ⊢
  refine lwC F1 (c := L + 3) (by kernel_rfl) hS ?_
  refine pl_add l1' (hl.at fun o e => U1.get id e) (by simp; omega) fun s₂ U2 l2 => ?_
  have F2 := F1.keep0 U2
  have v2 := StrsAre.append v1 hv
  have V2 := U1.trans U2
  refine pairs_comp hh F2 hS (hl.at fun o e => V2.get id e) hv hlen hx fun D3 ys3 s₃ hD3 U3 l3 v3 => ?_
  have F3 := F2.keep0 U3
  have lp := StrsAre.len v3
  have lpz : (pairsOf2 xs).length ≤ 400 := by
    have e2 : ∀ l : List Str, (l.flatMap fun a => xs.map fun b => a ++ b).length = l.length * xs.length := fun l => by
      induction l with
      | nil => simp
      | cons c r ih => rw [List.flatMap_cons, List.length_append, ih, List.length_map, List.length_cons, Nat.succ_mul, Nat.add_comm]
    unfold pairsOf2
    rw [e2]
    exact Nat.le_trans (Nat.mul_le_mul hlen hlen) (by decide)
  refine pl_add (l2.at fun o e => U3.get id e) l3 (by simp; omega) fun s₄ U4 l4 => ?_
  have F4 := F3.keep0 U4
  have v4 := StrsAre.append v2 v3
  have V4 := (V2.trans U3).trans U4
  refine tails_comp hh F4 hS hZ (hl.at fun o e => V4.get id e) hv hlen hx hz fun D5 ys5 s₅ hD5 U5 l5 v5 => ?_
  have F5 := F4.keep0 U5
  have lt := StrsAre.len v5
  rw [List.length_map] at lt
  refine pl_add (l4.at fun o e => U5.get id e) l5 (by simp; omega) fun s₆ U6 l6 => ?_
  have F6 := F5.keep0 U6
  have v6 := StrsAre.append v4 v5
  have V6 := (V4.trans U5).trans U6
  refine sL (env := lwEnv L) F6.ns fun s₇ U7 hn7 => ?_
  have hD : hs s ≤ s₅.heap.objs.size := (V4.trans U5).size
  have nL' : s₅.heap.objs.size ≠ L := Nat.ne_of_gt (Nat.lt_of_lt_of_le (lt_of_ns F.ns) hD)
  exact h _ _ s₇ hD (V6.up.trans U7) (F6.loc U7 hn7) (l6.at fun o e => U7.get nL' e) v6
end
end
end Mine
namespace Mine
open PySem PySem.W PySem.Calls PyProof.Rows
noncomputable section
section
variable {w : World} {A : Around} {s s' s₀ : Shared} {L : Addr} {m cm : Str → Option Value} {E : Value → Shared → Prop} {env : Env}
noncomputable abbrev sText : Str := Str.ofString "text"
/-- a comprehension that lays texts into the shelf -/
theorem ins_comp {elt iter : Expr} {scope : Scope} {cl : List (Str × Addr)} {px pos : Pos} {SH : Addr} {vs0 : List Value} {us xs0 : List Str} {Q : Value → Shared → Prop} (hh : A.handled = none) (F : Lw w s₀ s L m cm)
    (hclos : closureFor scope (lwEnv L) = pure cl) (hcell : ∀ y ∈ scope.names, y.2 ≠ .cell) (hkind : scope.kind = .function) (hnames : ∀ y ∈ scope.names, y.2 = .local → scope.names.lookup y.1 = some .local) (okC : ∀ C, LocEnv sText (compEnvC scope cl C (lwEnv L)))
    (h9 : L + 9 ≤ SH) (hSH : s.heap.PlainList SH vs0.toArray) (hv0 : StrsAre vs0 xs0) (hs0 : xs0.Pairwise ltT) (hnd : (us ++ xs0).Nodup) (hlen : (us ++ xs0).length ≤ 1000)
    (hit : ∀ (Q : Value → Shared → Prop) (E : Value → Shared → Prop), (∀ l vs s', hs s ≤ l → Upd noW s s' → s'.heap.PlainList l (List.toArray vs) → StrsAre vs us → Q (.ref l) s') → wpAny (model pw w) A (eval iter (lwEnv L)) Q E s)
    (hel : ∀ C s' m' x t vs' xs' (Q : Value → Shared → Prop) (E : Value → Shared → Prop), m' sText = some (.str x t) → s'.heap.Ns C m' → Upd (fun b => b = SH) s s' → s'.heap.PlainList SH (List.toArray vs') → StrsAre vs' xs' → xs'.Pairwise ltT → x ∉ xs' → xs'.length ≤ 1000 →
      (∀ s'' vs'' xs'', Upd (fun b => b = SH) s' s'' → s''.heap.PlainList SH (List.toArray vs'') → StrsAre vs'' xs'' → xs''.Pairwise ltT → xs''.Perm (x :: xs') → Q .none s'') → wpAny (model pw w) A (eval elt (compEnvC scope cl C (lwEnv L))) Q E s')
    (h : ∀ D s' vs' xs', hs s ≤ D → Upd (fun b => b = SH) s s' → s'.heap.PlainList D (List.replicate us.length Value.none).toArray → s'.heap.PlainList SH (List.toArray vs') → StrsAre vs' xs' → xs'.Pairwise ltT → xs'.Perm (us ++ xs0) → Q (.ref D) s')
    (hfs : ∀ x, foldedSetIterable iter (lwEnv L) x = pure x := by intro _; rfl) :
    wpAny (model pw w) A (eval (.ListComp elt [⟨.Name sText px, iter, [], 0⟩] scope pos) (lwEnv L)) Q E s := by
  refine list_comp hclos hcell hkind hnames ?_ hfs
  refine hit _ _ fun l vs s₁ hl0 U1 l1 v1 => ?_
  have len := StrsAre.len v1
  refine iter_list hh l1 fun I St s₂ hI1 hI2 hl2 U2 Fd st => ?_
  have hSs : SH < hs s := by obtain ⟨n, ho⟩ := hSH; exact Heap.lt_size ho
  have V2 : Upd noW s s₂ := U1.trans U2
  have hSI : SH ≠ I := Nat.ne_of_lt (Nat.lt_of_lt_of_le hSs (Nat.le_trans U1.size hI1))
  rw [List.length_append] at hlen
  refine ⟨[I, l], [I], vs.length, St, _, _, fun b => b = SH, fun C D i ys s' => (SH ≠ C ∧ SH ≠ D) ∧ ys = List.replicate i Value.none ∧ ∃ vs' xs', s'.heap.PlainList SH (List.toArray vs') ∧ StrsAre vs' xs' ∧ xs'.Pairwise ltT ∧ xs'.Perm (us.take i ++ xs0), Fd _ _, by omega, st, ?_, okC, ?_, ?_, ?_, ?_, ?_⟩
  · intro b hb
    rcases List.mem_cons.mp hb with e | hb
    · exact e ▸ hI2
    · rw [List.mem_singleton.mp hb]; exact Nat.lt_of_lt_of_le hl2 U2.size
  · rintro b rfl
    refine ⟨fun hb => ?_, Nat.lt_of_lt_of_le hSs V2.size⟩
    rcases List.mem_cons.mp hb with e | hb
    · exact hSI e
    · rw [List.mem_singleton.mp hb] at hSs; exact absurd hSs (Nat.not_lt.mpr hl0)
  · intro C D s' hC hD hCD U
    have hd1 : SH < hs s₂ := Nat.lt_of_lt_of_le hSs V2.size
    refine ⟨⟨Nat.ne_of_lt (Nat.lt_of_lt_of_le hd1 hC), Nat.ne_of_lt (Nat.lt_of_lt_of_le hd1 hD)⟩, rfl, vs0, xs0, hSH.at fun o e => U.get id (V2.get id e), hv0, hs0, ?_⟩
    rw [List.take_zero]; exact .refl _
  · rintro C D i ys s' s'' ⟨⟨n1, n2⟩, hys, vs', xs', g1, g2, g3, g4⟩ U
    refine ⟨⟨n1, n2⟩, hys, vs', xs', g1.at fun o e => U.get (fun q => ?_) e, g2, g3, g4⟩
    rcases q with q | q | q
    · exact hSI (List.mem_singleton.mp q)
    · exact n1 q
    · exact n2 q
  · rintro C D i ys s₃ m₁ m₂ E' hC hD hCD hi ⟨⟨n1, n2⟩, rfl, vs', xs', g1, g2, g3, g4⟩ ⟨v, hvi, rfl⟩ hns hl3 U3
    obtain ⟨x, t, hxi, rfl⟩ := StrsAre.at' v1 hvi
    have V3 : Upd (fun b => b = SH) s s₃ := Upd.then_fresh V2.up (U3.mono fun b q => q.elim (fun q => .inl q) fun q => .inr (by rw [List.mem_singleton.mp q]; exact Nat.le_trans U1.size hI1))
    have et : us.take (i + 1) = us.take i ++ [x] := by rw [List.take_add_one, hxi]; rfl
    have hx : x ∉ xs' := fun hm => by
      have hm' := g4.mem_iff.mp hm
      have hnd' : ((us.take (i + 1)) ++ xs0).Nodup := hnd.sublist ((List.take_sublist _ _).append (List.Sublist.refl _))
      rw [et, List.append_assoc, List.nodup_append] at hnd'
      rcases List.mem_append.mp hm' with q | q
      · exact hnd'.2.2 x q x (by simp) rfl
      · have := hnd'.2.1
        rw [List.singleton_append, List.nodup_cons] at this
        exact this.1 q
    have lx : xs'.length ≤ 1000 := by rw [g4.length_eq, List.length_append, List.length_take]; omega
    refine wpAny_tests_nil ?_
    simp only [if_true]
    refine hel C s₃ _ x t vs' xs' _ _ (if_pos rfl) hns V3 g1 g2 g3 hx lx fun s₄ vs₄ xs₄ U4 h1 h2 h3 h4 => ?_
    refine ⟨U4, ⟨n1, n2⟩, by rw [List.replicate_succ'], vs₄, xs₄, h1, h2, h3, ?_⟩
    rw [et, List.append_assoc]
    exact h4.trans ((List.Perm.cons x g4).trans (List.perm_middle (a := x) (l₁ := us.take i) (l₂ := xs0)).symm)
  · rintro C D ys s₃ m₃ hC hD hCD ⟨⟨n1, n2⟩, rfl, vs', xs', g1, g2, g3, g4⟩ hy hl3 hns U3
    refine ⟨⟨m₃, hns⟩, fun s₄ U4 => ?_⟩
    have V3 : Upd (fun b => b = SH) s s₃ := Upd.then_fresh V2.up (U3.mono fun b q => q.elim (fun q => .inl q) fun q => .inr (by rw [List.mem_singleton.mp q]; exact Nat.le_trans U1.size hI1))
    rw [len] at hl3 g4
    rw [List.take_length] at g4
    have hsC : hs s ≤ C := Nat.le_trans V2.size hC
    exact h D s₄ vs' xs' (Nat.le_trans V2.size hD) (V3.then_fresh (U4.mono fun b q => .inr (q ▸ hsC))) (hl3.at fun o e => U4.get (fun q => hCD q.symm) e) (g1.at fun o e => U4.get n1 e) g2 g3 g4
end
end
end Mine
namespace Mine
open PySem PySem.W PySem.Calls PyProof.Rows
noncomputable section
noncomputable def idxS (n : Nat) (lo hi st : Option Int) : List Nat := sliceRange (sliceBounds lo hi st n).1 (sliceBounds lo hi st n).2.1 (sliceBounds lo hi st n).2.2
noncomputable def pickS (xs : List Str) (lo hi st : Option Int) : List Str := (idxS xs.length lo hi st).filterMap (xs[·]?)
theorem strs_filterMap {vs : List Value} {xs : List Str} (h : StrsAre vs xs) : ∀ is : List Nat, StrsAre (is.filterMap (vs[·]?)) (is.filterMap (xs[·]?))
  | [] => .nil
  | i :: is => by
    have ih := strs_filterMap h is
    have len := StrsAre.len h
    by_cases q : i < vs.length
    · obtain ⟨y, u, h1, h2⟩ := StrsAre.get' h q
      rw [List.filterMap_cons_some (by exact h1), List.filterMap_cons_some (by exact h2)]
      exact .cons y u ih
    · rw [List.filterMap_cons_none (by exact List.getElem?_eq_none (by omega)), List.filterMap_cons_none (by exact List.getElem?_eq_none (by omega))]
      exact ih
theorem StrsAre.pick {vs : List Value} {xs : List Str} (h : StrsAre vs xs) (lo hi st : Option Int) : StrsAre (slicePick vs.toArray lo hi st).toList (pickS xs lo hi st) := by
  have e : (slicePick vs.toArray lo hi st).toList = (idxS xs.length lo hi st).filterMap (vs[·]?) := by
    unfold slicePick idxS
    rw [List.size_toArray, StrsAre.len h]
    simp
  rw [e]
  exact strs_filterMap h _
section
variable {w : World} {A : Around} {s s' s₀ : Shared} {L : Addr} {m cm : Str → Option Value} {E : Value → Shared → Prop} {env : Env}
theorem xfrm_spec (B : Base w s.heap) : KeySpec w s 128 (fun v k => ∃ y t, v = .str y t ∧ k = tx y) := by
  obtain ⟨o, h1, h2⟩ := okXfrm.get B
  refine ⟨⟨o, _, h1, h2⟩, ?_⟩
  rintro v k ⟨y, t, rfl, rfl⟩ A' hr s' Q' E' keep hsz h
  exact strxfrm_call (hr.le (by decide)) (B.below keep hsz) fun s'' U => h s'' y t U rfl
noncomputable abbrev sc9a : Scope := mkSc [((Str.ofString ".0"), .local), ((Str.ofString "text"), .local), ((Str.ofString "insort_right"), .globalImplicit), ((Str.ofString "_strxfrm"), .globalImplicit), ((Str.ofString "shelf"), .free)]
noncomputable abbrev sc9b : Scope := mkSc [((Str.ofString ".0"), .local), ((Str.ofString "text"), .local), ((Str.ofString "insort_right"), .globalImplicit), ((Str.ofString "shelf"), .free)]
theorem lw_drop9 : ∃ (ps : List Pos) (cs : List Nat), lwBody 9 = (.Assign [(.Name (Str.ofString "given") (posN ps 0))] (.BinOp (.ListComp (.Call (.Name (Str.ofString "insort_right") (posN ps 1)) [(.Name (Str.ofString "shelf") (posN ps 2)), (.Name (Str.ofString "text") (posN ps 3))] [⟨some (Str.ofString "key"), (.Name (Str.ofString "_strxfrm") (posN ps 4)), (posN ps 5)⟩] (posN ps 6)) [⟨(.Name (Str.ofString "text") (posN ps 7)), (.Subscript (.Name (Str.ofString "texts") (posN ps 8)) (.Slice (some (.Constant (.int 1) (natN cs 0) (posN ps 9))) none (some (.Constant (.int 2) (natN cs 1) (posN ps 10))) (posN ps 11)) (posN ps 12)), [], 0⟩] sc9a (posN ps 13)) .Add (.ListComp (.Call (.Name (Str.ofString "insort_right") (posN ps 14)) [(.Name (Str.ofString "shelf") (posN ps 15)), (.Name (Str.ofString "text") (posN ps 16))] [] (posN ps 17)) [⟨(.Name (Str.ofString "text") (posN ps 18)), (.Subscript (.Name (Str.ofString "texts") (posN ps 19)) (.Slice none none (some (.Constant (.int 2) (natN cs 2) (posN ps 20))) (posN ps 21)) (posN ps 22)), [], 0⟩] sc9b (posN ps 23)) (posN ps 24)) (posN ps 25)) :: lwBody 10 :=
   ⟨[_, _, _, _, _, _, _, _, _, _, _, _, _, _, _, _, _, _, _, _, _, _, _, _, _, _], [_, _, _], rfl⟩
theorem lw9 {SH TX : Addr} {vt : List Value} {ts : List Str} {Q : Flow → Shared → Prop} (hr : Room 100 A) (hh : A.handled = none) (F : Lw w s₀ s L m cm) (hS : cm (Str.ofString "shelf") = some (.ref SH)) (hT : m (Str.ofString "texts") = some (.ref TX))
    (hSH : s.heap.PlainList SH (List.toArray [])) (h9 : L + 9 ≤ SH) (hTX : s.heap.PlainList TX vt.toArray) (hv : StrsAre vt ts) (hne : TX ≠ SH) (hlen : ts.length ≤ 100) (hnd : ts.Nodup) (hpm : (pickS ts (some 1) none (some 2) ++ pickS ts none none (some 2)).Perm ts)
    (h : ∀ D s' vs' xs', hs s ≤ D → Upd (fun b => b = L ∨ b = SH) s s' → Lw w s₀ s' L (setM m (Str.ofString "given") (.ref D)) cm → s'.heap.PlainList D (List.replicate ts.length Value.none).toArray → s'.heap.PlainList SH (List.toArray vs') → StrsAre vs' xs' → xs'.Pairwise ltT → xs'.Perm ts → wpAny (model pw w) A (execs (lwBody 10) (lwEnv L)) Q E s') :
    wpAny (model pw w) A (execs (lwBody 9) (lwEnv L)) Q E s := by
  obtain ⟨ps, cs, he⟩ := lw_drop9
  rw [he]
  have len := StrsAre.len hv
  have pl := hpm.length_eq
  rw [List.length_append] at pl
  have hn2 : (pickS ts none none (some 2) ++ (pickS ts (some 1) none (some 2) ++ ([] : List Str))).Nodup := by
    rw [List.append_nil]
    exact (List.perm_append_comm.trans hpm).nodup_iff.mpr hnd
  have hn1 : (pickS ts (some 1) none (some 2) ++ ([] : List Str)).Nodup := (List.nodup_append.mp hn2).2.1
  have base9 : ∀ s' : Shared, Upd (fun b => b = SH) s s' → Base w s'.heap := fun s' U => (F.keep U fun b q => .inr (q ▸ h9)).base
  have hcell := hS ▸ F.cells (Str.ofString "shelf") (L + 5) (by kernel_rfl)
  have n5 : L + 5 ≠ SH := fun q => by rw [← q] at h9; exact absurd h9 (Nat.not_le.mpr (Nat.add_lt_add_left (by decide) _))
  refine asg ?_ (by kernel_rfl)
  refine wpAny_BinOp ?_
  refine ins_comp (cl := [(Str.ofString "shelf", L + 5)]) (us := pickS ts (some 1) none (some 2)) hh F (by kernel_rfl) (by decide +kernel) (by kernel_rfl) (by decide +kernel) (fun C => compEnv_local (by kernel_rfl) (by kernel_rfl)) h9 hSH .nil .nil hn1 (by rw [List.append_nil]; omega) ?_ ?_ ?_
  · intro Q E hq
    refine list_sl_step (lwL F hT (wpAny_evalPart_some (wpAny_Constant_int (k := 0) (pos := (posN ps 0)) (wpAny_evalPart_none (wpAny_Constant_int (k := 0) (pos := (posN ps 0)) ?_)))))
    refine ⟨TX, vt.toArray, some 1, none, 2, rfl, hTX, by simp; omega, .int _ _, .none, .int _ _, by decide, fun D s₁ hD U hl => ?_⟩
    exact hq D (slicePick vt.toArray (some 1) none (some 2)).toList s₁ hD ((Upd.toks (s := s) (t := s.toks + 1 + 1)).trans U) (by rw [Array.toArray_toList]; exact hl) (StrsAre.pick hv _ _ _)
  · intro C s' m' x t vs' xs' Q E hm hns U g1 g2 g3 hx hlx hq
    have B' := base9 s' U
    refine callG2k okIR B' (fun P => by kernel_rfl) ?_
    refine nC (c := L + 5) (by kernel_rfl) (IsCell.at' hcell fun o e => U.get n5 e) ?_
    refine nL hns hm ?_
    refine nG B' (v := .ref 128) (fun P => by kernel_rfl) ⟨B', ?_⟩
    refine ins_right_key (f := tx) (hr.le (by decide)) B' g1 (by rw [StrsAre.len g2]; omega) g2 (xfrm_spec B') (fun y u _ => ⟨y, u, rfl, rfl⟩) ltT ltT_trans g3 (fun y hy q => ltT_total q fun e => hx (e ▸ hy)) (fun y hy q => q) hq
  · intro D1 s₁ vs₁ xs₁ hD1 U1 l1 g1 v1 t1 e1
    have F1 := F.keep U1 fun b q => .inr (q ▸ h9)
    rw [List.append_nil] at e1
    have hTX1 : s₁.heap.PlainList TX vt.toArray := hTX.at fun o e => U1.get hne e
    refine ins_comp (cl := [(Str.ofString "shelf", L + 5)]) (us := pickS ts none none (some 2)) hh F1 (by kernel_rfl) (by decide +kernel) (by kernel_rfl) (by decide +kernel) (fun C => compEnv_local (by kernel_rfl) (by kernel_rfl)) h9 g1 v1 t1 ?_ ?_ ?_ ?_ ?_
    · rw [List.append_nil] at hn2
      exact ((List.Perm.append_left _ e1).nodup_iff).mpr hn2
    · rw [List.length_append, e1.length_eq]; omega
    · intro Q E hq
      refine list_sl_step (lwL F1 hT (wpAny_evalPart_none (wpAny_evalPart_none (wpAny_Constant_int (k := 0) (pos := (posN ps 0)) ?_))))
      refine ⟨TX, vt.toArray, none, none, 2, rfl, hTX1, by simp; omega, .none, .none, .int _ _, by decide, fun D s₂ hD U hl => ?_⟩
      exact hq D (slicePick vt.toArray none none (some 2)).toList s₂ hD ((Upd.toks (s := s₁) (t := s₁.toks + 1)).trans U) (by rw [Array.toArray_toList]; exact hl) (StrsAre.pick hv _ _ _)
    · intro C s' m' x t vs' xs' Q E hm hns U g1 g2 g3 hx hlx hq
      have B' := base9 s' (U1.trans U)
      refine callG2 okIR B' (fun P => by kernel_rfl) ?_
      refine nC (c := L + 5) (by kernel_rfl) (IsCell.at' (IsCell.at' hcell fun o e => U1.get n5 e) fun o e => U.get n5 e) ?_
      refine nL hns hm ⟨B', ?_⟩
      exact ins_right (hr.le (by decide)) B' g1 (by rw [StrsAre.len g2]; omega) g2 g3 hx hq
    · intro D2 s₂ vs₂ xs₂ hD2 U2 l2 g2 v2 t2 e2
      have D1SH : D1 ≠ SH := Nat.ne_of_gt (Nat.lt_of_lt_of_le (by obtain ⟨n, ho⟩ := hSH; exact Heap.lt_size ho) hD1)
      have l1' : s₂.heap.PlainList D1 (List.replicate (pickS ts (some 1) none (some 2)).length Value.none).toArray := l1.at fun o e => U2.get D1SH e
      have F2 := F1.keep U2 fun b q => .inr (q ▸ h9)
      refine pl_add l1' l2 (by simp; omega) fun s₃ U3 l3 => ?_
      have F3 := F2.keep0 U3
      refine sL (env := lwEnv L) F3.ns fun s₄ U4 hn4 => ?_
      have V3 : Upd (fun b => b = SH) s s₃ := (U1.trans U2).trans U3.up
      have nL' : s₂.heap.objs.size ≠ L := Nat.ne_of_gt (Nat.lt_of_lt_of_le (lt_of_ns F.ns) (U1.trans U2).size)
      have SHL : SH ≠ L := fun q => by rw [q] at h9; exact absurd h9 (Nat.not_le.mpr (Nat.lt_add_of_pos_right (by decide)))
      have er : List.replicate (pickS ts (some 1) none (some 2)).length Value.none ++ List.replicate (pickS ts none none (some 2)).length Value.none = List.replicate ts.length Value.none := by
        rw [List.replicate_append_replicate, pl]
      rw [er] at l3
      refine h _ s₄ vs₂ xs₂ (U1.trans U2).size ((V3.mono fun b q => .inr q).trans (U4.mono fun b q => .inl q)) (F3.loc U4 hn4) (l3.at fun o e => U4.get nL' e) ((g2.at fun o e => U3.get id e).at fun o e => U4.get SHL e) v2 t2 ?_
      exact e2.trans ((List.Perm.append_left _ e1).trans (List.perm_append_comm.trans hpm))
end
end
end Mine
namespace Mine
open PySem PySem.W PySem.Calls PyProof.Rows
noncomputable section
section
variable {w : World} {A : Around} {s s' s₀ : Shared} {L : Addr} {m cm : Str → Option Value} {E : Value → Shared → Prop} {env : Env}
theorem lw_drop10 : ∃ (ps : List Pos) (cs : List Nat), lwBody 10 = (.If (.BoolOp .Or [(.Compare (.Name (Str.ofString "given") (posN ps 0)) [.NotEq] [(.BinOp (.List [(.Constant .none (natN cs 0) (posN ps 1))] (posN ps 2)) .Mult (.Call (.Name (Str.ofString "len") (posN ps 3)) [(.Name (Str.ofString "texts") (posN ps 4))] [] (posN ps 5)) (posN ps 6))] (posN ps 7)), (.Compare (.Name (Str.ofString "shelf") (posN ps 8)) [.NotEq] [(.Call (.Name (Str.ofString "sorted") (posN ps 9)) [(.Name (Str.ofString "texts") (posN ps 10))] [⟨some (Str.ofString "key"), (.Name (Str.ofString "_law_codes") (posN ps 11)), (posN ps 12)⟩] (posN ps 13))] (posN ps 14))] (posN ps 15)) [(.Return (some (.Constant (.bool false) (natN cs 1) (posN ps 16))) (posN ps 17))] [] (posN ps 18)) :: lwBody 11 :=
   ⟨[_, _, _, _, _, _, _, _, _, _, _, _, _, _, _, _, _, _, _], [_, _], rfl⟩
/-- [x] * len(y) for a local list y -/
theorem rep_len {x : Value} {ex : Expr} {y : Str} {Y : Addr} {vy : List Value} {p3 p4 p5 p6 p7 : Pos} {Q : Value → Shared → Prop} (F : Lw w s₀ s L m cm) (hY : m y = some (.ref Y)) (hl : s.heap.PlainList Y vy.toArray) (hz : vy.length ≤ 1000)
    (hx : ∀ (Q : Value → Shared → Prop) (E : Value → Shared → Prop), (∀ v k, v = x → Q v { s with toks := k }) → wpAny (model pw w) A (eval ex (lwEnv L)) Q E s) (hs1 : starEach [ex] (lwEnv L) = [(false, eval ex (lwEnv L))]) (hky : (lwEnv L).kindOf y = some .local) (hd : (y == ("__debug__" : Str)) = false)
    (h : ∀ D s', hs s ≤ D → Upd noW s s' → s'.heap.PlainList D (List.replicate vy.length x).toArray → Q (.ref D) s') :
    wpAny (model pw w) A (eval (.BinOp (.List [ex] p3) .Mult (.Call (.Name (Str.ofString "len") p4) [.Name y p5] [] p6) p7) (lwEnv L)) Q E s := by
  refine wpAny_BinOp (wpAny_List ?_)
  rw [hs1]
  refine spliced_cons (hx _ _ fun v k hv => ?_)
  subst hv
  refine spliced_nil ⟨(by show 1 ≤ sizeLine; exact Nat.le_trans (by decide) sz10k), ?_⟩
  have U1 : Upd noW s { s with heap := s.heap.push { cls := .type "list", data := .seq [v].toArray }, toks := k } := .push
  have l1 : (s.heap.push { cls := .type "list", data := .seq [v].toArray }).PlainList s.heap.objs.size #[v] := ⟨0, Heap.get?_push_size _ rfl⟩
  have F1 := F.keep0 U1
  have l1' : ({ s with heap := s.heap.push { cls := .type "list", data := .seq [v].toArray }, toks := k } : Shared).heap.PlainList s.heap.objs.size #[v] := l1
  generalize ({ s with heap := s.heap.push { cls := .type "list", data := .seq [v].toArray }, toks := k } : Shared) = s₁ at U1 F1 l1' ⊢
  refine callB1 (env := lwEnv L) (id := "len") F1.base (fun P => by kernel_rfl) (fun P => by kernel_rfl) (lwL F1 hY (len_list (hl.at fun o e => U1.get id e).isList (by simp; omega) ?_) hky hd)
  have U2 : Upd noW s₁ { s₁ with toks := s₁.toks + 1 + 1 } := .toks
  have e1 : ((vy.toArray.size : Nat) : Int) = (vy.length : Nat) := by simp
  rw [e1]
  refine mul_one (s := { s₁ with toks := s₁.toks + 1 + 1 }) (l1'.at fun o e => U2.get id e) (by omega) fun D s₂ hD U3 l3 => ?_
  exact h D s₂ (Nat.le_trans (U1.trans U2).size hD) ((U1.trans U2).trans U3) l3
theorem lw10 {SH TX GV : Addr} {vt vh : List Value} {ts xs : List Str} {Q : Flow → Shared → Prop} (hr : Room 100 A) (hh : A.handled = none) (F : Lw w s₀ s L m cm) (hS : cm (Str.ofString "shelf") = some (.ref SH)) (hT : m (Str.ofString "texts") = some (.ref TX)) (hG : m (Str.ofString "given") = some (.ref GV))
    (hSH : s.heap.PlainList SH vh.toArray) (hvh : StrsAre vh xs) (hTX : s.heap.PlainList TX vt.toArray) (hv : StrsAre vt ts) (hGV : s.heap.PlainList GV (List.replicate ts.length Value.none).toArray) (hlen : ts.length < 64) (hnd : ts.Nodup) (hz : ∀ x ∈ ts, x.cps.size ≤ 10000) (hxs : xs.Pairwise ltT) (hp : xs.Perm ts)
    (h : ∀ s', Upd noW s s' → Lw w s₀ s' L m cm → wpAny (model pw w) A (execs (lwBody 11) (lwEnv L)) Q E s') :
    wpAny (model pw w) A (execs (lwBody 10) (lwEnv L)) Q E s := by
  obtain ⟨ps, cs, he⟩ := lw_drop10
  rw [he]
  have len := StrsAre.len hv
  refine if_or2 (isT_cmp (lwL F hG ?_))
  refine rep_len (x := .none) F hT hTX (by omega) (fun Q E hq => wpAny_Constant_none (k := 0) (pos := (posN ps 0)) (hq _ s.toks rfl)) (by with_unfolding_all rfl) (by kernel_rfl) (by kernel_rfl) fun D s₁ hD U1 l1 => ?_
  rw [len] at l1
  refine ne_nones (hGV.at fun o e => U1.get id e) l1 (hr.le (by decide)) ⟨false, by simp, rfl, ?_⟩
  have F1 := F.keep0 U1
  refine isT_cmp (lwC F1 (c := L + 5) (by kernel_rfl) hS ?_)
  refine callBk (env := lwEnv L) (id := "sorted") F1.base (fun P => by kernel_rfl) (fun P => by kernel_rfl) (lwL F1 hT ?_)
  refine nG (env := lwEnv L) F1.base (v := .ref 150) (fun P => by kernel_rfl) ?_
  refine sorted_codes (xs := ts) (hr.le (by decide)) hh F1.base (collects_list (hTX.at fun o e => U1.get id e) (by omega)) (fun us hu => by rw [hu]; exact hv) hnd hlen hz fun D2 out ys s₂ hD2 U2 l2 v2 e2 t2 => ?_
  have eq : xs = ys := sorted_unique ltT_irr ltT_trans (hp.trans e2.symm) hxs t2
  refine ne_strs ((hSH.at fun o e => U1.get id e).at fun o e => U2.get id e) l2 hvh v2 (hr.le (by decide)) ⟨false, by simp [eq], rfl, ?_⟩
  exact h s₂ (U1.trans U2) (F1.keep0 U2)
end
end
end Mine
namespace Mine
open PySem PySem.W PySem.Calls PyProof.Rows
noncomputable section
noncomputable def collOf (a b : List Nat) : Int := b2i (decide (b < a)) - b2i (decide (a < b))
theorem collOf_lt {a b : List Nat} (h : a < b) : collOf a b = -1 := by
  unfold collOf
  rw [decide_eq_true h, decide_eq_false (fun q => List.lt_irrefl _ (List.lt_trans h q))]
  rfl
theorem collOf_iff {a b : List Nat} : collOf a b = -1 ↔ a < b := by
  refine ⟨fun h => ?_, collOf_lt⟩
  by_cases q : a < b
  · exact q
  · unfold collOf at h
    rw [decide_eq_false q] at h
    by_cases r : b < a
    · rw [decide_eq_true r] at h; cases h
    · rw [decide_eq_false r] at h; cases h
noncomputable abbrev e0 : Str := ⟨#[]⟩
/-- what two neighbours give -/
noncomputable def nbs (g : Str → Str → Int) (xs : List Str) : List Int := (List.range (xs.length - 1)).map fun i => g (xs.getD i e0) (xs.getD (i + 1) e0)
section
variable {w : World} {A : Around} {s s' s₀ : Shared} {L : Addr} {m cm : Str → Option Value} {E : Value → Shared → Prop} {env : Env}
theorem nbr_to {elt : Expr} {scope : Scope} {cl : List (Str × Addr)} {X y : Str} {c X0 : Addr} {c12 k7 : Nat} {p0 p5 p6 p8 p9 p10 p11 p13 p14 p15 p16 p17 p18 : Pos} {rest : List Stmt} {vs : List Value} {xs : List Str} {g : Str → Str → Int} {Q : Flow → Shared → Prop} (hh : A.handled = none) (F : Lw w s₀ s L m cm)
    (hc : (lwEnv L).cells.lookup X = some c) (hX : cm X = some (.ref X0)) (hl : s.heap.PlainList X0 vs.toArray) (hv : StrsAre vs xs) (hlen : xs.length ≤ 1000)
    (hsw : swapsWith (.ListComp elt [⟨(.Tuple [(.Name (Str.ofString "one") p5), (.Name (Str.ofString "two") p6)] k7 p8), (.Call (.Name (Str.ofString "zip") p9) [(.Name X p10), (.Subscript (.Name X p11) (.Slice (some (.Constant (.int 1) c12 p13)) none none p14) p15)] [] p16), [], 0⟩] scope p17) (some (.Name y p0)) p18.line (lwEnv L) = pure true)
    (hclos : closureFor scope (lwEnv L) = pure cl) (hcell : ∀ y ∈ scope.names, y.2 ≠ .cell) (hkind : scope.kind = .function) (hnames : ∀ y ∈ scope.names, y.2 = .local → scope.names.lookup y.1 = some .local) (okC : ∀ C, LocEnv (Str.ofString "one") (compEnvC scope cl C (lwEnv L)) ∧ LocEnv (Str.ofString "two") (compEnvC scope cl C (lwEnv L)))
    (hel : ∀ C s' m' a b ta tb (Q : Value → Shared → Prop) (E : Value → Shared → Prop), a ∈ xs → b ∈ xs → m' (Str.ofString "one") = some (.str a ta) → m' (Str.ofString "two") = some (.str b tb) → s'.heap.Ns C m' → Upd noW s s' → (∀ t s'', Upd noW s' s'' → Q (.int (g a b) t) s'') → wpAny (model pw w) A (eval elt (compEnvC scope cl C (lwEnv L))) Q E s')
    (h : ∀ D ys s', hs s ≤ D → Upd (fun b => b = L) s s' → Lw w s₀ s' L (setM m y (.ref D)) cm → s'.heap.PlainList D (List.toArray ys) → IntsAre ys (nbs g xs) → wpAny (model pw w) A (execs rest (lwEnv L)) Q E s')
    (hXk : (lwEnv L).kindOf X = some .cell := by kernel_rfl) (hXd : (X == ("__debug__" : Str)) = false := by kernel_rfl) (hyl : (lwEnv L).kindOf y = some .local := by kernel_rfl) :
    wpAny (model pw w) A (execs (.Assign [.Name y p0] (.ListComp elt [⟨(.Tuple [(.Name (Str.ofString "one") p5), (.Name (Str.ofString "two") p6)] k7 p8), (.Call (.Name (Str.ofString "zip") p9) [(.Name X p10), (.Subscript (.Name X p11) (.Slice (some (.Constant (.int 1) c12 p13)) none none p14) p15)] [] p16), [], 0⟩] scope p17) p18 :: rest) (lwEnv L)) Q E s := by
  have len := StrsAre.len hv
  refine comp_to hsw hclos hcell hkind hnames F.ns ?_ hyl (by kernel_rfl)
  refine call_ (trees := [(false, eval _ _), (false, eval _ _)]) (kts := []) rfl rfl ?_
  refine nB (env := lwEnv L) F.base (v := .type "zip") (fun P => by kernel_rfl) (fun P => by kernel_rfl) ?_
  refine PyProof.Rows.callWith_type rfl (evalArgs_plain (spliced_cons ?_))
  refine lwC F hc hX (spliced_cons ?_) hXk hXd
  refine list_sl (lwC F hc hX ?_ hXk hXd)
  refine wpAny_evalPart_some (wpAny_Constant_int (k := 0) (pos := p0) (wpAny_evalPart_none ?_))
  refine ⟨X0, vs.toArray, some 1, none, rfl, hl, by simp; omega, .int _ _, .none, fun D1 s₁ hD1 U1 l1 => spliced_nil ?_⟩
  have U1' : Upd noW s s₁ := (Upd.toks (t := s.toks + 1)).trans U1
  have e1 : slicePick vs.toArray (some 1) none none = (vs.drop 1).toArray := by
    have := slicePick_from' vs.toArray 1
    simpa using this
  rw [e1] at l1
  have lm : min vs.length (vs.drop 1).length = xs.length - 1 := by rw [List.length_drop, len]; omega
  have at1 : ∀ i b, (vs.drop 1)[i]? = some b → ∃ y u, b = .str y u ∧ xs[i + 1]? = some y := fun i b hb => by
    rw [List.getElem?_drop, Nat.add_comm] at hb
    obtain ⟨y, u, h1, h2⟩ := StrsAre.at' hv hb
    exact ⟨y, u, h2, h1⟩
  refine pure_zip hh U1' (hl.at fun o e => U1'.get id e) l1 (by rw [lm]; omega) (by decide) okC (fun _ => true) (fun i y => ∃ t, y = .int (g (xs.getD i e0) (xs.getD (i + 1) e0)) t) ?_ ?_ ?_
  · intro C i a b s' m' E' ha hb U hns h1 h2
    exact wpAny_tests_nil ⟨rfl, .refl _ _⟩
  · intro C i a b s' m' E' ha hb _ U hns h1 h2
    obtain ⟨x, t, hx, rfl⟩ := StrsAre.at' hv ha
    obtain ⟨y', u, rfl, hy⟩ := at1 i b hb
    refine hel C s' m' x y' t u _ _ (List.mem_of_getElem? hx) (List.mem_of_getElem? hy) h1 h2 hns U fun tk s'' U' => ⟨⟨tk, ?_⟩, U'⟩
    rw [List.getD_eq_getElem?_getD, List.getD_eq_getElem?_getD, hx, hy]; rfl
  · intro D ys s' hD U hn' hl' hM
    rw [lm, range_all] at hM
    exact h D ys s' hD U (F.loc U hn') hl' (hM.ints (f := fun i => g (xs.getD i e0) (xs.getD (i + 1) e0)) fun i y q => q)
theorem lw_drop11 : ∃ (ps : List Pos) (cs : List Nat), lwBody 11 = (.Assign [(.Name (Str.ofString "typed") (posN ps 0))] (.ListComp (.Call (.Name (Str.ofString "_strcoll") (posN ps 1)) [(.Name (Str.ofString "one") (posN ps 2)), (.Name (Str.ofString "two") (posN ps 3))] [] (posN ps 4)) [⟨(.Tuple [(.Name (Str.ofString "one") (posN ps 5)), (.Name (Str.ofString "two") (posN ps 6))] (natN cs 0) (posN ps 7)), (.Call (.Name (Str.ofString "zip") (posN ps 8)) [(.Name (Str.ofString "shelf") (posN ps 9)), (.Subscript (.Name (Str.ofString "shelf") (posN ps 10)) (.Slice (some (.Constant (.int 1) (natN cs 1) (posN ps 11))) none none (posN ps 12)) (posN ps 13))] [] (posN ps 14)), [], 0⟩] (mkSc [((Str.ofString ".0"), .local), ((Str.ofString "one"), .local), ((Str.ofString "two"), .local), ((Str.ofString "_strcoll"), .globalImplicit)]) (posN ps 15)) (posN ps 16)) :: lwBody 12 ∧
    (∀ L a b c, swapsWith (.ListComp a [⟨b, c, [], 0⟩] (mkSc [((Str.ofString ".0"), .local), ((Str.ofString "one"), .local), ((Str.ofString "two"), .local), ((Str.ofString "_strcoll"), .globalImplicit)]) (posN ps 15)) (some (.Name (Str.ofString "typed") (posN ps 0))) (posN ps 16).line (lwEnv L) = pure true) :=
   ⟨[_, _, _, _, _, _, _, _, _, _, _, _, _, _, _, _, _], [_, _], rfl, fun L a b c => by kernel_rfl⟩
theorem lw11 {SH : Addr} {vh : List Value} {xs : List Str} {Q : Flow → Shared → Prop} (hr : Room 100 A) (hh : A.handled = none) (F : Lw w s₀ s L m cm) (hS : cm (Str.ofString "shelf") = some (.ref SH)) (hSH : s.heap.PlainList SH vh.toArray) (hvh : StrsAre vh xs) (hlen : xs.length ≤ 1000)
    (h : ∀ D ys s', hs s ≤ D → Upd (fun b => b = L) s s' → Lw w s₀ s' L (setM m (Str.ofString "typed") (.ref D)) cm → s'.heap.PlainList D (List.toArray ys) → IntsAre ys (nbs (fun a b => collOf (tx a) (tx b)) xs) → wpAny (model pw w) A (execs (lwBody 12) (lwEnv L)) Q E s') :
    wpAny (model pw w) A (execs (lwBody 11) (lwEnv L)) Q E s := by
  obtain ⟨ps, cs, he, hsw⟩ := lw_drop11
  rw [he]
  refine nbr_to (c := L + 5) (cl := []) hh F (by kernel_rfl) hS hSH hvh hlen (hsw _ _ _ _) (by kernel_rfl) (by decide +kernel) (by kernel_rfl) (by decide +kernel) (fun C => ⟨compEnv_local (by kernel_rfl) (by kernel_rfl), compEnv_local (by kernel_rfl) (by kernel_rfl)⟩) ?_ h
  intro C s' m' a b ta tb Q E _ _ h1 h2 hns U hq
  have B' := (F.keep0 U).base
  exact callG2 okColl B' (fun P => by kernel_rfl) (nL hns h1 (nL hns h2 ⟨B', strcoll_call (hr.le (by decide)) B' fun k s'' U' => hq k s'' U'⟩))
theorem lw_drop12 : ∃ (ps : List Pos), lwBody 12 = (.Assign [(.Name (Str.ofString "places") (posN ps 0))] (.Call (.Name (Str.ofString "list") (posN ps 1)) [(.Call (.Name (Str.ofString "range") (posN ps 2)) [(.Call (.Name (Str.ofString "len") (posN ps 3)) [(.Name (Str.ofString "shelf") (posN ps 4))] [] (posN ps 5))] [] (posN ps 6))] [] (posN ps 7)) (posN ps 8)) :: lwBody 13 :=
   ⟨[_, _, _, _, _, _, _, _, _], rfl⟩
noncomputable def placesL (n : Nat) : List Int := (List.range n).map fun (i : Nat) => (i : Int)
theorem lw12 {SH : Addr} {vh : List Value} {Q : Flow → Shared → Prop} (hh : A.handled = none) (F : Lw w s₀ s L m cm) (hS : cm (Str.ofString "shelf") = some (.ref SH)) (hSH : s.heap.PlainList SH vh.toArray) (hlen : vh.length ≤ 1000)
    (h : ∀ D ys s', hs s ≤ D → Upd (fun b => b = L) s s' → Lw w s₀ s' L (setM m (Str.ofString "places") (.ref D)) cm → s'.heap.PlainList D (List.toArray ys) → IntsAre ys (placesL vh.length) → wpAny (model pw w) A (execs (lwBody 13) (lwEnv L)) Q E s') :
    wpAny (model pw w) A (execs (lwBody 12) (lwEnv L)) Q E s := by
  obtain ⟨ps, he⟩ := lw_drop12
  rw [he]
  refine asg ?_ (by kernel_rfl)
  refine call_ (trees := [(false, eval _ _)]) (kts := []) rfl rfl ?_
  refine nB (env := lwEnv L) F.base (v := .type "list") (fun P => by kernel_rfl) (fun P => by kernel_rfl) ?_
  refine PyProof.Rows.callWith_type rfl (evalArgs_plain (spliced_cons ?_))
  refine call_ (trees := [(false, eval _ _)]) (kts := []) rfl rfl ?_
  refine nB (env := lwEnv L) F.base (v := .type "range") (fun P => by kernel_rfl) (fun P => by kernel_rfl) ?_
  refine PyProof.Rows.callWith_type rfl (evalArgs_plain (spliced_cons ?_))
  refine callB1 (env := lwEnv L) (id := "len") F.base (fun P => by kernel_rfl) (fun P => by kernel_rfl) (lwC F (c := L + 5) (by kernel_rfl) hS (len_list hSH.isList (by simp; omega) ?_))
  have e1 : ((vh.toArray.size : Nat) : Int) = (vh.length : Nat) := by simp
  rw [e1]
  have U1 : Upd noW s { s with toks := s.toks + 1 + 1 } := .toks
  have F1 := F.keep0 U1
  generalize hT : s.toks + 1 = tk at U1 F1 ⊢
  generalize ({ s with toks := tk + 1 } : Shared) = s₁ at U1 F1 ⊢
  refine spliced_nil (call_range_1 (s := s₁) ?_)
  have U2 : Upd noW s₁ { s₁ with heap := s₁.heap.push { cls := .type "range", data := .fields #[.int 0 s₁.toks, .int ((vh.length : Nat) : Int) tk, .int 1 (s₁.toks + 1)] }, toks := s₁.toks + 1 + 1 } := .push
  have hR : IsRange (s₁.heap.push { cls := .type "range", data := .fields #[.int 0 s₁.toks, .int ((vh.length : Nat) : Int) tk, .int 1 (s₁.toks + 1)] }) s₁.heap.objs.size 0 vh.length 1 s₁.toks tk (s₁.toks + 1) := Heap.get?_push_size _ rfl
  refine spliced_nil ?_
  refine list_of_range (n := vh.length) hh hR (range_small _ hlen) (range0 _) (by omega) fun R ws s₂ h1 h2 U3 l3 i3 => ?_
  have V := (U1.trans U2).trans U3
  have F3 := F.keep0 V
  have e2 : ((List.range vh.length).map fun (i : Nat) => (0 : Int) + i * 1) = placesL vh.length := by
    unfold placesL
    apply List.map_congr_left
    intro i _
    omega
  rw [e2] at i3
  have hR' : hs s ≤ R := Nat.le_trans (U1.trans U2).size h1
  refine sL (env := lwEnv L) F3.ns fun s₃ U4 hn4 => ?_
  exact h R ws s₃ hR' (V.up.trans U4) (F3.loc U4 hn4) (l3.at fun o e => U4.get (Nat.ne_of_gt (Nat.lt_of_lt_of_le (lt_of_ns F.ns) hR')) e) i3
end
end
end Mine
namespace Mine
open PySem PySem.W PySem.Calls PyProof.Rows
noncomputable section
theorem bis_unique {p : Nat → Bool} {n r k : Nat} (hb : Bis p n r) (hk : k ≤ n) (hp : ∀ i, i < n → (p i = true ↔ i < k)) : r = k := by
  obtain ⟨h1, h2, h3⟩ := hb
  have a : r ≤ k := by
    rcases h2 with q | q
    · omega
    · by_cases z : r = 0
      · omega
      · have := (hp (r - 1) (by omega)).mp q; omega
  have b : k ≤ r := by
    rcases h3 with q | q
    · omega
    · by_cases z : r = n
      · omega
      · by_cases y : r < k
        · have := (hp r (by omega)).mpr y; rw [q] at this; cases this
        · omega
  omega
theorem sorted_lt_iff {xs : List Str} (hs : xs.Pairwise ltT) {i k : Nat} {a b : Str} (ha : xs[i]? = some a) (hb : xs[k]? = some b) : tx a < tx b ↔ i < k := by
  have hi : i < xs.length := (List.getElem?_eq_some_iff.mp ha).1
  have hk : k < xs.length := (List.getElem?_eq_some_iff.mp hb).1
  rw [List.getElem?_eq_getElem hi] at ha
  rw [List.getElem?_eq_getElem hk] at hb
  cases ha; cases hb
  have pw' := List.pairwise_iff_getElem.mp hs
  refine ⟨fun h => ?_, fun h => pw' i k hi hk h⟩
  by_cases q : i < k
  · exact q
  · by_cases e : i = k
    · subst e; exact absurd h (List.lt_irrefl _)
    · exact absurd (List.lt_trans h (pw' k i hk hi (by omega))) (List.lt_irrefl _)
section
variable {w : World} {A : Around} {s s' s₀ : Shared} {L : Addr} {m cm : Str → Option Value} {E : Value → Shared → Prop} {env : Env}
theorem bis_left_str {a : Addr} {vs : List Value} {xs : List Str} {x : Str} {t : Tok} {k : Nat} {Q : Value → Shared → Prop} (hr : Room 10 A) (B : Base w s.heap) (hl : s.heap.PlainList a vs.toArray) (hv : StrsAre vs xs) (hz : xs.length ≤ 10000) (hk : k ≤ xs.length) (hp : ∀ i y, xs[i]? = some y → (tx y < tx x ↔ i < k))
    (h : ∀ t' s', Upd noW s s' → Q (.int (k : Int) t') s') : wpAny (model pw w) A (call (.ref 114) [.ref a, .str x t] []) Q E s := by
  have len := StrsAre.len hv
  refine bl_none (args := ⟨[.ref a, .str x t], []⟩) (p := fun i => decide (tx (xs.getD i e0) < tx x)) hr B (bl_bind2 B) hl.isList (by simp; omega) (fun i hi => ?_) fun r t' s' U hb => ?_
  · obtain ⟨y, u, h1, h2⟩ := StrsAre.get' hv (i := i) (by simpa using hi)
    exact ⟨y, u, by simpa using h1, by rw [List.getD_eq_getElem?_getD, h2]; rfl⟩
  · have e : vs.toArray.size = xs.length := by simp [len]
    rw [e] at hb
    have := bis_unique hb hk fun i hi => by
      rw [decide_eq_true_iff, List.getD_eq_getElem?_getD, List.getElem?_eq_getElem hi]
      exact hp i _ (List.getElem?_eq_getElem hi)
    subst this
    exact h t' s' U
theorem bis_right_str {a : Addr} {vs : List Value} {xs : List Str} {x : Str} {t : Tok} {k : Nat} {Q : Value → Shared → Prop} (hr : Room 10 A) (B : Base w s.heap) (hl : s.heap.PlainList a vs.toArray) (hv : StrsAre vs xs) (hz : xs.length ≤ 10000) (hk : k ≤ xs.length) (hp : ∀ i y, xs[i]? = some y → (¬ tx x < tx y ↔ i < k))
    (h : ∀ t' s', Upd noW s s' → Q (.int (k : Int) t') s') : wpAny (model pw w) A (call (.ref 96) [.ref a, .str x t] []) Q E s := by
  have len := StrsAre.len hv
  refine br_none (args := ⟨[.ref a, .str x t], []⟩) (p := fun i => !decide (tx x < tx (xs.getD i e0))) hr B (br_bind2 B) hl.isList (by simp; omega) (fun i hi => ?_) fun r t' s' U hb => ?_
  · obtain ⟨y, u, h1, h2⟩ := StrsAre.get' hv (i := i) (by simpa using hi)
    exact ⟨y, u, by simpa using h1, by rw [List.getD_eq_getElem?_getD, h2]; simp⟩
  · have e : vs.toArray.size = xs.length := by simp [len]
    rw [e] at hb
    have := bis_unique hb hk fun i hi => by
      rw [List.getD_eq_getElem?_getD, List.getElem?_eq_getElem hi]
      simp only [Bool.not_eq_true', decide_eq_false_iff_not]
      exact hp i _ (List.getElem?_eq_getElem hi)
    subst this
    exact h t' s' U
/-- by a key -/
theorem bis_left_key {a ka : Addr} {dom : Value → List Nat → Prop} {f : Str → List Nat} {vs : List Value} {xs : List Str} {x : Str} {t : Tok} {k : Nat} {Q : Value → Shared → Prop} (hr : Room 40 A) (B : Base w s.heap) (hl : s.heap.PlainList a vs.toArray) (hv : StrsAre vs xs) (hz : xs.length ≤ 10000) (K : KeySpec w s ka dom) (hd : ∀ y u, y ∈ xs → dom (.str y u) (f y)) (hk : k ≤ xs.length) (hp : ∀ i y, xs[i]? = some y → (f y < tx x ↔ i < k))
    (h : ∀ t' s', Upd noW s s' → Q (.int (k : Int) t') s') : wpAny (model pw w) A (call (.ref 114) [.ref a, .str x t] [(Str.ofString "key", .ref ka)]) Q E s := by
  have len := StrsAre.len hv
  refine bl_key (args := ⟨[.ref a, .str x t], [(Str.ofString "key", .ref ka)]⟩) (ks := fun i => f (xs.getD i e0)) (p := fun i => decide (f (xs.getD i e0) < tx x)) (hr.le (by decide)) B (bl_bind2k B) hl.isList (by simp; omega) (fun env => ?_) (fun i hi => rfl) fun r t' s' U hb => ?_
  · refine K.ok ((hr.le (n := 40) (k := 21) (by decide)).deeper env) fun i hi => ?_
    obtain ⟨y, u, h1, h2⟩ := StrsAre.get' hv (i := i) hi
    rw [List.getElem?_eq_getElem hi] at h1
    have e := Option.some.inj h1
    rw [e, List.getD_eq_getElem?_getD, h2]
    exact hd y u (List.mem_of_getElem? h2)
  · have e : vs.toArray.size = xs.length := by simp [len]
    rw [e] at hb
    have := bis_unique hb hk fun i hi => by
      rw [decide_eq_true_iff, List.getD_eq_getElem?_getD, List.getElem?_eq_getElem hi]
      exact hp i _ (List.getElem?_eq_getElem hi)
    subst this
    exact h t' s' U
theorem bis_right_key {a ka : Addr} {dom : Value → List Nat → Prop} {f : Str → List Nat} {vs : List Value} {xs : List Str} {x : Str} {t : Tok} {k : Nat} {Q : Value → Shared → Prop} (hr : Room 40 A) (B : Base w s.heap) (hl : s.heap.PlainList a vs.toArray) (hv : StrsAre vs xs) (hz : xs.length ≤ 10000) (K : KeySpec w s ka dom) (hd : ∀ y u, y ∈ xs → dom (.str y u) (f y)) (hk : k ≤ xs.length) (hp : ∀ i y, xs[i]? = some y → (¬ tx x < f y ↔ i < k))
    (h : ∀ t' s', Upd noW s s' → Q (.int (k : Int) t') s') : wpAny (model pw w) A (call (.ref 96) [.ref a, .str x t] [(Str.ofString "key", .ref ka)]) Q E s := by
  have len := StrsAre.len hv
  refine br_key (args := ⟨[.ref a, .str x t], [(Str.ofString "key", .ref ka)]⟩) (ks := fun i => f (xs.getD i e0)) (p := fun i => !decide (tx x < f (xs.getD i e0))) (hr.le (by decide)) B (br_bind2k B) hl.isList (by simp; omega) (fun env => ?_) (fun i hi => by simp) fun r t' s' U hb => ?_
  · refine K.ok ((hr.le (n := 40) (k := 21) (by decide)).deeper env) fun i hi => ?_
    obtain ⟨y, u, h1, h2⟩ := StrsAre.get' hv (i := i) hi
    rw [List.getElem?_eq_getElem hi] at h1
    have e := Option.some.inj h1
    rw [e, List.getD_eq_getElem?_getD, h2]
    exact hd y u (List.mem_of_getElem? h2)
  · have e : vs.toArray.size = xs.length := by simp [len]
    rw [e] at hb
    have := bis_unique hb hk fun i hi => by
      rw [List.getD_eq_getElem?_getD, List.getElem?_eq_getElem hi]
      simp only [Bool.not_eq_true', decide_eq_false_iff_not]
      exact hp i _ (List.getElem?_eq_getElem hi)
    subst this
    exact h t' s' U
end
end
end Mine
namespace Mine
open PySem PySem.W PySem.Calls PyProof.Rows
noncomputable section
theorem intsAre_rep {x : Int} {t : Tok} : ∀ n, IntsAre (List.replicate n (Value.int x t)) (List.replicate n x)
  | 0 => .nil
  | n + 1 => .cons x t (intsAre_rep n)
theorem nbs_sorted {xs : List Str} (hs : xs.Pairwise ltT) : nbs (fun a b => collOf (tx a) (tx b)) xs = List.replicate (xs.length - 1) (-1) := by
  unfold nbs
  apply List.ext_getElem
  · simp
  · intro i h1 h2
    simp only [List.length_map, List.length_range] at h1
    have a1 : i < xs.length := by omega
    have a2 : i + 1 < xs.length := by omega
    simp only [List.getElem_map, List.getElem_range, List.getElem_replicate, List.getD_eq_getElem?_getD, List.getElem?_eq_getElem a1, List.getElem?_eq_getElem a2, Option.getD_some]
    exact collOf_lt (List.pairwise_iff_getElem.mp hs i (i + 1) a1 a2 (by omega))
section
variable {w : World} {A : Around} {s s' s₀ : Shared} {L : Addr} {m cm : Str → Option Value} {E : Value → Shared → Prop} {env : Env}
theorem minus_one {c : Nat} {p2 p3 : Pos} {Q : Value → Shared → Prop} (h : ∀ v k, v = .int (-1) (s.toks + 1) → Q v { s with toks := k }) : wpAny (model pw w) A (eval (.UnaryOp .USub (.Constant (.int 1) c p2) p3) env) Q E s :=
  wpAny_UnaryOp (wpAny_Constant_int (k := 0) (pos := p0) (neg_int (h _ _ rfl)))
/-- a comprehension of ints over a list of texts -/
theorem int_comp {elt iter : Expr} {scope : Scope} {cl : List (Str × Addr)} {x : Str} {px pos : Pos} {l : Addr} {vs : List Value} {xs : List Str} {f : Nat → Int} {Q : Value → Shared → Prop} (hh : A.handled = none) (hl : s.heap.PlainList l vs.toArray) (hv : StrsAre vs xs) (hlen : xs.length ≤ 1000)
    (hclos : closureFor scope env = pure cl) (hcell : ∀ y ∈ scope.names, y.2 ≠ .cell) (hkind : scope.kind = .function) (hnames : ∀ y ∈ scope.names, y.2 = .local → scope.names.lookup y.1 = some .local) (okC : ∀ C, LocEnv x (compEnvC scope cl C env))
    (hit : ∀ (Q : Value → Shared → Prop) (E : Value → Shared → Prop), Q (.ref l) s → wpAny (model pw w) A (eval iter env) Q E s)
    (hel : ∀ C s' m' i y t (Q : Value → Shared → Prop) (E : Value → Shared → Prop), xs[i]? = some y → m' x = some (.str y t) → s'.heap.Ns C m' → Upd noW s s' → (∀ t s'', Upd noW s' s'' → Q (.int (f i) t) s'') → wpAny (model pw w) A (eval elt (compEnvC scope cl C env)) Q E s')
    (h : ∀ D ys s', hs s ≤ D → Upd noW s s' → s'.heap.PlainList D (List.toArray ys) → IntsAre ys ((List.range xs.length).map f) → Q (.ref D) s')
    (hfs : ∀ x, foldedSetIterable iter env x = pure x := by intro _; rfl) :
    wpAny (model pw w) A (eval (.ListComp elt [⟨.Name x px, iter, [], 0⟩] scope pos) env) Q E s := by
  have len := StrsAre.len hv
  refine comp_v hclos hcell hkind hnames ?_ hfs
  refine hit _ _ (pure_list hh (.refl _ _) hl (by omega) okC (fun _ => true) (fun i y => ∃ t, y = .int (f i) t) ?_ ?_ ?_)
  · intro C i v s' m' E' hi U hns hm
    exact wpAny_tests_nil ⟨rfl, .refl _ _⟩
  · intro C i v s' m' E' hi _ U hns hm
    obtain ⟨y, t, hy, rfl⟩ := StrsAre.at' hv hi
    exact hel C s' m' i y t _ _ hy hm hns U fun t' s'' U' => ⟨⟨t', rfl⟩, U'⟩
  · intro D ys s' hD U hl' hM
    rw [range_all, len] at hM
    exact h D ys s' hD U hl' (hM.ints fun i y q => q)
theorem lw_drop13 : ∃ (ps : List Pos) (cs : List Nat), lwBody 13 = (.If (.BoolOp .Or [(.Compare (.Name (Str.ofString "typed") (posN ps 0)) [.NotEq] [(.BinOp (.List [(.UnaryOp .USub (.Constant (.int 1) (natN cs 0) (posN ps 1)) (posN ps 2))] (posN ps 3)) .Mult (.Call (.Name (Str.ofString "len") (posN ps 4)) [(.Name (Str.ofString "typed") (posN ps 5))] [] (posN ps 6)) (posN ps 7))] (posN ps 8)), (.Compare (.ListComp (.Call (.Name (Str.ofString "bisect_left") (posN ps 9)) [(.Name (Str.ofString "shelf") (posN ps 10)), (.Name (Str.ofString "text") (posN ps 11))] [] (posN ps 12)) [⟨(.Name (Str.ofString "text") (posN ps 13)), (.Name (Str.ofString "shelf") (posN ps 14)), [], 0⟩] (mkSc [((Str.ofString ".0"), .local), ((Str.ofString "text"), .local), ((Str.ofString "bisect_left"), .globalImplicit), ((Str.ofString "shelf"), .free)]) (posN ps 15)) [.NotEq] [(.Name (Str.ofString "places") (posN ps 16))] (posN ps 17))] (posN ps 18)) [(.Return (some (.Constant (.bool false) (natN cs 1) (posN ps 19))) (posN ps 20))] [] (posN ps 21)) :: lwBody 14 :=
   ⟨[_, _, _, _, _, _, _, _, _, _, _, _, _, _, _, _, _, _, _, _, _, _], [_, _], rfl⟩
theorem lw13 {SH TY PL : Addr} {vh vy vp : List Value} {xs : List Str} {Q : Flow → Shared → Prop} (hr : Room 100 A) (hh : A.handled = none) (F : Lw w s₀ s L m cm) (hS : cm (Str.ofString "shelf") = some (.ref SH)) (hT : m (Str.ofString "typed") = some (.ref TY)) (hP : m (Str.ofString "places") = some (.ref PL))
    (hSH : s.heap.PlainList SH vh.toArray) (hvh : StrsAre vh xs) (hxs : xs.Pairwise ltT) (hlen : xs.length ≤ 1000) (hTY : s.heap.PlainList TY vy.toArray) (hvy : IntsAre vy (nbs (fun a b => collOf (tx a) (tx b)) xs)) (hPL : s.heap.PlainList PL vp.toArray) (hvp : IntsAre vp (placesL xs.length))
    (h : ∀ s', Upd noW s s' → Lw w s₀ s' L m cm → wpAny (model pw w) A (execs (lwBody 14) (lwEnv L)) Q E s') :
    wpAny (model pw w) A (execs (lwBody 13) (lwEnv L)) Q E s := by
  obtain ⟨ps, cs, he⟩ := lw_drop13
  rw [he]
  rw [nbs_sorted hxs] at hvy
  have ly := IntsAre.len hvy
  rw [List.length_replicate] at ly
  refine if_or2 (isT_cmp (lwL F hT ?_))
  refine rep_len (x := .int (-1) (s.toks + 1)) F hT hTY (by omega) (fun Q E hq => minus_one hq) (by with_unfolding_all rfl) (by kernel_rfl) (by kernel_rfl) fun D s₁ hD U1 l1 => ?_
  rw [ly] at l1
  refine ne_ints (hTY.at fun o e => U1.get id e) l1 hvy (intsAre_rep _) (hr.le (by decide)) ⟨false, by simp, rfl, ?_⟩
  have F1 := F.keep0 U1
  have hcell := hS ▸ F1.cells (Str.ofString "shelf") (L + 5) (by kernel_rfl)
  have hSH1 : s₁.heap.PlainList SH vh.toArray := hSH.at fun o e => U1.get id e
  refine isT_cmp ?_
  refine int_comp (cl := [(Str.ofString "shelf", L + 5)]) (l := SH) (f := fun i => (i : Int)) hh hSH1 hvh hlen (by kernel_rfl) (by decide +kernel) (by kernel_rfl) (by decide +kernel) (fun C => compEnv_local (by kernel_rfl) (by kernel_rfl)) (fun Q E hq => lwC F1 (c := L + 5) (by kernel_rfl) hS hq) ?_ ?_
  · intro C s' m' i y t Q E hy hm hns U hq
    have B' := (F1.keep0 U).base
    refine callG2 okBL B' (fun P => by kernel_rfl) ?_
    refine nC (c := L + 5) (by kernel_rfl) (IsCell.at' hcell fun o e => U.get id e) ?_
    refine nL hns hm ⟨B', ?_⟩
    exact bis_left_str (k := i) (hr.le (by decide)) B' (hSH1.at fun o e => U.get id e) hvh (by omega) (Nat.le_of_lt (List.getElem?_eq_some_iff.mp hy).1) (fun j z hz => sorted_lt_iff hxs hz hy) fun t' s'' U' => hq t' s'' U'
  · intro D2 ys s₂ hD2 U2 l2 v2
    refine lwL (F1.keep0 U2) hP ?_
    have V := U1.trans U2
    refine ne_ints l2 (hPL.at fun o e => V.get id e) v2 hvp (hr.le (by decide)) ⟨false, by simp [placesL], rfl, ?_⟩
    exact h s₂ V (F1.keep0 U2)
theorem lw_drop14 : ∃ (ps : List Pos) (cs : List Nat), lwBody 14 = (.If (.Compare (.ListComp (.Call (.Name (Str.ofString "bisect_right") (posN ps 0)) [(.Name (Str.ofString "shelf") (posN ps 1)), (.Name (Str.ofString "text") (posN ps 2))] [] (posN ps 3)) [⟨(.Name (Str.ofString "text") (posN ps 4)), (.Name (Str.ofString "shelf") (posN ps 5)), [], 0⟩] (mkSc [((Str.ofString ".0"), .local), ((Str.ofString "text"), .local), ((Str.ofString "bisect_right"), .globalImplicit), ((Str.ofString "shelf"), .free)]) (posN ps 6)) [.NotEq] [(.ListComp (.BinOp (.Name (Str.ofString "place") (posN ps 7)) .Add (.Constant (.int 1) (natN cs 0) (posN ps 8)) (posN ps 9)) [⟨(.Name (Str.ofString "place") (posN ps 10)), (.Name (Str.ofString "places") (posN ps 11)), [], 0⟩] (mkSc [((Str.ofString ".0"), .local), ((Str.ofString "place"), .local)]) (posN ps 12))] (posN ps 13)) [(.Return (some (.Constant (.bool false) (natN cs 1) (posN ps 14))) (posN ps 15))] [] (posN ps 16)) :: lwBody 15 :=
   ⟨[_, _, _, _, _, _, _, _, _, _, _, _, _, _, _, _, _], [_, _], rfl⟩
noncomputable def places1 (n : Nat) : List Int := (List.range n).map fun (i : Nat) => (i : Int) + 1
/-- [place + 1 for place in places] -/
theorem plus_comp {PL : Addr} {vp : List Value} {n c8 : Nat} {p7 p9 p10 p11 p12 p13 : Pos} {Q : Value → Shared → Prop} (hh : A.handled = none) (F : Lw w s₀ s L m cm) (hP : m (Str.ofString "places") = some (.ref PL)) (hPL : s.heap.PlainList PL vp.toArray) (hvp : IntsAre vp (placesL n)) (hn : n ≤ 1000)
    (h : ∀ D ys s', hs s ≤ D → Upd noW s s' → s'.heap.PlainList D (List.toArray ys) → IntsAre ys (places1 n) → Q (.ref D) s') :
    wpAny (model pw w) A (eval (.ListComp (.BinOp (.Name (Str.ofString "place") p7) .Add (.Constant (.int 1) c8 p9) p10) [⟨(.Name (Str.ofString "place") p11), (.Name (Str.ofString "places") p12), [], 0⟩] (mkSc [((Str.ofString ".0"), .local), ((Str.ofString "place"), .local)]) p13) (lwEnv L)) Q E s := by
  have lp := IntsAre.len hvp
  have ln : (placesL n).length = n := by simp [placesL]
  refine comp_v (cl := []) (by kernel_rfl) (by decide +kernel) (by kernel_rfl) (by decide +kernel) ?_
  refine lwL F hP (pure_list hh (.refl _ _) hPL (by omega) (fun C => compEnv_local (by kernel_rfl) (by kernel_rfl)) (fun _ => true) (fun i y => ∃ t, y = .int ((i : Int) + 1) t) ?_ ?_ ?_)
  · intro C i v s' m' E' hi U hns hm
    exact wpAny_tests_nil ⟨rfl, .refl _ _⟩
  · intro C i v s' m' E' hi _ U hns hm
    obtain ⟨k, t, hk, rfl⟩ := IntsAre.at' hvp hi
    have hk' : k = (i : Int) := by
      unfold placesL at hk
      rw [List.getElem?_map] at hk
      obtain ⟨j, hj, rfl⟩ := Option.map_eq_some_iff.mp hk
      rw [List.getElem?_eq_some_iff] at hj
      obtain ⟨_, e⟩ := hj
      rw [List.getElem_range] at e
      rw [e]
    subst hk'
    exact wpAny_BinOp (nL hns hm (wpAny_Constant_int (k := 0) (pos := p0) (add_int ⟨⟨_, rfl⟩, .toks⟩)))
  · intro D ys s' hD U hl' hM
    rw [range_all, lp, ln] at hM
    exact h D ys s' hD U hl' (hM.ints fun i y q => q)
theorem lw14 {SH PL : Addr} {vh vp : List Value} {xs : List Str} {Q : Flow → Shared → Prop} (hr : Room 100 A) (hh : A.handled = none) (F : Lw w s₀ s L m cm) (hS : cm (Str.ofString "shelf") = some (.ref SH)) (hP : m (Str.ofString "places") = some (.ref PL))
    (hSH : s.heap.PlainList SH vh.toArray) (hvh : StrsAre vh xs) (hxs : xs.Pairwise ltT) (hlen : xs.length ≤ 1000) (hPL : s.heap.PlainList PL vp.toArray) (hvp : IntsAre vp (placesL xs.length))
    (h : ∀ s', Upd noW s s' → Lw w s₀ s' L m cm → wpAny (model pw w) A (execs (lwBody 15) (lwEnv L)) Q E s') :
    wpAny (model pw w) A (execs (lwBody 14) (lwEnv L)) Q E s := by
  obtain ⟨ps, cs, he⟩ := lw_drop14
  rw [he]
  refine if_1 (isT_cmp ?_)
  have hcell := hS ▸ F.cells (Str.ofString "shelf") (L + 5) (by kernel_rfl)
  refine int_comp (cl := [(Str.ofString "shelf", L + 5)]) (l := SH) (f := fun i => (i : Int) + 1) hh hSH hvh hlen (by kernel_rfl) (by decide +kernel) (by kernel_rfl) (by decide +kernel) (fun C => compEnv_local (by kernel_rfl) (by kernel_rfl)) (fun Q E hq => lwC F (c := L + 5) (by kernel_rfl) hS hq) ?_ ?_
  · intro C s' m' i y t Q E hy hm hns U hq
    have B' := (F.keep0 U).base
    refine callG2 okBR B' (fun P => by kernel_rfl) ?_
    refine nC (c := L + 5) (by kernel_rfl) (IsCell.at' hcell fun o e => U.get id e) ?_
    refine nL hns hm ⟨B', ?_⟩
    exact bis_right_str (k := i + 1) (hr.le (by decide)) B' (hSH.at fun o e => U.get id e) hvh (by omega) (List.getElem?_eq_some_iff.mp hy).1 (fun j z hz => by
      have := sorted_lt_iff hxs hy hz
      constructor
      · intro q; have : ¬ i < j := fun r => q (this.mpr r); omega
      · intro q r; have := this.mp r; omega) fun t' s'' U' => hq t' s'' U'
  · intro D2 ys s₂ hD2 U2 l2 v2
    refine plus_comp hh (F.keep0 U2) hP (hPL.at fun o e => U2.get id e) hvp hlen fun D3 zs' s₃ hD3 U3 l3 v3 => ?_
    refine ne_ints (l2.at fun o e => U3.get id e) l3 v2 v3 (hr.le (by decide)) ⟨false, by simp [places1], rfl, ?_⟩
    exact h s₃ (U2.trans U3) (F.keep0 (U2.trans U3))
end
end
end Mine
namespace Mine
open PySem PySem.W PySem.Calls PyProof.Rows
noncomputable section
/-- a table with the texts as keys, in their order -/
inductive KVr (R : Str → Value → Prop) : KVs → List Str → Prop
  | nil : KVr R [] []
  | snoc {kvs xs x v} : KVr R kvs xs → R x v → KVr R (kvs ++ [(x, v)]) (xs ++ [x])
theorem KVr.keys {R : Str → Value → Prop} {kvs : KVs} {xs : List Str} (h : KVr R kvs xs) : kvs.map (·.1) = xs := by
  induction h with
  | nil => rfl
  | snoc _ _ ih => simp [ih]
theorem KVr.imp {R R' : Str → Value → Prop} (k : ∀ x v, R x v → R' x v) {kvs : KVs} {xs : List Str} (h : KVr R kvs xs) : KVr R' kvs xs := by
  induction h with
  | nil => exact .nil
  | snoc _ r ih => exact .snoc ih (k _ _ r)
theorem KVr.store {R : Str → Value → Prop} {kvs : KVs} {xs : List Str} (h : KVr R kvs xs) {x : Str} {v : Value} (hx : x ∉ xs) (r : R x v) : KVr R (stored kvs x v) (xs ++ [x]) := by
  rw [stored_fresh (by rw [h.keys]; exact hx)]
  exact .snoc h r
theorem KVr.at' {R : Str → Value → Prop} {kvs : KVs} {xs : List Str} (h : KVr R kvs xs) (hn : xs.Nodup) {x : Str} (hx : x ∈ xs) : ∃ v, valueAt kvs x = some v ∧ R x v := by
  induction h with
  | nil => cases hx
  | @snoc kvs xs y v hk r ih =>
    rw [List.nodup_append] at hn
    rcases List.mem_append.mp hx with hx | hx
    · obtain ⟨v', h1, h2⟩ := ih hn.1 hx
      refine ⟨v', ?_, h2⟩
      unfold valueAt at h1 ⊢
      rw [List.find?_append]
      cases hf : kvs.find? (fun kv => decide (kv.1 = x)) with
      | none => rw [hf] at h1; cases h1
      | some kv => rw [hf] at h1; exact h1
    · rw [List.mem_singleton.mp hx]
      refine ⟨v, ?_, r⟩
      unfold valueAt
      rw [List.find?_append]
      have : kvs.find? (fun kv => decide (kv.1 = y)) = none := by
        rw [List.find?_eq_none]
        intro kv hkv e
        have hm : kv.1 ∈ kvs.map (·.1) := List.mem_map_of_mem hkv
        rw [hk.keys, of_decide_eq_true e] at hm
        exact hn.2.2 y hm y (by simp) rfl
      rw [this]
      simp
theorem nodup_take {xs : List Str} {i : Nat} {x : Str} (hn : xs.Nodup) (h : xs[i]? = some x) : x ∉ xs.take i ∧ xs.take (i + 1) = xs.take i ++ [x] := by
  have e : xs.take (i + 1) = xs.take i ++ [x] := by rw [List.take_add_one, h]; rfl
  have hn' : (xs.take (i + 1)).Nodup := hn.sublist (List.take_sublist _ _)
  rw [e, List.nodup_append] at hn'
  exact ⟨fun hm => hn'.2.2 _ hm _ (by simp) rfl, e⟩
theorem sorted_nodup {xs : List Str} (h : xs.Pairwise ltT) : xs.Nodup := h.imp fun {a b} q e => by subst e; exact List.lt_irrefl _ q
noncomputable def RdyAt (x : Str) (v : Value) : Prop := ∃ y u, v = .str y u ∧ tx y = prep (tx x)
section
variable {w : World} {A : Around} {s s' s₀ : Shared} {L : Addr} {m cm : Str → Option Value} {E : Value → Shared → Prop} {env : Env}
theorem lw_drop15 : ∃ (ps : List Pos), lwBody 15 = (.Assign [(.Name (Str.ofString "ready") (posN ps 0))] (.DictComp (.Name (Str.ofString "text") (posN ps 1)) (.Call (.Name (Str.ofString "_law_prepared") (posN ps 2)) [(.Name (Str.ofString "text") (posN ps 3))] [] (posN ps 4)) [⟨(.Name (Str.ofString "text") (posN ps 5)), (.Name (Str.ofString "shelf") (posN ps 6)), [], 0⟩] (mkSc [((Str.ofString ".0"), .local), ((Str.ofString "text"), .local), ((Str.ofString "_law_prepared"), .globalImplicit)]) (posN ps 7)) (posN ps 8)) :: lwBody 16 :=
   ⟨[_, _, _, _, _, _, _, _, _], rfl⟩
theorem lw15 {SH : Addr} {vh : List Value} {xs : List Str} {Q : Flow → Shared → Prop} (hr : Room 100 A) (hh : A.handled = none) (F : Lw w s₀ s L m cm) (hS : cm (Str.ofString "shelf") = some (.ref SH)) (hSH : s.heap.PlainList SH vh.toArray) (hvh : StrsAre vh xs) (hnd : xs.Nodup) (hlen : xs.length ≤ 1000) (hz : ∀ x ∈ xs, x.cps.size ≤ 10000)
    (h : ∀ D kvs s', hs s ≤ D → Upd (fun b => b = L + 8) s s' → Lw w s₀ s' L m (setM cm (Str.ofString "ready") (.ref D)) → s'.heap.DictOf (sk w) D kvs → KVr RdyAt kvs xs → wpAny (model pw w) A (execs (lwBody 16) (lwEnv L)) Q E s') :
    wpAny (model pw w) A (execs (lwBody 15) (lwEnv L)) Q E s := by
  obtain ⟨ps, he⟩ := lw_drop15
  rw [he]
  have len := StrsAre.len hvh
  refine asg ?_ (by kernel_rfl)
  refine dict_comp (cl := []) (by kernel_rfl) (by decide +kernel) (by kernel_rfl) (by decide +kernel) ?_
  refine lwC F (c := L + 5) (by kernel_rfl) hS ?_
  refine iter_list hh hSH fun I St s₁ hI1 hI2 hl U1 Fd st => ?_
  refine ⟨[I, SH], [I], vh.length, St, _, _, noW, fun C D i ys s' => KVr RdyAt ys (xs.take i), Fd _ _, by omega, st, ?_, fun C => compEnv_local (by kernel_rfl) (by kernel_rfl), fun b q => q.elim, ?_, ?_, ?_, ?_⟩
  · intro b hb
    rcases List.mem_cons.mp hb with e | hb
    · exact e ▸ hI2
    · rw [List.mem_singleton.mp hb]; exact Nat.lt_of_lt_of_le hl U1.size
  · intro C D s' _ _ _ _; rw [List.take_zero]; exact .nil
  · intro C D i ys s s' hO _; exact hO
  · rintro C D i ys s₂ m₁ m₂ E' hC hD hCD hi hO ⟨v, hvi, rfl⟩ hns hl2 U2
    obtain ⟨x, t, hx, rfl⟩ := StrsAre.at' hvh hvi
    have V2 : Upd noW s s₂ := U1.then_fresh (U2.mono fun b q => q.elim (fun q => q.elim) fun q => .inr (by rw [List.mem_singleton.mp q]; exact hI1))
    have B2 := (F.keep0 V2).base
    have nt := nodup_take hnd hx
    refine wpAny_tests_nil ?_
    simp only [if_true]
    refine nL hns (v := .str x t) (if_pos rfl) ?_
    refine callG1 okPrep B2 (fun P => by kernel_rfl) (nL hns (v := .str x t) (if_pos rfl) ⟨B2, prep_call (hr.le (by decide)) hh B2 (hz x (List.mem_of_getElem? hx)) fun y k s₃ U3 hy => ⟨x, PySem.strKind_is pw w _ _, U3, ?_⟩⟩)
    rw [nt.2]
    exact hO.store nt.1 ⟨y, k, rfl, hy⟩
  · intro C D ys s₂ m₂ hC hD hCD hO hy hl2 hns U2
    have V2 : Upd noW s s₂ := U1.then_fresh (U2.mono fun b q => q.elim (fun q => .inl q) fun q => .inr (by rw [List.mem_singleton.mp q]; exact hI1))
    refine ⟨⟨m₂, hns⟩, fun s₃ U3 => ?_⟩
    have hsC : hs s ≤ C := Nat.le_trans U1.size hC
    have V3 : Upd noW s s₃ := V2.then_fresh (U3.mono fun b q => .inr (q ▸ hsC))
    have sD : hs s ≤ D := Nat.le_trans U1.size hD
    rw [len, List.take_length] at hO
    refine sC (F.keep0 V3) (c := L + 8) (by kernel_rfl) fun s₄ U4 F4 => ?_
    refine h D ys s₄ sD (V3.up.trans U4) F4 ((hl2.at fun o e => U3.get (fun q => hCD q.symm) e).at fun o e => U4.get (fun q => ?_) e) hO
    have := Nat.le_trans F.low sD
    rw [q] at this
    exact absurd this (Nat.not_le.mpr (Nat.add_lt_add_left (by decide) _))
end
end
end Mine
namespace Mine
open PySem PySem.W PySem.Calls PyProof.Rows
noncomputable section
noncomputable abbrev wd (c : Nat) : List Nat := prep [c]
theorem prep_flat : ∀ l : List Nat, prep l = (l.map wd).flatten
  | [] => rfl
  | c :: r => by
    have ih := prep_flat r
    show prep (c :: r) = prep [c] ++ (r.map wd).flatten
    rw [← ih]
    unfold prep
    by_cases q : inB1 c = true
    · simp [q]
    · simp [q]
theorem Made2.words {G : Nat → Value → Prop} {g : Nat → List Nat} {is : List Nat} {ys : List Value} (h : Made2 G is ys) (hG : ∀ i y, G i y → ∃ z t, y = .str z t ∧ tx z = g i) : ∃ zs, StrsAre ys zs ∧ zs.map tx = is.map g := by
  induction h with
  | nil => exact ⟨[], .nil, rfl⟩
  | snoc _ q ih =>
    obtain ⟨zs, h1, h2⟩ := ih
    obtain ⟨z, t, rfl, e⟩ := hG _ _ q
    exact ⟨zs ++ [z], StrsAre.snoc h1, by rw [List.map_append, List.map_append, h2]; simp [e]⟩
section
variable {w : World} {A : Around} {s s' s₀ : Shared} {L : Addr} {m cm : Str → Option Value} {E : Value → Shared → Prop} {env : Env}
theorem pure_str {x : Str} {px : Pos} {elt : Expr} {ifs : List Expr} {scope : Scope} {cl : List (Str × Addr)} {s₀ : Shared} {z : Str} {t : Tok} {fin : Nat → (Nat → Bool) → (Nat → Value → Prop) → Prop} (hh : A.handled = none) (U : Upd noW s₀ s) (hn : z.cps.size ≤ 10000)
    (okC : ∀ C, LocEnv x (compEnvC scope cl C env)) (p : Nat → Bool) (G : Nat → Value → Prop)
    (test : ∀ C i c u s' m' (E' : Value → Shared → Prop), (tx z)[i]? = some c → Upd noW s₀ s' → s'.heap.Ns C m' → m' x = some (.str (ch c) u) → wpAny (model pw w) A (testsOf ifs (compEnvC scope cl C env)) (fun t s'' => t = p i ∧ Upd noW s' s'') E' s')
    (make : ∀ C i c u s' m' (E' : Value → Shared → Prop), (tx z)[i]? = some c → p i = true → Upd noW s₀ s' → s'.heap.Ns C m' → m' x = some (.str (ch c) u) → wpAny (model pw w) A (eval elt (compEnvC scope cl C env)) (fun y s'' => G i y ∧ Upd noW s' s'') E' s')
    (hfin : fin z.cps.size p G) :
    wpAny (model pw w) A (pyIter (.str z t)) (fun it s₂ => Pure w A env (.Name x px) elt ifs scope cl s₀ it s₂ fin) E s := by
  refine wpAny_pyIter_str fun o St W st => ?_
  have U₁ : Upd noW s { s with heap := s.heap.push o } := Upd.push (t := s.toks)
  refine ⟨_, _, _, _, _, _, p, G, Feed.ofWalks (x := x) (px := px) (W _ hh), hn, st, fun b hb => ?_, okC, fun b hb => ?_, U.trans U₁, fun C i s' m m' E' hi U2 hns hB => ?_, fun C i s' m m' E' hi hp U2 hns hB => ?_, hfin⟩
  · rw [List.mem_singleton.mp hb]
    show s.heap.objs.size < (s.heap.push o).objs.size
    rw [Heap.size_push]; exact Nat.lt_succ_self _
  · rw [List.mem_singleton.mp hb]; exact U.size
  · obtain ⟨v, ⟨c, u, hc, rfl⟩, rfl⟩ := hB
    exact test C i c u s' _ E' (by simpa using hc) U2 hns (if_pos rfl)
  · obtain ⟨v, ⟨c, u, hc, rfl⟩, rfl⟩ := hB
    exact make C i c u s' _ E' (by simpa using hc) hp U2 hns (if_pos rfl)
end
end
end Mine
namespace Mine
open PySem PySem.W PySem.Calls PyProof.Rows
noncomputable section
section
variable {w : World} {A : Around} {s s' s₀ : Shared} {L : Addr} {m cm : Str → Option Value} {E : Value → Shared → Prop} {env : Env}
noncomputable abbrev sc16i : Scope := mkSc [((Str.ofString ".0"), .local), ((Str.ofString "sign"), .local), ((Str.ofString "meant"), .free)]
noncomputable abbrev sc16 : Scope := mkSc [((Str.ofString ".0"), .local), ((Str.ofString "text"), .local), ((Str.ofString "meant"), .free), ((Str.ofString "ready"), .free)]
noncomputable abbrev cl16 (L : Addr) : List (Str × Addr) := [(Str.ofString "ready", L + 8), (Str.ofString "meant", L + 2)]
theorem lw_drop16 : ∃ (ps : List Pos) (cs : List Nat), lwBody 16 = (.If (.Compare (.ListComp (.Name (Str.ofString "text") (posN ps 0)) [⟨(.Name (Str.ofString "text") (posN ps 1)), (.Name (Str.ofString "shelf") (posN ps 2)), [(.Compare (.Subscript (.Name (Str.ofString "ready") (posN ps 3)) (.Name (Str.ofString "text") (posN ps 4)) (posN ps 5)) [.NotEq] [(.Call (.Attribute (.Constant (.str (Str.ofString "")) (natN cs 0) (posN ps 6)) (Str.ofString "join") (posN ps 7)) [(.ListComp (.Subscript (.Name (Str.ofString "meant") (posN ps 8)) (.Name (Str.ofString "sign") (posN ps 9)) (posN ps 10)) [⟨(.Name (Str.ofString "sign") (posN ps 11)), (.Name (Str.ofString "text") (posN ps 12)), [], 0⟩] sc16i (posN ps 13))] [] (posN ps 14))] (posN ps 15))], 0⟩] sc16 (posN ps 16)) [.NotEq] [(.List [] (posN ps 17))] (posN ps 18)) [(.Return (some (.Constant (.bool false) (natN cs 1) (posN ps 19))) (posN ps 20))] [] (posN ps 21)) :: lwBody 17 ∧ ((posN ps 7).endLine == (posN ps 14).line) = true :=
   ⟨[_, _, _, _, _, _, _, _, _, _, _, _, _, _, _, _, _, _, _, _, _, _], [_, _], rfl, by kernel_rfl⟩
theorem join_len : ∀ {zs : List Str} {l : List (List Nat)}, zs.map tx = l → (∀ x ∈ l, x.length ≤ 100) → (zs.map (·.length)).sum ≤ 100 * zs.length
  | [], _, _, _ => by simp
  | z :: r, l, h, hl => by
    subst h
    have := join_len (zs := r) rfl fun x hx => hl x (by simp only [List.map_cons, List.mem_cons]; exact .inr hx)
    have hz : z.length ≤ 100 := by
      have := hl (tx z) (by simp)
      simpa [Str.length] using this
    simp only [List.map_cons, List.sum_cons, List.length_cons]
    omega
/-- ''.join([meant[sign] for sign in text]) -/
theorem join_comp {c6 : Nat} {p7 p8 p9 p10 p11 p12 p13 p14 p15 : Pos} {C DM : Addr} {kvs : KVs} {qs : List Pr} {m' : Str → Option Value} {x : Str} {t : Tok} {Q : Value → Shared → Prop} (hh : A.handled = none) (hline : (p8.endLine == p15.line) = true) (hns : s.heap.Ns C m') (hm : m' sText = some (.str x t)) (hcell : s.heap.IsCell (L + 2) (some (.ref DM))) (hd : s.heap.DictOf (sk w) DM kvs) (hq : KVq kvs qs) (hnd : (qs.map (·.1)).Nodup)
    (hx : x.cps.size ≤ 1000) (hch : ∀ c ∈ tx x, ∃ q ∈ qs, q.1 = c) (hw : ∀ q ∈ qs, wd q.1 = q.2 ∧ q.2.length ≤ 100)
    (h : ∀ z k s', tx z = prep (tx x) → Upd noW s s' → Q (.str z k) s') :
    wpAny (model pw w) A (eval (.Call (.Attribute (.Constant (.str (Str.ofString "")) c6 p7) (Str.ofString "join") p8) [(.ListComp (.Subscript (.Name (Str.ofString "meant") p9) (.Name (Str.ofString "sign") p10) p11) [⟨(.Name (Str.ofString "sign") p12), (.Name (Str.ofString "text") p13), [], 0⟩] sc16i p14)] [] p15) (compEnvC sc16 (cl16 L) C (lwEnv L))) Q E s := by
  refine Call_method1 rfl rfl hline (wpAny_Constant_str (k := 0) (pos := p0) ?_)
  refine ⟨"str", "str.join", PySem.F.plainAttrs_str, PySem.F.slot_str_join, PySem.F.type_str_join, typeIs_str _ _ _, (by rintro _ ⟨⟩), ?_⟩
  have U1 : Upd noW s { s with toks := s.toks + 1 } := .toks
  have hns1 : ({ s with toks := s.toks + 1 } : Shared).heap.Ns C m' := hns
  have hcell1 : ({ s with toks := s.toks + 1 } : Shared).heap.IsCell (L + 2) (some (.ref DM)) := hcell
  have hd1 : ({ s with toks := s.toks + 1 } : Shared).heap.DictOf (sk w) DM kvs := hd
  generalize s.toks = tk0 at *
  generalize ({ s with toks := tk0 + 1 } : Shared) = s₁ at U1 hns1 hcell1 hd1 ⊢
  refine callWith_builtin rfl (evalArgs_plain (spliced_cons ?_))
  refine comp_v (cl := [(Str.ofString "meant", L + 2)]) (by kernel_rfl) (by decide +kernel) (by kernel_rfl) (by decide +kernel) ?_
  refine nL (env := compEnvC sc16 (cl16 L) C (lwEnv L)) hns1 hm ?_
  refine pure_str hh (.refl _ _) (by omega) (fun C' => ⟨by kernel_rfl, by kernel_rfl⟩) (fun _ => true) (fun i y => ∃ z u, y = .str z u ∧ tx z = wd ((tx x).getD i 0)) ?_ ?_ ?_
  · intro C' i c u s' m'' E' hi U hns' hm'
    exact wpAny_tests_nil ⟨rfl, .refl _ _⟩
  · intro C' i c u s' m'' E' hi _ U hns' hm'
    obtain ⟨q, hqm, rfl⟩ := hch c (List.mem_of_getElem? hi)
    obtain ⟨z, uz, hz, ez⟩ := hq.at' hnd hqm
    refine dict_at (R := DM) (x := ch q.1) (t := u) (kvs := kvs) (v := .str z uz) ?_
    refine nC (c := L + 2) (by kernel_rfl) (IsCell.at' hcell1 fun o e => U.get id e) ?_
    refine nL hns' hm' ⟨rfl, rfl, hd1.at fun o e => U.get id e, hz, ⟨z, uz, rfl, ?_⟩, .toks⟩
    rw [ez, List.getD_eq_getElem?_getD, hi]
    exact (hw q hqm).1.symm
  · intro D ys s₂ hD U2 l2 hM
    rw [range_all] at hM
    obtain ⟨zs, v2, e2⟩ := hM.words fun i y q => q
    have e3 : (List.range x.cps.size).map (fun i => wd ((tx x).getD i 0)) = (tx x).map wd := by
      have := map_getD (tx x) 0 wd
      rw [← this]; simp
    rw [e3] at e2
    have lz : zs.length = x.cps.size := by
      have := congrArg List.length e2
      simpa using this
    refine spliced_nil (join_list l2.isList (by simpa using v2) ?_ fun t' k => ?_)
    · have h1 := join_len e2 fun y hy => by
        obtain ⟨c, hc, rfl⟩ := List.mem_map.mp hy
        obtain ⟨q, hqm, rfl⟩ := hch c hc
        rw [(hw q hqm).1]; exact (hw q hqm).2
      have h4 : (Str.ofString "").length = 0 := by kernel_rfl
      rw [h4]
      omega
    · have ej := tx_join (Str.ofString "") (by kernel_rfl) zs
      rw [e2, ← eq_of_beq (join_plain_closes (Str.ofString "") zs)] at ej
      exact h _ _ _ (by rw [prep_flat]; exact ej) ((U1.trans U2).trans .toks)
theorem lw16 {SH DM RD : Addr} {vh : List Value} {xs : List Str} {kvs krs : KVs} {qs : List Pr} {Q : Flow → Shared → Prop} (hr : Room 100 A) (hh : A.handled = none) (F : Lw w s₀ s L m cm) (hS : cm (Str.ofString "shelf") = some (.ref SH)) (hM : cm (Str.ofString "meant") = some (.ref DM)) (hR : cm (Str.ofString "ready") = some (.ref RD)) (hSH : s.heap.PlainList SH vh.toArray) (hvh : StrsAre vh xs) (hnd : xs.Nodup) (hlen : xs.length ≤ 1000) (hz : ∀ x ∈ xs, x.cps.size ≤ 1000)
    (hd : s.heap.DictOf (sk w) DM kvs) (hq : KVq kvs qs) (hqn : (qs.map (·.1)).Nodup) (hch : ∀ x ∈ xs, ∀ c ∈ tx x, ∃ q ∈ qs, q.1 = c) (hw : ∀ q ∈ qs, wd q.1 = q.2 ∧ q.2.length ≤ 100) (hrd : s.heap.DictOf (sk w) RD krs) (hkr : KVr RdyAt krs xs)
    (h : ∀ s', Upd noW s s' → Lw w s₀ s' L m cm → wpAny (model pw w) A (execs (lwBody 17) (lwEnv L)) Q E s') :
    wpAny (model pw w) A (execs (lwBody 16) (lwEnv L)) Q E s := by
  obtain ⟨ps, cs, he, hline⟩ := lw_drop16
  rw [he]
  have len := StrsAre.len hvh
  refine if_1 (isT_cmp ?_)
  refine comp_v (cl := cl16 L) (by kernel_rfl) (by decide +kernel) (by kernel_rfl) (by decide +kernel) ?_
  refine lwC F (c := L + 5) (by kernel_rfl) hS ?_
  have hcM := hM ▸ F.cells (Str.ofString "meant") (L + 2) (by kernel_rfl)
  have hcR := hR ▸ F.cells (Str.ofString "ready") (L + 8) (by kernel_rfl)
  refine pure_list hh (.refl _ _) hSH (by omega) (fun C => compEnv_local (by kernel_rfl) (by kernel_rfl)) (fun _ => false) (fun _ _ => False) ?_ ?_ ?_
  · intro C i v s' m' E' hi U hns hm
    obtain ⟨x, t, hxi, rfl⟩ := StrsAre.at' hvh hi
    have hxm := List.mem_of_getElem? hxi
    obtain ⟨v', hv', y, uy, rfl, ey⟩ := hkr.at' hnd hxm
    refine wpAny_tests_one (isT_cmp ?_)
    refine dict_at (R := RD) (x := x) (t := t) (kvs := krs) (v := .str y uy) ?_
    refine nC (c := L + 8) (by kernel_rfl) (IsCell.at' hcR fun o e => U.get id e) ?_
    refine nL hns hm ⟨rfl, rfl, hrd.at fun o e => U.get id e, hv', ?_⟩
    refine join_comp (s := { s' with toks := s'.toks + 1 }) (L := L) (qs := qs) hh hline hns hm (IsCell.at' hcM fun o e => U.get id e) (hd.at fun o e => U.get id e) hq hqn (hz x hxm) (hch x hxm) hw fun z k s₂ ez U2 => ?_
    refine P.ne_str ⟨_, rfl, ?_, (Upd.toks (t := s'.toks + 1)).trans U2⟩
    have e : y.cps.toList = z.cps.toList := ey.trans ez.symm
    rw [e]; simp
  · intro C i v s' m' E' hi hp
    cases hp
  · intro D ys s' hD U hl' hM2
    have : (List.range vh.length).filter (fun _ => false) = [] := by simp
    rw [this] at hM2
    rw [hM2.none] at hl'
    refine ne_nil (hr.le (by decide)) hl' rfl fun s'' U' => ⟨false, rfl, rfl, ?_⟩
    exact h s'' (U.trans U') (F.keep0 (U.trans U'))
end
end
end Mine
namespace Mine
open PySem PySem.W PySem.Calls PyProof.Rows
noncomputable section
/-- what stands in the table of codes -/
noncomputable def CodAt (h : Heap) (P : Addr → Prop) (x : Str) (v : Value) : Prop := ∃ ka kws, v = .ref ka ∧ P ka ∧ h.PlainList ka (List.toArray kws) ∧ IntsAre kws (zs (prep (tx x)))
theorem CodAt.keep {h h' : Heap} {P : Addr → Prop} {x : Str} {v : Value} (c : CodAt h P x v) (k : ∀ a, P a → ∀ o, h.get? a = some o → h'.get? a = some o) : CodAt h' P x v := by
  obtain ⟨ka, kws, e, p, l, i⟩ := c
  exact ⟨ka, kws, e, p, l.at fun o e => k ka p o e, i⟩
theorem CodAt.mono {h : Heap} {P P' : Addr → Prop} {x : Str} {v : Value} (c : CodAt h P x v) (k : ∀ a, P a → a < h.objs.size → P' a) : CodAt h P' x v := by
  obtain ⟨ka, kws, e, p, l, i⟩ := c
  exact ⟨ka, kws, e, k ka p (by obtain ⟨n, ho⟩ := l; exact Heap.lt_size ho), l, i⟩
section
variable {w : World} {A : Around} {s s' s₀ : Shared} {L : Addr} {m cm : Str → Option Value} {E : Value → Shared → Prop} {env : Env}
noncomputable abbrev sc17 : Scope := mkSc [((Str.ofString ".0"), .local), ((Str.ofString "text"), .local), ((Str.ofString "_law_codes"), .globalImplicit), ((Str.ofString "ready"), .free)]
theorem lw_drop17 : ∃ (ps : List Pos), lwBody 17 = (.Assign [(.Name (Str.ofString "coded") (posN ps 0))] (.DictComp (.Name (Str.ofString "text") (posN ps 1)) (.Call (.Name (Str.ofString "_law_codes") (posN ps 2)) [(.Subscript (.Name (Str.ofString "ready") (posN ps 3)) (.Name (Str.ofString "text") (posN ps 4)) (posN ps 5))] [] (posN ps 6)) [⟨(.Name (Str.ofString "text") (posN ps 7)), (.Name (Str.ofString "shelf") (posN ps 8)), [], 0⟩] sc17 (posN ps 9)) (posN ps 10)) :: lwBody 18 :=
   ⟨[_, _, _, _, _, _, _, _, _, _, _], rfl⟩
theorem lw17 {SH RD : Addr} {vh : List Value} {xs : List Str} {krs : KVs} {Q : Flow → Shared → Prop} (hr : Room 100 A) (hh : A.handled = none) (F : Lw w s₀ s L m cm) (hS : cm (Str.ofString "shelf") = some (.ref SH)) (hR : cm (Str.ofString "ready") = some (.ref RD)) (hSH : s.heap.PlainList SH vh.toArray) (hvh : StrsAre vh xs) (hnd : xs.Nodup) (hlen : xs.length ≤ 1000) (hp : ∀ x ∈ xs, (prep (tx x)).length ≤ 10000)
    (hrd : s.heap.DictOf (sk w) RD krs) (hkr : KVr RdyAt krs xs)
    (h : ∀ D kcs s', hs s ≤ D → Upd (fun b => b = L + 7) s s' → Lw w s₀ s' L m (setM cm (Str.ofString "coded") (.ref D)) → s'.heap.DictOf (sk w) D kcs → KVr (CodAt s'.heap fun a => hs s ≤ a ∧ a < hs s') kcs xs → wpAny (model pw w) A (execs (lwBody 18) (lwEnv L)) Q E s') :
    wpAny (model pw w) A (execs (lwBody 17) (lwEnv L)) Q E s := by
  obtain ⟨ps, he⟩ := lw_drop17
  rw [he]
  have len := StrsAre.len hvh
  refine asg ?_ (by kernel_rfl)
  refine dict_comp (cl := [(Str.ofString "ready", L + 8)]) (by kernel_rfl) (by decide +kernel) (by kernel_rfl) (by decide +kernel) ?_
  refine lwC F (c := L + 5) (by kernel_rfl) hS ?_
  have hcR := hR ▸ F.cells (Str.ofString "ready") (L + 8) (by kernel_rfl)
  refine iter_list hh hSH fun I St s₁ hI1 hI2 hl U1 Fd st => ?_
  refine ⟨[I, SH], [I], vh.length, St, _, _, noW, fun C D i ys s' => KVr (CodAt s'.heap fun a => hs s₁ ≤ a ∧ a ≠ C ∧ a ≠ D) ys (xs.take i), Fd _ _, by omega, st, ?_, fun C => compEnv_local (by kernel_rfl) (by kernel_rfl), fun b q => q.elim, ?_, ?_, ?_, ?_⟩
  · intro b hb
    rcases List.mem_cons.mp hb with e | hb
    · exact e ▸ hI2
    · rw [List.mem_singleton.mp hb]; exact Nat.lt_of_lt_of_le hl U1.size
  · intro C D s' _ _ _ _; rw [List.take_zero]; exact .nil
  · intro C D i ys s s' hO U
    refine hO.imp fun x v c => c.keep fun a p o e => U.get (fun q => ?_) e
    rcases q with q | q | q
    · rw [List.mem_singleton.mp q] at p; exact absurd p.1 (Nat.not_le.mpr hI2)
    · exact p.2.1 q
    · exact p.2.2 q
  · rintro C D i ys s₂ m₁ m₂ E' hC hD hCD hi hO ⟨v, hvi, rfl⟩ hns hl2 U2
    obtain ⟨x, t, hx, rfl⟩ := StrsAre.at' hvh hvi
    have hxm := List.mem_of_getElem? hx
    have V2 : Upd noW s s₂ := U1.then_fresh (U2.mono fun b q => q.elim (fun q => q.elim) fun q => .inr (by rw [List.mem_singleton.mp q]; exact hI1))
    have nt := nodup_take hnd hx
    obtain ⟨v', hv', y, uy, rfl, ey⟩ := hkr.at' hnd hxm
    refine wpAny_tests_nil ?_
    simp only [if_true]
    refine nL hns (v := .str x t) (if_pos rfl) ?_
    have B2 := (F.keep0 V2).base
    refine callG1 okCodes B2 (fun P => by kernel_rfl) ?_
    refine dict_at (R := RD) (x := x) (t := t) (kvs := krs) (v := .str y uy) ?_
    refine nC (c := L + 8) (by kernel_rfl) (IsCell.at' hcR fun o e => V2.get id e) ?_
    refine nL hns (v := .str x t) (if_pos rfl) ⟨rfl, rfl, hrd.at fun o e => V2.get id e, hv', ?_⟩
    have U3 : Upd noW s₂ { s₂ with toks := s₂.toks + 1 } := .toks
    have B3 := B2.upd0 U3
    refine ⟨B3, codes_call (s := { s₂ with toks := s₂.toks + 1 }) (hr.le (by decide)) hh B3 ?_ fun D2 ws s₃ hD2 U4 l4 v4 => ⟨x, PySem.strKind_is pw w _ _, U3.trans U4, ?_⟩⟩
    · have := congrArg List.length ey
      have h2 := hp x hxm
      simp only [Array.length_toList] at this
      omega
    · rw [nt.2]
      have Cs : C < hs s₂ := lt_of_ns hns
      have Ds : D < hs s₂ := by obtain ⟨o, ho, _⟩ := Heap.dictOf_iff.mp hl2; exact Heap.lt_size ho
      refine (hO.imp fun x v c => c.keep fun a p o e => (U3.trans U4).get id e).store nt.1 ⟨D2, ws, rfl, ⟨Nat.le_trans U2.size hD2, Nat.ne_of_gt (Nat.lt_of_lt_of_le Cs hD2), Nat.ne_of_gt (Nat.lt_of_lt_of_le Ds hD2)⟩, l4, ?_⟩
      rw [← ey]; exact v4
  · intro C D ys s₂ m₂ hC hD hCD hO hy hl2 hns U2
    have V2 : Upd noW s s₂ := U1.then_fresh (U2.mono fun b q => q.elim (fun q => .inl q) fun q => .inr (by rw [List.mem_singleton.mp q]; exact hI1))
    refine ⟨⟨m₂, hns⟩, fun s₃ U3 => ?_⟩
    have hsC : hs s ≤ C := Nat.le_trans U1.size hC
    have V3 : Upd noW s s₃ := V2.then_fresh (U3.mono fun b q => .inr (q ▸ hsC))
    have sD : hs s ≤ D := Nat.le_trans U1.size hD
    rw [len, List.take_length] at hO
    refine sC (F.keep0 V3) (c := L + 7) (by kernel_rfl) fun s₄ U4 F4 => ?_
    have low7 : ∀ a, hs s ≤ a → a ≠ L + 7 := fun a ha q => by
      have := Nat.le_trans F.low ha
      rw [q] at this
      exact absurd this (Nat.not_le.mpr (Nat.add_lt_add_left (by decide) _))
    refine h D ys s₄ sD (V3.up.trans U4) F4 ((hl2.at fun o e => U3.get (fun q => hCD q.symm) e).at fun o e => U4.get (fun q => low7 D sD q) e) (hO.imp fun x v c => ?_)
    exact ((c.keep fun a p o e => U3.get p.2.1 e).keep fun a p o e => U4.get (fun q => low7 a (Nat.le_trans U1.size p.1) q) e).mono fun a p ha => ⟨Nat.le_trans U1.size p.1, ha⟩
end
end
end Mine
namespace Mine
open PySem PySem.W PySem.Calls PyProof.Rows
noncomputable section
noncomputable def lamA (pa : Pos) : Arguments := { posonlyargs := [], args := [⟨Str.ofString "one", none, pa⟩], vararg := none, kwonlyargs := [], kw_defaults := [], kwarg := none, defaults := [] }
noncomputable abbrev lamSc (x : Str) : Scope := mkSc [((Str.ofString "one"), .local), (x, .free)]
theorem lam_ok (x : Str) (pa p1 p2 p3 : Pos) (h : x = Str.ofString "ready" ∨ x = Str.ofString "coded") : LamOk x (lamA pa) (.Subscript (.Name x p1) (.Name (Str.ofString "one") p2) p3) (lamSc x) where
  body := ⟨p1, p2, p3, rfl⟩
  bind := fun v fd h1 h2 h3 h4 => by
    cases fd
    cases h1; cases h2; cases h3; cases h4
    rfl
  free := by rcases h with rfl | rfl <;> kernel_rfl
  one := by kernel_rfl
  nocell := by rcases h with rfl | rfl <;> decide +kernel
  kind := rfl
  co := rfl
  gen := rfl
  n1 := by rcases h with rfl | rfl <;> kernel_rfl
  n2 := by rcases h with rfl | rfl <;> kernel_rfl
section
variable {w : World} {A : Around} {s s' s₀ : Shared} {L : Addr} {m cm : Str → Option Value} {E : Value → Shared → Prop} {env : Env} {M : Addr → Prop}
/-- a lambda of the law as a value -/
theorem lam_eval {x : Str} {c : Addr} {pa pos : Pos} {body : Expr} {scope : Scope} {Q : Value → Shared → Prop} (B : Base w s.heap) (T : TabOk M s.heap) (hM : ∀ b, M b → b < hs s) (hcl : closureFor scope env = pure [(x, c)])
    (h : ∀ f s' pm cv ct, Upd (fun b => b = lawTab) s s' → hs s ≤ f → TabOk M s'.heap → s'.heap.get? f = some { cls := .type "function", data := .func (kla_fn (Str.ofString "<lambda>") lamQ (lamA pa) body scope [(x, c)] pm cv ct) } → s'.heap.CodeRec cv lamQ → Q (.ref f) s')
    (hge : env.globals = mainGlobals := by kernel_rfl) (hcode : env.code = .ref 161 := by kernel_rfl) (hq : env.qual ++ Str.ofString "<lambda>" = lamQ := by kernel_rfl) :
    wpAny (model pw w) A (eval (.Lambda (lamA pa) body scope pos) env) Q E s := by
  rw [arm_eval_Lambda]
  show wpAny (model pw w) A (do
    let dv ← evalAll []
    let kdv ← holding dv (evalAllOpt [])
    makeFunction "<lambda>" (env.qual ++ "<lambda>") (lamA pa) (.expr body) scope env dv kdv [] pos pos.line) Q E s
  refine wpAny_bind (wpAny_evalAll_nil ?_)
  refine wpAny_bind (wpAny_holding (wpAny_pure ?_))
  refine lam_make B T hM hq hcl hge hcode fun f s' pm cv ct a b c d e => h f s' pm cv ct a b c ?_ e
  rw [show (env.qual ++ ("<lambda>" : Str)) = lamQ from hq] at d
  exact d
theorem TabOk.remap {M M' : Addr → Prop} {h : Heap} (T : TabOk M h) (k : ∀ b, M' b → M b ∨ h.objs.size ≤ b) : TabOk M' h := by
  obtain ⟨ps, e, t, r⟩ := T
  refine ⟨ps, e, t, fun pos cv q => ?_⟩
  obtain ⟨c, e1, e2, e3, e4⟩ := r pos cv q
  refine ⟨c, e1, e2, fun z => ?_, e4⟩
  rcases k c z with z | z
  · exact e3 z
  · obtain ⟨c', o, vs, t', e, ho, _⟩ := e4
    cases e
    exact absurd (Heap.lt_size ho) (Nat.not_lt.mpr z)
theorem TabOk.start {h : Heap} (e : h.get? lawTab = some (tabObj #[])) : TabOk M h := ⟨#[], e, trivial, fun pos cv q => by simp [codeAmong] at q⟩
theorem Lw.both (F : Lw w s₀ s L m cm) {m' : Str → Option Value} {W : Addr → Prop} (U : Upd W s s') (hW : ∀ b, W b → b = L ∨ b = lawTab ∨ L + 9 ≤ b) (hn : s'.heap.Ns L m') : Lw w s₀ s' L m' cm where
  base0 := F.base0
  hL := F.hL
  upd := F.upd.trans (U.mono fun b q => by
    rcases hW b q with q | q | q
    · exact .inr (q ▸ F.hL)
    · exact .inl q
    · exact .inr (Nat.le_trans F.hL (Nat.le_trans (Nat.le_add_right _ _) q)))
  ns := hn
  cells := fun n c h => IsCell.at' (F.cells n c h) fun o e => by
    have r := Lw.range h
    refine U.get (fun q => ?_) e
    rcases hW c q with q | q | q
    · rw [q] at r; exact absurd r.1 (Nat.lt_irrefl _)
    · have h1 := Nat.le_trans F.base0.2 F.hL
      rw [q] at r
      exact absurd (Nat.lt_of_le_of_lt h1 r.1) (by decide)
    · exact absurd q (Nat.not_le.mpr r.2)
  low := Nat.le_trans F.low U.size
end
end
end Mine
namespace Mine
open PySem PySem.W PySem.Calls PyProof.Rows
noncomputable section
section
variable {w : World} {A : Around} {s s' s₀ : Shared} {L : Addr} {m cm : Str → Option Value} {E : Value → Shared → Prop} {env : Env}
theorem lw_drop0 : ∃ (ps : List Pos) (cs : List Nat), lwBody 0 = (.Assign [(.Name (Str.ofString "cell") (posN ps 0))] (.BinOp (.BinOp (.Constant (.int 134248) (natN cs 0) (posN ps 1)) .Add (.Call (.Name (Str.ofString "sum") (posN ps 2)) [(.Subscript (.Name (Str.ofString "script") (posN ps 3)) (.Slice none none (some (.Constant (.int 2) (natN cs 1) (posN ps 4))) (posN ps 5)) (posN ps 6))] [] (posN ps 7)) (posN ps 8)) .Mod (.BinOp (.Constant (.int 10) (natN cs 2) (posN ps 9)) .Pow (.Constant (.int 9) (natN cs 3) (posN ps 10)) (posN ps 11)) (posN ps 12)) (posN ps 13)) :: lwBody 1 :=
   ⟨[_, _, _, _, _, _, _, _, _, _, _, _, _, _], [_, _, _, _], rfl⟩
theorem lw0 {a0 : Addr} {vs : List Value} {ns : List Int} {Q : Flow → Shared → Prop} (hh : A.handled = none) (F : Lw w s₀ s L m cm) (hm : m (Str.ofString "script") = some (.ref a0)) (hl : s.heap.PlainList a0 vs.toArray) (hi : IntsAre vs ns) (hz : vs.length ≤ 100)
    (h : ∀ (n : Nat) t s', n < 10 ^ 9 → Upd (fun b => b = L) s s' → Lw w s₀ s' L (setM m (Str.ofString "cell") (.int (n : Int) t)) cm → wpAny (model pw w) A (execs (lwBody 1) (lwEnv L)) Q E s') :
    wpAny (model pw w) A (execs (lwBody 0) (lwEnv L)) Q E s := by
  obtain ⟨ps, cs, he⟩ := lw_drop0
  rw [he]
  refine asg ?_ (by kernel_rfl)
  refine cell_val (lo := none) hh F hm hl hi hz (fun s₁ Q E hq => wpAny_evalPart_none (hq _ s₁.toks .none)) fun n t s₁ hn U1 => ?_
  have F1 := F.keep0 U1
  refine sL (env := lwEnv L) F1.ns fun s₂ U2 hn2 => ?_
  exact h n t s₂ hn (U1.up.trans U2) (F1.loc U2 hn2)
theorem lw_drop1 : ∃ (ps : List Pos) (cs : List Nat), lwBody 1 = (.Assign [(.Name (Str.ofString "other_cell") (posN ps 0))] (.BinOp (.BinOp (.Constant (.int 462) (natN cs 0) (posN ps 1)) .Add (.Call (.Name (Str.ofString "sum") (posN ps 2)) [(.Subscript (.Name (Str.ofString "script") (posN ps 3)) (.Slice (some (.Constant (.int 1) (natN cs 1) (posN ps 4))) none (some (.Constant (.int 2) (natN cs 2) (posN ps 5))) (posN ps 6)) (posN ps 7))] [] (posN ps 8)) (posN ps 9)) .Mod (.BinOp (.Constant (.int 10) (natN cs 3) (posN ps 10)) .Pow (.Constant (.int 9) (natN cs 4) (posN ps 11)) (posN ps 12)) (posN ps 13)) (posN ps 14)) :: lwBody 2 :=
   ⟨[_, _, _, _, _, _, _, _, _, _, _, _, _, _, _], [_, _, _, _, _], rfl⟩
theorem lw1 {a0 : Addr} {vs : List Value} {ns : List Int} {Q : Flow → Shared → Prop} (hh : A.handled = none) (F : Lw w s₀ s L m cm) (hm : m (Str.ofString "script") = some (.ref a0)) (hl : s.heap.PlainList a0 vs.toArray) (hi : IntsAre vs ns) (hz : vs.length ≤ 100)
    (h : ∀ (n : Nat) t s', n < 10 ^ 9 → Upd (fun b => b = L + 1) s s' → Lw w s₀ s' L m (setM cm (Str.ofString "other_cell") (.int (n : Int) t)) → wpAny (model pw w) A (execs (lwBody 2) (lwEnv L)) Q E s') :
    wpAny (model pw w) A (execs (lwBody 1) (lwEnv L)) Q E s := by
  obtain ⟨ps, cs, he⟩ := lw_drop1
  rw [he]
  refine asg ?_ (by kernel_rfl)
  refine cell_val (lo := some 1) hh F hm hl hi hz (fun s₁ Q E hq => wpAny_evalPart_some (wpAny_Constant_int (k := 0) (pos := (posN ps 0)) (hq _ _ (.int _ _)))) fun n t s₁ hn U1 => ?_
  have F1 := F.keep0 U1
  refine sC F1 (c := L + 1) (by kernel_rfl) fun s₂ U2 F2 => ?_
  exact h n t s₂ hn (U1.up.trans U2) F2
theorem lw_drop8 : ∃ (ps : List Pos), lwBody 8 = (.Assign [(.Name (Str.ofString "shelf") (posN ps 0))] (.List [] (posN ps 1)) (posN ps 2)) :: lwBody 9 :=
   ⟨[_, _, _], rfl⟩
theorem lw_drop18 : ∃ (ps : List Pos), lwBody 18 = (.Assign [(.Name (Str.ofString "second") (posN ps 0))] (.List [] (posN ps 1)) (posN ps 2)) :: lwBody 19 :=
   ⟨[_, _, _], rfl⟩
theorem lw3 {Q : Flow → Shared → Prop} (F : Lw w s₀ s L m cm)
    (h : ∀ D s', hs s ≤ D → Upd (fun b => b = L + 3) s s' → Lw w s₀ s' L m (setM cm (Str.ofString "stock") (.ref D)) → s'.heap.PlainList D (List.toArray []) → wpAny (model pw w) A (execs (lwBody 4) (lwEnv L)) Q E s') :
    wpAny (model pw w) A (execs (lwBody 3) (lwEnv L)) Q E s := by
  obtain ⟨p0, p1, p2, he⟩ := lw_drop3
  rw [he]
  exact lw_nil (c := L + 3) F (by kernel_rfl) h
theorem lw8 {Q : Flow → Shared → Prop} (F : Lw w s₀ s L m cm)
    (h : ∀ D s', hs s ≤ D → Upd (fun b => b = L + 5) s s' → Lw w s₀ s' L m (setM cm (Str.ofString "shelf") (.ref D)) → s'.heap.PlainList D (List.toArray []) → wpAny (model pw w) A (execs (lwBody 9) (lwEnv L)) Q E s') :
    wpAny (model pw w) A (execs (lwBody 8) (lwEnv L)) Q E s := by
  obtain ⟨ps, he⟩ := lw_drop8
  rw [he]
  exact lw_nil (c := L + 5) F (by kernel_rfl) h
theorem lw18 {Q : Flow → Shared → Prop} (F : Lw w s₀ s L m cm)
    (h : ∀ D s', hs s ≤ D → Upd (fun b => b = L) s s' → Lw w s₀ s' L (setM m (Str.ofString "second") (.ref D)) cm → s'.heap.PlainList D (List.toArray []) → wpAny (model pw w) A (execs (lwBody 19) (lwEnv L)) Q E s') :
    wpAny (model pw w) A (execs (lwBody 18) (lwEnv L)) Q E s := by
  obtain ⟨ps, he⟩ := lw_drop18
  rw [he]
  refine asg (wpAny_List (spliced_nil ⟨Nat.zero_le _, ?_⟩)) rfl
  have U1 : Upd noW s { s with heap := s.heap.push { cls := .type "list", data := .seq #[] }, toks := s.toks } := .push
  have hl1 : (s.heap.push { cls := .type "list", data := .seq #[] }).PlainList s.heap.objs.size #[] := ⟨0, Heap.get?_push_size _ rfl⟩
  have F1 := F.keep0 U1
  have fin : ∀ s₁ : Shared, Upd noW s s₁ → Lw w s₀ s₁ L m cm → s₁.heap.PlainList (hs s) #[] → wpAny (model pw w) A (storeName (lwEnv L) (Str.ofString "second") (.ref (hs s))) (fun _ s₂ => wpAny (model pw w) A (execs (lwBody 19) (lwEnv L)) Q E s₂) E s₁ := by
    intro s₁ U1 F1 hl1
    refine sL (env := lwEnv L) F1.ns fun s₂ U2 hn2 => ?_
    refine h (hs s) s₂ (Nat.le_refl _) (U1.up.trans U2) (F1.loc U2 hn2) (hl1.at fun o e => U2.get (Nat.ne_of_gt (lt_of_ns F.ns)) e)
  exact fin _ U1 F1 hl1
end
end
end Mine
namespace Mine
open PySem PySem.W PySem.Calls PyProof.Rows
noncomputable section
theorem lt_list {h : Heap} {l : Addr} {a : Array Value} (x : h.PlainList l a) : l < h.objs.size := by obtain ⟨n, ho⟩ := x; exact Heap.lt_size ho
theorem lt_dict {w : World} {h : Heap} {l : Addr} {a : KVs} (x : h.DictOf (sk w) l a) : l < h.objs.size := by obtain ⟨o, ho, _⟩ := Heap.dictOf_iff.mp x; exact Heap.lt_size ho
section
variable {w : World} {A : Around} {s s' s₀ : Shared} {L : Addr} {m cm : Str → Option Value} {E : Value → Shared → Prop} {env : Env}
theorem Lw.tab (F : Lw w s₀ s L m cm) : lawTab < L := by
  have h1 := Nat.le_trans F.base0.2 F.hL
  exact Nat.lt_of_lt_of_le (by decide) h1
noncomputable abbrev MS (L S0 : Addr) (b : Addr) : Prop := b = L ∨ b = S0
/-- the loop that lays the shelf's texts into second -/
theorem ins_loop {fn : Str} {fa : Addr} {fd : FuncData} {iter : Expr} {p7 p9 p10 p11 as12 p13 p14 p15 p16 p17 p18 p19 p20 : Pos} {S0 RD : Addr} {krs : KVs} {us : List Str} {f : Str → List Nat} {Q : Flow → Shared → Prop} (hh : A.handled = none) (F : Lw w s₀ s L m cm)
    (hS : m (Str.ofString "second") = some (.ref S0)) (hR : cm (Str.ofString "ready") = some (.ref RD)) (h9 : L + 9 ≤ S0) (hS0 : s.heap.PlainList S0 (List.toArray [])) (hRD : L + 9 ≤ RD) (hne : RD ≠ S0) (hrd : s.heap.DictOf (sk w) RD krs) (hT : TabOk (MS L S0) s.heap)
    (hlen : us.length ≤ 1000)
    (hit : ∀ (Q : Value → Shared → Prop) (E : Value → Shared → Prop), (∀ l vs s', L + 9 ≤ l → l ≠ S0 → Upd noW s s' → s'.heap.PlainList l (List.toArray vs) → StrsAre vs us → Q (.ref l) s') → wpAny (model pw w) A (eval iter (lwEnv L)) Q E s)
    (ok : FnOk fa fd) (hv : ∀ P, mgF P fn = some (.ref fa)) (hl : (lwEnv L).kindOf fn = some .globalImplicit) (hd : (fn == ("__debug__" : Str)) = false)
    (hins : ∀ i s' ka vs' xs' x t (Q : Value → Shared → Prop) (E : Value → Shared → Prop), us[i]? = some x → Base w s'.heap → s'.heap.PlainList S0 (List.toArray vs') → StrsAre vs' xs' → KeySpec w s' ka (DomOf krs) → xs'.Perm (us.take i) → xs'.Pairwise (ltF f) →
      (∀ s'' vs'' xs'', Upd (fun b => b = S0) s' s'' → s''.heap.PlainList S0 (List.toArray vs'') → StrsAre vs'' xs'' → xs''.Pairwise (ltF f) → xs''.Perm (x :: xs') → Q .none s'') → wpAny (model pw w) A (call (.ref fa) [.ref S0, .str x t] [(Str.ofString "key", .ref ka)]) Q E s')
    (h : ∀ s' m' vs' xs', Upd (fun b => b = S0 ∨ b = L ∨ b = lawTab) s s' → Lw w s₀ s' L m' cm → (∀ n, n ≠ sText → m' n = m n) → s'.heap.PlainList S0 (List.toArray vs') → StrsAre vs' xs' → xs'.Pairwise (ltF f) → xs'.Perm us → TabOk (MS L S0) s'.heap → Q .next s')
    (hfs : ∀ x, foldedSetIterable iter (lwEnv L) x = pure x := by intro _; rfl) :
    wpAny (model pw w) A (execs [.For (.Name sText p7) iter [.Expr (.Call (.Name fn p9) [.Name (Str.ofString "second") p10, .Name sText p11] [⟨some (Str.ofString "key"), .Lambda (lamA as12) (.Subscript (.Name (Str.ofString "ready") p13) (.Name (Str.ofString "one") p14) p15) (lamSc (Str.ofString "ready")) p16, p17⟩] p18) p19] [] p20] (lwEnv L)) Q E s := by
  refine for_stmt (hit _ _ fun l vs s₁ hl9 hlS U1 l1 v1 => ?_) hfs
  have len := StrsAre.len v1
  refine iter_list hh l1 fun I St s₂ hI1 hI2 hl2 U2 Fd st => ?_
  have V2 : Upd noW s s₂ := U1.trans U2
  have F2 := F.keep0 V2
  have hI9 : L + 9 ≤ I := Nat.le_trans F.low (Nat.le_trans U1.size hI1)
  have hSs : S0 < hs s := lt_list hS0
  have hsI : hs s ≤ I := Nat.le_trans U1.size hI1
  have hSI : S0 ≠ I := Nat.ne_of_lt (Nat.lt_of_lt_of_le hSs hsI)
  have L9 : ∀ {b : Addr}, L + 9 ≤ b → b ≠ L := fun q e => absurd q (by rw [e]; exact Nat.not_le.mpr (Nat.lt_add_of_pos_right (by decide)))
  have T9 : ∀ {b : Addr}, L + 9 ≤ b → b ≠ lawTab := fun q e => absurd (Nat.lt_of_lt_of_le F.tab (Nat.le_trans (Nat.le_add_right L 9) (e ▸ q))) (Nat.lt_irrefl _)
  have hRs : RD < hs s := lt_dict hrd
  have hRI : RD ≠ I := Nat.ne_of_lt (Nat.lt_of_lt_of_le hRs hsI)
  have T2 : TabOk (fun b => MS L S0 b ∨ b = I) s₂.heap := by
    have t1 : TabOk (fun b => MS L S0 b ∨ b = I) s.heap := hT.remap fun b q => q.elim .inl fun q => .inr (q ▸ hsI)
    exact t1.keep (fun b o _ e => V2.get id e) fun q => q.elim (fun q => q.elim (fun q => absurd F.tab (by rw [q]; exact Nat.lt_irrefl _)) fun q => T9 h9 q.symm) fun q => T9 hI9 q.symm
  refine ⟨[I, l], [I], vs.length, St, _, _, m, fun i m' s' => hs s₂ ≤ hs s' ∧ Lw w s₀ s' L m' cm ∧ (∀ n, n ≠ sText → m' n = m n) ∧ Upd (fun b => b = S0 ∨ b = L ∨ b = lawTab) s s' ∧ TabOk (fun b => MS L S0 b ∨ b = I) s'.heap ∧ ∃ vs' xs', s'.heap.PlainList S0 (List.toArray vs') ∧ StrsAre vs' xs' ∧ xs'.Pairwise (ltF f) ∧ xs'.Perm (us.take i), Fd _ _, ⟨by kernel_rfl, by kernel_rfl⟩, ?_, st, F2.ns, ?_, ?_, ?_⟩
  · intro hb
    rcases List.mem_cons.mp hb with e | hb
    · exact L9 hI9 e.symm
    · exact L9 hl9 (List.mem_singleton.mp hb).symm
  · exact ⟨Nat.le_refl _, F2, fun _ _ => rfl, V2.up, T2, [], [], hS0.at fun o e => V2.get id e, .nil, .nil, by rw [List.take_zero]⟩
  · rintro i m1 s₃ s₄ m2 E' hi ⟨z3, F3, a3, V3, T3, vs', xs', g1, g2, g3, g4⟩ U4 hns ⟨v, hvi, rfl⟩
    obtain ⟨x, t, hxi, rfl⟩ := StrsAre.at' v1 hvi
    have F4 : Lw w s₀ s₄ L (setM m1 sText (.str x t)) cm := F3.both U4 (fun b q => q.elim (fun q => .inr (.inr (by rw [List.mem_singleton.mp q]; exact hI9))) .inl) hns
    have V4 : Upd (fun b => b = S0 ∨ b = L ∨ b = lawTab) s s₄ := Upd.then_fresh V3 (U4.mono fun b q => q.elim (fun q => .inr (by rw [List.mem_singleton.mp q]; exact hsI)) fun q => .inl (.inr (.inl q)))
    have T4 : TabOk (fun b => MS L S0 b ∨ b = I) s₄.heap := T3.keep (fun b o nb e => U4.get (fun q => nb (q.elim (fun q => .inr (List.mem_singleton.mp q)) fun q => .inl (.inl q))) e) fun q => q.elim (fun q => q.elim (fun q => absurd F.tab (by rw [q]; exact Nat.lt_irrefl _)) fun q => T9 h9 q.symm) fun q => T9 hI9 q.symm
    have g1' : s₄.heap.PlainList S0 (List.toArray vs') := g1.at fun o e => U4.get (fun q => q.elim (fun q => hSI (List.mem_singleton.mp q)) fun q => L9 h9 q) e
    have hrd4 : s₄.heap.DictOf (sk w) RD krs := hrd.at fun o e => V4.get (fun q => q.elim hne fun q => q.elim (L9 hRD) (T9 hRD)) e
    refine execs_one (wpAny_Expr ?_ (by kernel_rfl) (by with_unfolding_all rfl))
    refine callG2k (env := lwEnv L) ok F4.base hv ?_ (hl := hl) (hd := hd)
    have hS4 : (setM m1 sText (.str x t)) (Str.ofString "second") = some (.ref S0) := (if_neg (by decide)).trans ((a3 _ (by decide)).trans hS)
    refine lwL F4 hS4 (lwL F4 (v := .str x t) (if_pos rfl) ?_)
    refine lam_eval (x := Str.ofString "ready") (c := L + 8) F4.base T4 (fun b q => ?_) (by kernel_rfl) fun fl s₅ pm cv ct U5 hf5 T5 ho5 hr5 => ?_
    · have z := F4.low
      rcases q with (q | q) | q
      · rw [q]; exact Nat.lt_of_lt_of_le (Nat.lt_add_of_pos_right (by decide)) z
      · rw [q]; exact lt_list g1'
      · rw [q]; exact Nat.lt_of_lt_of_le hI2 (Nat.le_trans z3 U4.size)
    · have F5 := F4.keep U5 fun b q => .inl q
      have V5 : Upd (fun b => b = S0 ∨ b = L ∨ b = lawTab) s s₅ := V4.trans (U5.mono fun b q => .inr (.inr q))
      have g5 : s₅.heap.PlainList S0 (List.toArray vs') := g1'.at fun o e => U5.get (T9 h9) e
      have hrd5 : s₅.heap.DictOf (sk w) RD krs := hrd4.at fun o e => U5.get (T9 hRD) e
      refine ⟨F5.base, ?_⟩
      have K5 : KeySpec w s₅ fl (DomOf krs) := lam_spec F5.base (lam_ok (Str.ofString "ready") as12 p13 p14 p15 (.inl rfl)) ho5 hr5 (hR ▸ F5.cells (Str.ofString "ready") (L + 8) (by kernel_rfl)) hrd5
      refine hins i s₅ fl vs' xs' x t _ _ hxi F5.base g5 g2 K5 g4 g3 fun s₆ vs'' xs'' U6 k1 k2 k3 k4 => ?_
      have F6 := F5.keep U6 fun b q => .inr (q ▸ h9)
      have et : us.take (i + 1) = us.take i ++ [x] := by rw [List.take_add_one, hxi]; rfl
      refine ⟨(U5.mono fun b q hb => ?_).trans (U6.mono fun b q hb => ?_), setM m1 sText (.str x t), F6.ns, ?_⟩
      · rcases List.mem_cons.mp hb with e | hb
        · exact T9 hI9 (e.symm.trans q)
        · exact T9 hl9 ((List.mem_singleton.mp hb).symm.trans q)
      · rcases List.mem_cons.mp hb with e | hb
        · exact hSI (q.symm.trans e)
        · exact hlS ((List.mem_singleton.mp hb).symm.trans q)
      · refine ⟨Nat.le_trans z3 (Nat.le_trans U4.size (Nat.le_trans U5.size U6.size)), F6, fun n hn => (if_neg hn).trans (a3 n hn), V5.trans (U6.mono fun b q => .inl q), T5.keep (fun b o nb e => U6.get (fun q => nb (.inl (.inr q))) e) ?_, vs'', xs'', k1, k2, k3, ?_⟩
        · exact fun q => q.elim (fun q => q.elim (fun q => absurd F.tab (by rw [q]; exact Nat.lt_irrefl _)) fun q => T9 h9 q.symm) fun q => T9 hI9 q.symm
        · rw [et]
          exact k4.trans ((List.Perm.cons _ g4).trans (List.perm_append_comm (l₁ := [x])))
  · rintro m1 s₃ s₄ ⟨z3, F3, a3, V3, T3, vs', xs', g1, g2, g3, g4⟩ hns U4
    refine wpAny_execs_nil ?_
    have F4 := F3.keep U4 fun b q => .inr (by rw [List.mem_singleton.mp q]; exact hI9)
    have V4 : Upd (fun b => b = S0 ∨ b = L ∨ b = lawTab) s s₄ := Upd.then_fresh V3 (U4.mono fun b q => .inr (by rw [List.mem_singleton.mp q]; exact hsI))
    rw [len, List.take_length] at g4
    refine h s₄ m1 vs' xs' V4 F4 a3 (g1.at fun o e => U4.get (fun q => hSI (List.mem_singleton.mp q)) e) g2 g3 g4 ?_
    exact (T3.keep (fun b o nb e => U4.get (fun q => nb (.inr (List.mem_singleton.mp q))) e) fun q => q.elim (fun q => q.elim (fun q => absurd F.tab (by rw [q]; exact Nat.lt_irrefl _)) fun q => T9 h9 q.symm) fun q => T9 hI9 q.symm).remap fun b q => .inl (.inl q)
end
end
end Mine
namespace Mine
open PySem PySem.W PySem.Calls PyProof.Rows
noncomputable section
section
variable {w : World} {A : Around} {s s' s₀ : Shared} {L : Addr} {m cm : Str → Option Value} {E : Value → Shared → Prop} {env : Env}
theorem lw_drop19 : ∃ (ps : List Pos) (cs : List Nat), lwBody 19 = (.If (.Compare (.BinOp (.Name (Str.ofString "other_cell") (posN ps 0)) .Mod (.Constant (.int 2) (natN cs 0) (posN ps 1)) (posN ps 2)) [.Eq] [(.Constant (.int 0) (natN cs 1) (posN ps 3))] (posN ps 4)) [(.For (.Name (Str.ofString "text") (posN ps 5)) (.Name (Str.ofString "shelf") (posN ps 6)) [(.Expr (.Call (.Name (Str.ofString "insort_right") (posN ps 7)) [(.Name (Str.ofString "second") (posN ps 8)), (.Name (Str.ofString "text") (posN ps 9))] [⟨some (Str.ofString "key"), (.Lambda (lamA (posN ps 10)) (.Subscript (.Name (Str.ofString "ready") (posN ps 11)) (.Name (Str.ofString "one") (posN ps 12)) (posN ps 13)) (mkSc [((Str.ofString "one"), .local), ((Str.ofString "ready"), .free)]) (posN ps 14)), (posN ps 15)⟩] (posN ps 16)) (posN ps 17))] [] (posN ps 18))] [(.For (.Name (Str.ofString "text") (posN ps 19)) (.Subscript (.Name (Str.ofString "shelf") (posN ps 20)) (.Slice none none (some (.UnaryOp .USub (.Constant (.int 1) (natN cs 2) (posN ps 21)) (posN ps 22))) (posN ps 23)) (posN ps 24)) [(.Expr (.Call (.Name (Str.ofString "insort_left") (posN ps 25)) [(.Name (Str.ofString "second") (posN ps 26)), (.Name (Str.ofString "text") (posN ps 27))] [⟨some (Str.ofString "key"), (.Lambda (lamA (posN ps 28)) (.Subscript (.Name (Str.ofString "ready") (posN ps 29)) (.Name (Str.ofString "one") (posN ps 30)) (posN ps 31)) (mkSc [((Str.ofString "one"), .local), ((Str.ofString "ready"), .free)]) (posN ps 32)), (posN ps 33)⟩] (posN ps 34)) (posN ps 35))] [] (posN ps 36))] (posN ps 37)) :: lwBody 20 :=
   ⟨[_, _, _, _, _, _, _, _, _, _, _, _, _, _, _, _, _, _, _, _, _, _, _, _, _, _, _, _, _, _, _, _, _, _, _, _, _, _], [_, _, _], rfl⟩
theorem lt_take {xs : List Str} (h : xs.Pairwise ltT) {i : Nat} {x y : Str} (hx : xs[i]? = some x) (hy : y ∈ xs.take i) : ltT y x := by
  obtain ⟨j, hj⟩ := List.getElem?_of_mem hy
  have hji : j < i := by
    have := (List.getElem?_eq_some_iff.mp hj).1
    rw [List.length_take] at this; omega
  rw [List.getElem?_take_of_lt hji] at hj
  obtain ⟨h1, e1⟩ := List.getElem?_eq_some_iff.mp hj
  obtain ⟨h2, e2⟩ := List.getElem?_eq_some_iff.mp hx
  subst e1; subst e2
  exact List.pairwise_iff_getElem.mp h j i h1 h2 hji
theorem gt_take {xs : List Str} (h : xs.Pairwise fun a b => ltT b a) {i : Nat} {x y : Str} (hx : xs[i]? = some x) (hy : y ∈ xs.take i) : ltT x y := by
  obtain ⟨j, hj⟩ := List.getElem?_of_mem hy
  have hji : j < i := by
    have := (List.getElem?_eq_some_iff.mp hj).1
    rw [List.length_take] at this; omega
  rw [List.getElem?_take_of_lt hji] at hj
  obtain ⟨h1, e1⟩ := List.getElem?_eq_some_iff.mp hj
  obtain ⟨h2, e2⟩ := List.getElem?_eq_some_iff.mp hx
  subst e1; subst e2
  exact List.pairwise_iff_getElem.mp h j i h1 h2 hji
theorem lt_or_eq_of_not {a b : List Nat} (h : ¬ b < a) : a < b ∨ a = b := by
  by_cases q : a < b
  · exact .inl q
  · exact .inr (List.le_antisymm h q)
theorem dom_rdy {krs : KVs} {xs : List Str} (hkr : KVr RdyAt krs xs) (hnd : xs.Nodup) {y : Str} (hy : y ∈ xs) (u : Tok) : DomOf krs (.str y u) (prep (tx y)) := by
  obtain ⟨v, hv, z, uz, rfl, ez⟩ := hkr.at' hnd hy
  exact ⟨y, u, z, uz, rfl, hv, ez⟩
noncomputable abbrev fP (y : Str) : List Nat := prep (tx y)
theorem lw19 {o : Nat} {to : Tok} {S0 SH RD : Addr} {vh : List Value} {xs : List Str} {krs : KVs} {Q : Flow → Shared → Prop} (hr : Room 100 A) (hh : A.handled = none) (F : Lw w s₀ s L m cm)
    (ho : cm (Str.ofString "other_cell") = some (.int (o : Int) to)) (hH : cm (Str.ofString "shelf") = some (.ref SH)) (hS : m (Str.ofString "second") = some (.ref S0)) (hR : cm (Str.ofString "ready") = some (.ref RD)) (h9 : L + 9 ≤ S0) (hS0 : s.heap.PlainList S0 (List.toArray [])) (hRD : L + 9 ≤ RD) (hne : RD ≠ S0) (hrd : s.heap.DictOf (sk w) RD krs) (hkr : KVr RdyAt krs xs) (hT : TabOk (MS L S0) s.heap)
    (hSH : s.heap.PlainList SH vh.toArray) (hH9 : L + 9 ≤ SH) (hHS : SH ≠ S0) (hvh : StrsAre vh xs) (hxs : xs.Pairwise ltT) (hlen : xs.length ≤ 1000) (hrev : pickS xs none none (some (-1)) = xs.reverse)
    (h : ∀ s' m' vs' xs', Upd (fun b => b = S0 ∨ b = L ∨ b = lawTab) s s' → Lw w s₀ s' L m' cm → (∀ n, n ≠ sText → m' n = m n) → s'.heap.PlainList S0 (List.toArray vs') → StrsAre vs' xs' → xs'.Pairwise (ltF fP) → xs'.Perm xs → TabOk (MS L S0) s'.heap → wpAny (model pw w) A (execs (lwBody 20) (lwEnv L)) Q E s') :
    wpAny (model pw w) A (execs (lwBody 19) (lwEnv L)) Q E s := by
  obtain ⟨ps, cs, he⟩ := lw_drop19
  rw [he]
  have len := StrsAre.len hvh
  have hnd := sorted_nodup hxs
  refine ifC ?_
  refine wpAny_BinOp (lwC F (c := L + 1) (by kernel_rfl) ho (wpAny_Constant_int (k := 0) (pos := (posN ps 0)) (mod_int (by decide) ?_)))
  refine wpAny_Constant_int (k := 0) (pos := (posN ps 0)) (PyProof.Rows.eq_int (wpAny_truthy_bool ?_))
  have U1 : Upd noW s { s with toks := s.toks + 1 + 1 + 1 } := .toks
  have F1 := F.keep0 U1
  have hS1 : ({ s with toks := s.toks + 1 + 1 + 1 } : Shared).heap.PlainList S0 (List.toArray []) := hS0
  have hrd1 : ({ s with toks := s.toks + 1 + 1 + 1 } : Shared).heap.DictOf (sk w) RD krs := hrd
  have hT1 : TabOk (MS L S0) ({ s with toks := s.toks + 1 + 1 + 1 } : Shared).heap := hT
  have hSH1 : ({ s with toks := s.toks + 1 + 1 + 1 } : Shared).heap.PlainList SH vh.toArray := hSH
  generalize s.toks + 1 + 1 = tk at U1 F1 hS1 hrd1 hT1 hSH1 ⊢
  generalize ({ s with toks := tk + 1 } : Shared) = s₁ at U1 F1 hS1 hrd1 hT1 hSH1 ⊢
  have fin : ∀ s' m' vs' xs', Upd (fun b => b = S0 ∨ b = L ∨ b = lawTab) s₁ s' → Lw w s₀ s' L m' cm → (∀ n, n ≠ sText → m' n = m n) → s'.heap.PlainList S0 (List.toArray vs') → StrsAre vs' xs' → xs'.Pairwise (ltF fP) → xs'.Perm xs → TabOk (MS L S0) s'.heap → wpAny (model pw w) A (execs (lwBody 20) (lwEnv L)) Q E s' :=
    fun s' m' vs' xs' U a b c d e f g => h s' m' vs' xs' (U1.up.trans U) a b c d e f g
  split
  · refine ins_loop (f := fP) (us := xs) hh F1 hS hR h9 hS1 hRD hne hrd1 hT1 hlen ?_ okIR (fun P => by kernel_rfl) (by kernel_rfl) (by kernel_rfl) ?_ ?_
    · intro Q E hq
      exact lwC F1 (c := L + 5) (by kernel_rfl) hH (hq SH vh s₁ hH9 hHS (.refl _ _) hSH1 hvh)
    · intro i s' ka vs' xs' x t Q E hx B' g1 g2 K g3 g4 hq
      have lx : xs'.length ≤ 1000 := by rw [g3.length_eq, List.length_take]; omega
      have mem : ∀ y ∈ xs', y ∈ xs.take i := fun y hy => g3.mem_iff.mp hy
      refine ins_right_key (f := fP) (hr.le (by decide)) B' g1 (by rw [StrsAre.len g2]; omega) g2 K (fun y u hy => ?_) (ltF fP) (ltF_trans fP) g4 (fun y hy q => ?_) (fun y hy q => .inl q) hq
      · exact dom_rdy hkr hnd (hy.elim (fun q => List.mem_of_mem_take (mem y q)) fun q => q ▸ List.mem_of_getElem? hx) u
      · rcases lt_or_eq_of_not q with q | q
        · exact .inl q
        · exact .inr ⟨q, lt_take hxs hx (mem y hy)⟩
    · intro s' m' vs' xs' U a b c d e f g
      exact fin s' m' vs' xs' U a b c d e f g
  · have hrevP : (xs.reverse).Pairwise fun a b => ltT b a := List.pairwise_reverse.mpr hxs
    refine ins_loop (f := fP) (us := xs.reverse) hh F1 hS hR h9 hS1 hRD hne hrd1 hT1 (by rw [List.length_reverse]; exact hlen) ?_ okIL (fun P => by kernel_rfl) (by kernel_rfl) (by kernel_rfl) ?_ ?_
    · intro Q E hq
      refine list_sl_step (lwC F1 (c := L + 5) (by kernel_rfl) hH (wpAny_evalPart_none (wpAny_evalPart_none (wpAny_UnaryOp (wpAny_Constant_int (k := 0) (pos := (posN ps 0)) (neg_int ?_))))))
      refine ⟨SH, vh.toArray, none, none, -1, rfl, hSH1, by simp; omega, .none, .none, .int _ _, by decide, fun D s₂ hD U hl => ?_⟩
      have hD' : hs s₁ ≤ D := hD
      refine hq D (slicePick vh.toArray none none (some (-1))).toList s₂ (Nat.le_trans F1.low hD') (Nat.ne_of_gt (Nat.lt_of_lt_of_le (lt_list hS1) hD')) ((Upd.toks (s := s₁) (t := s₁.toks + 1 + 1)).trans U) (by rw [Array.toArray_toList]; exact hl) ?_
      rw [← hrev]
      exact StrsAre.pick hvh _ _ _
    · intro i s' ka vs' xs' x t Q E hx B' g1 g2 K g3 g4 hq
      have lx : xs'.length ≤ 1000 := by rw [g3.length_eq, List.length_take, List.length_reverse]; omega
      have mem : ∀ y ∈ xs', y ∈ xs.reverse.take i := fun y hy => g3.mem_iff.mp hy
      refine ins_left_key (f := fP) (hr.le (by decide)) B' g1 (by rw [StrsAre.len g2]; omega) g2 K (fun y u hy => ?_) (ltF fP) (ltF_trans fP) g4 (fun y hy q => .inl q) (fun y hy q => ?_) hq
      · exact dom_rdy hkr hnd (hy.elim (fun q => List.mem_reverse.mp (List.mem_of_mem_take (mem y q))) fun q => q ▸ List.mem_reverse.mp (List.mem_of_getElem? hx)) u
      · rcases lt_or_eq_of_not q with q | q
        · exact .inl q
        · exact .inr ⟨q, gt_take hrevP hx (mem y hy)⟩
    · intro s' m' vs' xs' U a b c d e f g
      exact fin s' m' vs' xs' U a b c d e (f.trans (List.reverse_perm xs)) g
end
end
end Mine
namespace Mine
open PySem PySem.W PySem.Calls PyProof.Rows
noncomputable section
section
variable {w : World} {A : Around} {s s' s₀ : Shared} {L : Addr} {m cm : Str → Option Value} {E : Value → Shared → Prop} {env : Env}
theorem Lw.ge_ne (_F : Lw w s₀ s L m cm) {b : Addr} (q : L + 9 ≤ b) : b ≠ L := fun e => absurd q (by rw [e]; exact Nat.not_le.mpr (Nat.lt_add_of_pos_right (by decide)))
theorem Lw.ge_tab (F : Lw w s₀ s L m cm) {b : Addr} (q : L + 9 ≤ b) : b ≠ lawTab := fun e => absurd (Nat.lt_of_lt_of_le F.tab (Nat.le_trans (Nat.le_add_right L 9) (e ▸ q))) (Nat.lt_irrefl _)
theorem Lw.msTab (F : Lw w s₀ s L m cm) {S0 : Addr} (h9 : L + 9 ≤ S0) : ¬ MS L S0 lawTab := fun q => q.elim (fun q => absurd F.tab (by rw [q]; exact Nat.lt_irrefl _)) fun q => F.ge_tab h9 q.symm
theorem Lw.msLt (F : Lw w s₀ s L m cm) {S0 : Addr} (h : S0 < hs s) : ∀ b, MS L S0 b → b < hs s := fun b q => by
  rcases q with q | q
  · rw [q]; exact lt_of_ns F.ns
  · rw [q]; exact h
theorem lw_drop20 : ∃ (ps : List Pos) (cs : List Nat), lwBody 20 = (.If (.Compare (.Name (Str.ofString "second") (posN ps 0)) [.NotEq] [(.Call (.Name (Str.ofString "sorted") (posN ps 1)) [(.Name (Str.ofString "shelf") (posN ps 2))] [⟨some (Str.ofString "key"), (.Lambda (lamA (posN ps 3)) (.Subscript (.Name (Str.ofString "coded") (posN ps 4)) (.Name (Str.ofString "one") (posN ps 5)) (posN ps 6)) (mkSc [((Str.ofString "one"), .local), ((Str.ofString "coded"), .free)]) (posN ps 7)), (posN ps 8)⟩] (posN ps 9))] (posN ps 10)) [(.Return (some (.Constant (.bool false) (natN cs 0) (posN ps 11))) (posN ps 12))] [] (posN ps 13)) :: lwBody 21 :=
   ⟨[_, _, _, _, _, _, _, _, _, _, _, _, _, _], [_], rfl⟩
theorem lw20 {S0 SH CD : Addr} {vh vu : List Value} {xs us : List Str} {kcs : KVs} {Q : Flow → Shared → Prop} (hr : Room 100 A) (hh : A.handled = none) (F : Lw w s₀ s L m cm)
    (hH : cm (Str.ofString "shelf") = some (.ref SH)) (hS : m (Str.ofString "second") = some (.ref S0)) (hC : cm (Str.ofString "coded") = some (.ref CD)) (h9 : L + 9 ≤ S0) (hS0 : s.heap.PlainList S0 vu.toArray) (hvu : StrsAre vu us) (hus : us.Pairwise (ltF fP)) (hpu : us.Perm xs)
    (hCD : L + 9 ≤ CD) (hcd : s.heap.DictOf (sk w) CD kcs) (hkc : KVr (CodAt s.heap fun a => L + 9 ≤ a ∧ a ≠ S0) kcs xs) (hT : TabOk (MS L S0) s.heap)
    (hSH : s.heap.PlainList SH vh.toArray) (hH9 : L + 9 ≤ SH) (hvh : StrsAre vh xs) (hxs : xs.Pairwise ltT) (hlen : xs.length < 64)
    (h : ∀ s', Upd (fun b => b = lawTab) s s' → Lw w s₀ s' L m cm → TabOk (MS L S0) s'.heap → wpAny (model pw w) A (execs (lwBody 21) (lwEnv L)) Q E s') :
    wpAny (model pw w) A (execs (lwBody 20) (lwEnv L)) Q E s := by
  obtain ⟨ps, cs, he⟩ := lw_drop20
  rw [he]
  have len := StrsAre.len hvh
  have hnd := sorted_nodup hxs
  refine if_1 (isT_cmp (lwL F hS ?_))
  refine callBk (env := lwEnv L) (id := "sorted") F.base (fun P => by kernel_rfl) (fun P => by kernel_rfl) (lwC F (c := L + 5) (by kernel_rfl) hH ?_)
  refine lam_eval (x := Str.ofString "coded") (c := L + 7) F.base hT (F.msLt (lt_list hS0)) (by kernel_rfl) fun fl s₁ pm cv ct U1 hf1 T1 ho1 hr1 => ?_
  have F1 := F.keep U1 fun b q => .inl q
  have hcd1 : s₁.heap.DictOf (sk w) CD kcs := hcd.at fun o e => U1.get (F.ge_tab hCD) e
  have hkc1 : KVr (CodAt s₁.heap fun a => L + 9 ≤ a ∧ a ≠ S0) kcs xs := hkc.imp fun x v c => c.keep fun a p o e => U1.get (F.ge_tab p.1) e
  have hSH1 : s₁.heap.PlainList SH vh.toArray := hSH.at fun o e => U1.get (F.ge_tab hH9) e
  have hS1 : s₁.heap.PlainList S0 vu.toArray := hS0.at fun o e => U1.get (F.ge_tab h9) e
  have hcell1 := hC ▸ F1.cells (Str.ofString "coded") (L + 7) (by kernel_rfl)
  have hr0 : Room 20 A := hr.le (by decide)
  have hrm : Room 19 A.in1 := hr0.in1
  have hr2 : Room 18 A.in1.in1 := hrm.in1
  have hK : ∀ i x, xs[i]? = some x → (fun i => fP (xs.getD i ⟨#[]⟩)) i = fP x := fun i x hx => by
    show fP (xs.getD i ⟨#[]⟩) = fP x
    rw [List.getD_eq_getElem?_getD, hx]; rfl
  refine sorted_key (K := fun i => fP (xs.getD i ⟨#[]⟩)) hr2.units (collects_list hSH1 (by omega)) (fun ws hw => by rw [hw, len]; exact hlen) (fun ws hw => ?_) fun D out ws s₂ hD U2 l2 hw hst => ?_
  · rw [hw]
    refine lam_keycall (hr2.le (by decide)) F1.base (lam_ok (Str.ofString "coded") (posN ps 3) (posN ps 4) (posN ps 5) (posN ps 6) (.inr rfl)) ho1 hr1 hcell1 hcd1 fun i v hv => ?_
    obtain ⟨x, t, hx, rfl⟩ := StrsAre.at' hvh hv
    obtain ⟨v', hv', ka, kws, rfl, _, lk, ik⟩ := hkc1.at' hnd (List.mem_of_getElem? hx)
    refine ⟨x, t, ka, kws, rfl, hv', lk, ?_⟩
    have z := hK i x hx
    dsimp only at z
    rw [z]
    exact ik
  · rw [hw] at hst
    obtain ⟨ys, v2, e2, q2⟩ := stable_strs hst hvh fP hK (ltF fP) (fun a _ b _ q => .inl q) fun i j a b hij ha hb e => .inr ⟨e, by
      obtain ⟨h1, e1⟩ := List.getElem?_eq_some_iff.mp ha
      obtain ⟨h2, e2⟩ := List.getElem?_eq_some_iff.mp hb
      subst e1; subst e2
      exact List.pairwise_iff_getElem.mp hxs i j h1 h2 hij⟩
    have eq : us = ys := sorted_unique (ltF_irr fP) (ltF_trans fP) (hpu.trans e2.symm) hus q2
    refine ne_strs (hS1.at fun o e => U2.get id e) l2 hvu v2 (hr.le (by decide)) ⟨false, by simp [eq], rfl, ?_⟩
    exact h s₂ (U1.trans U2.up) (F1.keep0 U2) (T1.keep (fun b o _ e => U2.get id e) (F.msTab h9))
end
end
end Mine
namespace Mine
open PySem PySem.W PySem.Calls PyProof.Rows
noncomputable section
section
variable {w : World} {A : Around} {s s' s₀ : Shared} {L : Addr} {m cm : Str → Option Value} {E : Value → Shared → Prop} {env : Env}
theorem dict_at_bin {R : Addr} {kvs : KVs} {x : Str} {v : Value} {value l r : Expr} {op : Operator} {p pos : Pos} {Q : Value → Shared → Prop}
    (h : wpAny (model pw w) A (eval value env) (fun o s₁ => wpAny (model pw w) A (eval (.BinOp l op r p) env) (fun i s₂ => o = .ref R ∧ (∃ t, i = .str x t) ∧ s₂.heap.DictOf (sk w) R kvs ∧ valueAt kvs x = some v ∧ Q v { s₂ with toks := s₂.toks + 1 }) E s₁) E s)
    (ht : ∀ o r, letTemporaryGo value o r = pure () := by intro _ _; rfl) :
    wpAny (model pw w) A (eval (.Subscript value (.BinOp l op r p) pos) env) Q E s := by
  refine wpAny_Subscript_BinOp_late (wpAny_mono h (fun o s₁ h₁ => wpAny_mono h₁ (fun i s₂ h₂ => ?_) fun _ _ e => e) fun _ _ e => e) ht
  obtain ⟨rfl, ⟨t, rfl⟩, hd, hv, hq⟩ := h₂
  exact ⟨"dict", _, PySem.F.slot_dict_getitem.lookup, hd.typeIs, wpAny_getItem_of (knd := sk w) (PySem.strKind_is pw w x t) hd.mapOf hv hq⟩
theorem lw_drop21 : ∃ (ps : List Pos) (cs : List Nat), lwBody 21 = (.Assign [(.Name (Str.ofString "answers") (posN ps 0))] (.ListComp (.Call (.Name (Str.ofString "_strcoll") (posN ps 1)) [(.Subscript (.Name (Str.ofString "ready") (posN ps 2)) (.BinOp (.BinOp (.Name (Str.ofString "one") (posN ps 3)) .Add (.Name (Str.ofString "last") (posN ps 4)) (posN ps 5)) .Add (.Name (Str.ofString "last") (posN ps 6)) (posN ps 7)) (posN ps 8)), (.Subscript (.Name (Str.ofString "ready") (posN ps 9)) (.Name (Str.ofString "two") (posN ps 10)) (posN ps 11))] [] (posN ps 12)) [⟨(.Tuple [(.Name (Str.ofString "one") (posN ps 13)), (.Name (Str.ofString "two") (posN ps 14))] (natN cs 0) (posN ps 15)), (.Call (.Name (Str.ofString "zip") (posN ps 16)) [(.Name (Str.ofString "stock") (posN ps 17)), (.Subscript (.Name (Str.ofString "stock") (posN ps 18)) (.Slice (some (.Constant (.int 1) (natN cs 1) (posN ps 19))) none none (posN ps 20)) (posN ps 21))] [] (posN ps 22)), [], 0⟩] (mkSc [((Str.ofString ".0"), .local), ((Str.ofString "one"), .local), ((Str.ofString "two"), .local), ((Str.ofString "_strcoll"), .globalImplicit), ((Str.ofString "last"), .free), ((Str.ofString "ready"), .free)]) (posN ps 23)) (posN ps 24)) :: lwBody 22 ∧ (∀ L a b c, swapsWith (.ListComp a [⟨b, c, [], 0⟩] (mkSc [((Str.ofString ".0"), .local), ((Str.ofString "one"), .local), ((Str.ofString "two"), .local), ((Str.ofString "_strcoll"), .globalImplicit), ((Str.ofString "last"), .free), ((Str.ofString "ready"), .free)]) (posN ps 23)) (some (.Name (Str.ofString "answers") (posN ps 0))) (posN ps 24).line (lwEnv L) = pure true) :=
   ⟨[_, _, _, _, _, _, _, _, _, _, _, _, _, _, _, _, _, _, _, _, _, _, _, _, _], [_, _], rfl, fun L a b c => by kernel_rfl⟩
theorem lw21 {DS RD : Addr} {vs : List Value} {xs ts : List Str} {z : Str} {uz : Tok} {krs : KVs} {Q : Flow → Shared → Prop} (hr : Room 100 A) (hh : A.handled = none) (F : Lw w s₀ s L m cm) (hS : cm (Str.ofString "stock") = some (.ref DS)) (hZ : cm (Str.ofString "last") = some (.str z uz)) (hR : cm (Str.ofString "ready") = some (.ref RD))
    (hl : s.heap.PlainList DS vs.toArray) (hv : StrsAre vs ts) (hlen : ts.length ≤ 20) (hx : ∀ x ∈ ts, x.cps.size ≤ 1000) (hz : z.cps.size ≤ 1000) (hrd : s.heap.DictOf (sk w) RD krs) (hkr : KVr RdyAt krs xs) (hnd : xs.Nodup) (hm1 : ∀ a ∈ ts, a ∈ xs) (hm2 : ∀ a ∈ ts, (a ++ z) ++ z ∈ xs)
    (h : ∀ D ys s', hs s ≤ D → Upd (fun b => b = L) s s' → Lw w s₀ s' L (setM m (Str.ofString "answers") (.ref D)) cm → s'.heap.PlainList D (List.toArray ys) → IntsAre ys (nbs (fun a b => collOf (fP ((a ++ z) ++ z)) (fP b)) ts) → wpAny (model pw w) A (execs (lwBody 22) (lwEnv L)) Q E s') :
    wpAny (model pw w) A (execs (lwBody 21) (lwEnv L)) Q E s := by
  obtain ⟨ps, cs, he, hsw⟩ := lw_drop21
  rw [he]
  have hcR := hR ▸ F.cells (Str.ofString "ready") (L + 8) (by kernel_rfl)
  have hcZ := hZ ▸ F.cells (Str.ofString "last") (L + 4) (by kernel_rfl)
  refine nbr_to (c := L + 3) (cl := [(Str.ofString "ready", L + 8), (Str.ofString "last", L + 4)]) hh F (by kernel_rfl) hS hl hv (by omega) (hsw _ _ _ _) (by kernel_rfl) (by decide +kernel) (by kernel_rfl) (by decide +kernel) (fun C => ⟨compEnv_local (by kernel_rfl) (by kernel_rfl), compEnv_local (by kernel_rfl) (by kernel_rfl)⟩) ?_ h
  intro C s' m' a b ta tb Q E ha hb h1 h2 hns U hq
  have B' := (F.keep0 U).base
  obtain ⟨v1, hv1, y1, u1, rfl, e1⟩ := hkr.at' hnd (hm2 a ha)
  obtain ⟨v2, hv2, y2, u2, rfl, e2⟩ := hkr.at' hnd (hm1 b hb)
  have ga : a.length ≤ 1000 := hx a ha
  have gz : z.length ≤ 1000 := hz
  have c1 : s'.heap.IsCell (L + 4) (some (.str z uz)) := IsCell.at' hcZ fun o e => U.get id e
  have c2 : s'.heap.IsCell (L + 8) (some (.ref RD)) := IsCell.at' hcR fun o e => U.get id e
  have d1 : s'.heap.DictOf (sk w) RD krs := hrd.at fun o e => U.get id e
  refine callG2 okColl B' (fun P => by kernel_rfl) ?_
  have go : ∀ k : Tok, wpAny (model pw w) A (eval (.Subscript (.Name (Str.ofString "ready") (posN ps 9)) (.Name (Str.ofString "two") (posN ps 10)) (posN ps 11)) (compEnvC (mkSc [((Str.ofString ".0"), .local), ((Str.ofString "one"), .local), ((Str.ofString "two"), .local), ((Str.ofString "_strcoll"), .globalImplicit), ((Str.ofString "last"), .free), ((Str.ofString "ready"), .free)]) [(Str.ofString "ready", L + 8), (Str.ofString "last", L + 4)] C (lwEnv L))) (fun v s₁ => Base w s₁.heap ∧ wpAny (model pw w) A (call (.ref 121) [.str y1 u1, v] []) Q E s₁) E { s' with toks := k } := by
    intro k
    refine dict_at (s := { s' with toks := k }) (R := RD) (x := b) (t := tb) (kvs := krs) (v := .str y2 u2) ?_
    refine nC (c := L + 8) (by kernel_rfl) c2 ?_
    refine nL (s := { s' with toks := k }) hns h2 ⟨rfl, rfl, d1, hv2, B', ?_⟩
    refine strcoll_call (s := { s' with toks := k + 1 }) (hr.le (by decide)) B' fun tk s'' U' => ?_
    have e3 : b2i (decide (y2.cps.toList < y1.cps.toList)) - b2i (decide (y1.cps.toList < y2.cps.toList)) = collOf (fP ((a ++ z) ++ z)) (fP b) := by
      show collOf (tx y1) (tx y2) = _
      rw [e1, e2]
    rw [e3]
    exact hq tk s'' ((Upd.toks (s := s') (t := k + 1)).trans U')
  refine dict_at_bin (R := RD) (x := (a ++ z) ++ z) (kvs := krs) (v := .str y1 u1) ?_
  refine nC (c := L + 8) (by kernel_rfl) c2 ?_
  refine wpAny_BinOp (wpAny_BinOp (nL hns h1 (nC (c := L + 4) (by kernel_rfl) c1 (PyProof.Rows.add_str (fun t' tk => ?_) (Nat.le_trans (by omega) sz10k)))))
  refine nC (s := { s' with toks := tk }) (c := L + 4) (by kernel_rfl) c1 (PyProof.Rows.add_str (fun t'' tk' => ?_) ?_)
  · exact ⟨rfl, ⟨t'', rfl⟩, d1, hv1, go (tk' + 1)⟩
  · have : (a ++ z).length = a.length + z.length := by show (a.cps ++ z.cps).size = _; rw [Array.size_append]; rfl
    rw [this]
    exact Nat.le_trans (by omega) sz10k
theorem lw_drop22 : ∃ (ps : List Pos) (cs : List Nat), lwBody 22 = (.Assign [(.Name (Str.ofString "kept") (posN ps 0))] (.Compare (.Name (Str.ofString "answers") (posN ps 1)) [.Eq] [(.BinOp (.List [(.UnaryOp .USub (.Constant (.int 1) (natN cs 0) (posN ps 2)) (posN ps 3))] (posN ps 4)) .Mult (.Call (.Name (Str.ofString "len") (posN ps 5)) [(.Name (Str.ofString "answers") (posN ps 6))] [] (posN ps 7)) (posN ps 8))] (posN ps 9)) (posN ps 10)) :: lwBody 23 :=
   ⟨[_, _, _, _, _, _, _, _, _, _, _], [_], rfl⟩
theorem lw22 {AN : Addr} {va : List Value} {an : List Int} {Q : Flow → Shared → Prop} (hr : Room 100 A) (F : Lw w s₀ s L m cm) (hA : m (Str.ofString "answers") = some (.ref AN)) (hl : s.heap.PlainList AN va.toArray) (hi : IntsAre va an) (hlen : an.length ≤ 1000)
    (h : ∀ s', Upd (fun b => b = L) s s' → Lw w s₀ s' L (setM m (Str.ofString "kept") (.bool (decide (an = List.replicate an.length (-1))))) cm → wpAny (model pw w) A (execs (lwBody 23) (lwEnv L)) Q E s') :
    wpAny (model pw w) A (execs (lwBody 22) (lwEnv L)) Q E s := by
  obtain ⟨ps, cs, he⟩ := lw_drop22
  rw [he]
  have ly := IntsAre.len hi
  refine asg (wpAny_Compare1 (lwL F hA ?_)) (by kernel_rfl)
  refine rep_len (x := .int (-1) (s.toks + 1)) F hA hl (by omega) (fun Q E hq => minus_one hq) (by with_unfolding_all rfl) (by kernel_rfl) (by kernel_rfl) fun D s₁ hD U1 l1 => ?_
  have F1 := F.keep0 U1
  rw [ly] at l1
  refine eq_ints (hl.at fun o e => U1.get id e) l1 hi (intsAre_rep _) (hr.le (by decide)) ?_
  refine sL (env := lwEnv L) F1.ns fun s₂ U2 hn2 => ?_
  exact h s₂ (U1.up.trans U2) (F1.loc U2 hn2)
theorem lw_drop23 : ∃ (ps : List Pos) (cs : List Nat), lwBody 23 = (.Assign [(.Name (Str.ofString "prepared") (posN ps 0))] (.ListComp (.Call (.Name (Str.ofString "_strcoll") (posN ps 1)) [(.Subscript (.Name (Str.ofString "ready") (posN ps 2)) (.Name (Str.ofString "one") (posN ps 3)) (posN ps 4)), (.Subscript (.Name (Str.ofString "ready") (posN ps 5)) (.Name (Str.ofString "two") (posN ps 6)) (posN ps 7))] [] (posN ps 8)) [⟨(.Tuple [(.Name (Str.ofString "one") (posN ps 9)), (.Name (Str.ofString "two") (posN ps 10))] (natN cs 0) (posN ps 11)), (.Call (.Name (Str.ofString "zip") (posN ps 12)) [(.Name (Str.ofString "shelf") (posN ps 13)), (.Subscript (.Name (Str.ofString "shelf") (posN ps 14)) (.Slice (some (.Constant (.int 1) (natN cs 1) (posN ps 15))) none none (posN ps 16)) (posN ps 17))] [] (posN ps 18)), [], 0⟩] (mkSc [((Str.ofString ".0"), .local), ((Str.ofString "one"), .local), ((Str.ofString "two"), .local), ((Str.ofString "_strcoll"), .globalImplicit), ((Str.ofString "ready"), .free)]) (posN ps 19)) (posN ps 20)) :: lwBody 24 ∧ (∀ L a b c, swapsWith (.ListComp a [⟨b, c, [], 0⟩] (mkSc [((Str.ofString ".0"), .local), ((Str.ofString "one"), .local), ((Str.ofString "two"), .local), ((Str.ofString "_strcoll"), .globalImplicit), ((Str.ofString "ready"), .free)]) (posN ps 19)) (some (.Name (Str.ofString "prepared") (posN ps 0))) (posN ps 20).line (lwEnv L) = pure true) :=
   ⟨[_, _, _, _, _, _, _, _, _, _, _, _, _, _, _, _, _, _, _, _, _], [_, _], rfl, fun L a b c => by kernel_rfl⟩
theorem lw23 {SH RD : Addr} {vh : List Value} {xs : List Str} {krs : KVs} {Q : Flow → Shared → Prop} (hr : Room 100 A) (hh : A.handled = none) (F : Lw w s₀ s L m cm) (hS : cm (Str.ofString "shelf") = some (.ref SH)) (hR : cm (Str.ofString "ready") = some (.ref RD))
    (hl : s.heap.PlainList SH vh.toArray) (hv : StrsAre vh xs) (hlen : xs.length ≤ 1000) (hrd : s.heap.DictOf (sk w) RD krs) (hkr : KVr RdyAt krs xs) (hnd : xs.Nodup)
    (h : ∀ D ys s', hs s ≤ D → Upd (fun b => b = L) s s' → Lw w s₀ s' L (setM m (Str.ofString "prepared") (.ref D)) cm → s'.heap.PlainList D (List.toArray ys) → IntsAre ys (nbs (fun a b => collOf (fP a) (fP b)) xs) → wpAny (model pw w) A (execs (lwBody 24) (lwEnv L)) Q E s') :
    wpAny (model pw w) A (execs (lwBody 23) (lwEnv L)) Q E s := by
  obtain ⟨ps, cs, he, hsw⟩ := lw_drop23
  rw [he]
  have hcR := hR ▸ F.cells (Str.ofString "ready") (L + 8) (by kernel_rfl)
  refine nbr_to (c := L + 5) (cl := [(Str.ofString "ready", L + 8)]) hh F (by kernel_rfl) hS hl hv (by omega) (hsw _ _ _ _) (by kernel_rfl) (by decide +kernel) (by kernel_rfl) (by decide +kernel) (fun C => ⟨compEnv_local (by kernel_rfl) (by kernel_rfl), compEnv_local (by kernel_rfl) (by kernel_rfl)⟩) ?_ h
  intro C s' m' a b ta tb Q E ha hb h1 h2 hns U hq
  have B' := (F.keep0 U).base
  obtain ⟨v1, hv1, y1, u1, rfl, e1⟩ := hkr.at' hnd ha
  obtain ⟨v2, hv2, y2, u2, rfl, e2⟩ := hkr.at' hnd hb
  have c2 : s'.heap.IsCell (L + 8) (some (.ref RD)) := IsCell.at' hcR fun o e => U.get id e
  have d1 : s'.heap.DictOf (sk w) RD krs := hrd.at fun o e => U.get id e
  refine callG2 okColl B' (fun P => by kernel_rfl) ?_
  refine dict_at (R := RD) (x := a) (t := ta) (kvs := krs) (v := .str y1 u1) ?_
  refine nC (c := L + 8) (by kernel_rfl) c2 ?_
  refine nL hns h1 ⟨rfl, rfl, d1, hv1, ?_⟩
  refine dict_at (s := { s' with toks := s'.toks + 1 }) (R := RD) (x := b) (t := tb) (kvs := krs) (v := .str y2 u2) ?_
  refine nC (c := L + 8) (by kernel_rfl) c2 ?_
  refine nL (s := { s' with toks := s'.toks + 1 }) hns h2 ⟨rfl, rfl, d1, hv2, B', ?_⟩
  refine strcoll_call (s := { s' with toks := s'.toks + 1 + 1 }) (hr.le (by decide)) B' fun tk s'' U' => ?_
  have e3 : b2i (decide (y2.cps.toList < y1.cps.toList)) - b2i (decide (y1.cps.toList < y2.cps.toList)) = collOf (fP a) (fP b) := by
    show collOf (tx y1) (tx y2) = _
    rw [e1, e2]
  rw [e3]
  exact hq tk s'' ((Upd.toks (s := s') (t := s'.toks + 1 + 1)).trans U')
end
end
end Mine
namespace Mine
open PySem PySem.W PySem.Calls PyProof.Rows
noncomputable section
section
variable {w : World} {A : Around} {s s' s₀ : Shared} {L : Addr} {m cm : Str → Option Value} {E : Value → Shared → Prop} {env : Env}
theorem lw_drop24 : ∃ (ps : List Pos) (cs : List Nat), lwBody 24 = (.If (.BoolOp .Or [(.Compare (.Compare (.Name (Str.ofString "second") (posN ps 0)) [.Eq] [(.Name (Str.ofString "shelf") (posN ps 1))] (posN ps 2)) [.NotEq] [(.Name (Str.ofString "kept") (posN ps 3))] (posN ps 4)), (.Compare (.Compare (.Name (Str.ofString "prepared") (posN ps 5)) [.Eq] [(.Name (Str.ofString "typed") (posN ps 6))] (posN ps 7)) [.NotEq] [(.Name (Str.ofString "kept") (posN ps 8))] (posN ps 9))] (posN ps 10)) [(.Return (some (.Constant (.bool false) (natN cs 0) (posN ps 11))) (posN ps 12))] [] (posN ps 13)) :: lwBody 25 :=
   ⟨[_, _, _, _, _, _, _, _, _, _, _, _, _, _], [_], rfl⟩
theorem lw24 {S0 SH PR TY : Addr} {vu vh vp vy : List Value} {us xs : List Str} {pn yn : List Int} {kb : Bool} {Q : Flow → Shared → Prop} (hr : Room 100 A) (F : Lw w s₀ s L m cm) (hS : m (Str.ofString "second") = some (.ref S0)) (hH : cm (Str.ofString "shelf") = some (.ref SH)) (hK : m (Str.ofString "kept") = some (.bool kb)) (hP : m (Str.ofString "prepared") = some (.ref PR)) (hT : m (Str.ofString "typed") = some (.ref TY))
    (l1 : s.heap.PlainList S0 vu.toArray) (v1 : StrsAre vu us) (l2 : s.heap.PlainList SH vh.toArray) (v2 : StrsAre vh xs) (l3 : s.heap.PlainList PR vp.toArray) (v3 : IntsAre vp pn) (l4 : s.heap.PlainList TY vy.toArray) (v4 : IntsAre vy yn)
    (k1 : decide (us = xs) = kb) (k2 : decide (pn = yn) = kb)
    (h : wpAny (model pw w) A (execs (lwBody 25) (lwEnv L)) Q E s) :
    wpAny (model pw w) A (execs (lwBody 24) (lwEnv L)) Q E s := by
  obtain ⟨ps, cs, he⟩ := lw_drop24
  rw [he]
  refine if_or2 (isT_cmp (wpAny_Compare1 (lwL F hS (lwC F (c := L + 5) (by kernel_rfl) hH (eq_strs l1 l2 v1 v2 (hr.le (by decide)) ?_)))))
  refine lwL F hK (ne_bools (hr.le (by decide)) ⟨false, by rw [k1]; simp, rfl, ?_⟩)
  refine isT_cmp (wpAny_Compare1 (lwL F hP (lwL F hT (eq_ints l3 l4 v3 v4 (hr.le (by decide)) ?_))))
  refine lwL F hK (ne_bools (hr.le (by decide)) ⟨false, by rw [k2]; simp, rfl, h⟩)
theorem lw_drop27 : ∃ (ps : List Pos) (cs : List Nat), lwBody 27 = (.If (.BoolOp .Or [(.Compare (.Compare (.Name (Str.ofString "found") (posN ps 0)) [.Eq] [(.Name (Str.ofString "places") (posN ps 1))] (posN ps 2)) [.NotEq] [(.Name (Str.ofString "kept") (posN ps 3))] (posN ps 4)), (.Compare (.Compare (.Name (Str.ofString "passed") (posN ps 5)) [.Eq] [(.ListComp (.BinOp (.Name (Str.ofString "place") (posN ps 6)) .Add (.Constant (.int 1) (natN cs 0) (posN ps 7)) (posN ps 8)) [⟨(.Name (Str.ofString "place") (posN ps 9)), (.Name (Str.ofString "places") (posN ps 10)), [], 0⟩] (mkSc [((Str.ofString ".0"), .local), ((Str.ofString "place"), .local)]) (posN ps 11))] (posN ps 12)) [.NotEq] [(.Name (Str.ofString "kept") (posN ps 13))] (posN ps 14))] (posN ps 15)) [(.Return (some (.Constant (.bool false) (natN cs 1) (posN ps 16))) (posN ps 17))] [] (posN ps 18)) :: lwBody 28 :=
   ⟨[_, _, _, _, _, _, _, _, _, _, _, _, _, _, _, _, _, _, _], [_, _], rfl⟩
theorem lw27 {FO PS PL : Addr} {vf vq vp : List Value} {fn qn : List Int} {n : Nat} {kb : Bool} {Q : Flow → Shared → Prop} (hr : Room 100 A) (hh : A.handled = none) (F : Lw w s₀ s L m cm) (hF : m (Str.ofString "found") = some (.ref FO)) (hK : m (Str.ofString "kept") = some (.bool kb)) (hP : m (Str.ofString "places") = some (.ref PL)) (hQ : m (Str.ofString "passed") = some (.ref PS))
    (l1 : s.heap.PlainList FO vf.toArray) (v1 : IntsAre vf fn) (l2 : s.heap.PlainList PL vp.toArray) (v2 : IntsAre vp (placesL n)) (l3 : s.heap.PlainList PS vq.toArray) (v3 : IntsAre vq qn) (hn : n ≤ 1000)
    (k1 : decide (fn = placesL n) = kb) (k2 : decide (qn = places1 n) = kb)
    (h : ∀ s', Upd noW s s' → Lw w s₀ s' L m cm → wpAny (model pw w) A (execs (lwBody 28) (lwEnv L)) Q E s') :
    wpAny (model pw w) A (execs (lwBody 27) (lwEnv L)) Q E s := by
  obtain ⟨ps, cs, he⟩ := lw_drop27
  rw [he]
  refine if_or2 (isT_cmp (wpAny_Compare1 (lwL F hF (lwL F hP (eq_ints l1 l2 v1 v2 (hr.le (by decide)) ?_)))))
  refine lwL F hK (ne_bools (hr.le (by decide)) ⟨false, by rw [k1]; simp, rfl, ?_⟩)
  refine isT_cmp (wpAny_Compare1 (lwL F hQ (plus_comp hh F hP l2 v2 hn fun D ys s₁ hD U1 l4 v4 => eq_ints (l3.at fun o e => U1.get id e) l4 v3 v4 (hr.le (by decide)) ?_)))
  have F1 := F.keep0 U1
  exact lwL F1 hK (ne_bools (hr.le (by decide)) ⟨false, by rw [k2]; simp, rfl, h s₁ U1 F1⟩)
end
end
end Mine
namespace Mine
open PySem PySem.W PySem.Calls PyProof.Rows
noncomputable section
noncomputable def pL (f : Str → List Nat) (xs : List Str) (k : List Nat) (i : Nat) : Bool := decide (f (xs.getD i e0) < k)
noncomputable def pR (f : Str → List Nat) (xs : List Str) (k : List Nat) (i : Nat) : Bool := !decide (k < f (xs.getD i e0))
/-- what the bisections of a comprehension give -/
noncomputable def BisAll (p : List Nat → Nat → Bool) (xs : List Str) (rs : List Nat) : Prop := rs.length = xs.length ∧ ∀ (i : Nat) (x : Str) (r : Nat), xs[i]? = some x → rs[i]? = some r → Bis (p (fP x)) xs.length r
section
variable {w : World} {A : Around} {s s' s₀ : Shared} {L : Addr} {m cm : Str → Option Value} {E : Value → Shared → Prop} {env : Env}
theorem bis_left_any {a ka : Addr} {dom : Value → List Nat → Prop} {f : Str → List Nat} {vs : List Value} {xs : List Str} {x : Str} {t : Tok} {Q : Value → Shared → Prop} (hr : Room 40 A) (B : Base w s.heap) (hl : s.heap.PlainList a vs.toArray) (hv : StrsAre vs xs) (hz : xs.length ≤ 10000) (K : KeySpec w s ka dom) (hd : ∀ y u, y ∈ xs → dom (.str y u) (f y))
    (h : ∀ r t' s', Upd noW s s' → Bis (pL f xs (tx x)) xs.length r → Q (.int (r : Int) t') s') : wpAny (model pw w) A (call (.ref 114) [.ref a, .str x t] [(Str.ofString "key", .ref ka)]) Q E s := by
  have len := StrsAre.len hv
  refine bl_key (args := ⟨[.ref a, .str x t], [(Str.ofString "key", .ref ka)]⟩) (ks := fun i => f (xs.getD i e0)) (p := pL f xs (tx x)) (hr.le (by decide)) B (bl_bind2k B) hl.isList (by simp; omega) (fun env => ?_) (fun i hi => rfl) fun r t' s' U hb => ?_
  · refine K.ok ((hr.le (n := 40) (k := 21) (by decide)).deeper env) fun i hi => ?_
    obtain ⟨y, u, h1, h2⟩ := StrsAre.get' hv (i := i) hi
    rw [List.getElem?_eq_getElem hi] at h1
    have e := Option.some.inj h1
    rw [e, List.getD_eq_getElem?_getD, h2]
    exact hd y u (List.mem_of_getElem? h2)
  · have e : vs.toArray.size = xs.length := by simp [len]
    rw [e] at hb
    exact h r t' s' U hb
theorem bis_right_any {a ka : Addr} {dom : Value → List Nat → Prop} {f : Str → List Nat} {vs : List Value} {xs : List Str} {x : Str} {t : Tok} {Q : Value → Shared → Prop} (hr : Room 40 A) (B : Base w s.heap) (hl : s.heap.PlainList a vs.toArray) (hv : StrsAre vs xs) (hz : xs.length ≤ 10000) (K : KeySpec w s ka dom) (hd : ∀ y u, y ∈ xs → dom (.str y u) (f y))
    (h : ∀ r t' s', Upd noW s s' → Bis (pR f xs (tx x)) xs.length r → Q (.int (r : Int) t') s') : wpAny (model pw w) A (call (.ref 96) [.ref a, .str x t] [(Str.ofString "key", .ref ka)]) Q E s := by
  have len := StrsAre.len hv
  refine br_key (args := ⟨[.ref a, .str x t], [(Str.ofString "key", .ref ka)]⟩) (ks := fun i => f (xs.getD i e0)) (p := pR f xs (tx x)) (hr.le (by decide)) B (br_bind2k B) hl.isList (by simp; omega) (fun env => ?_) (fun i hi => by unfold pR; simp) fun r t' s' U hb => ?_
  · refine K.ok ((hr.le (n := 40) (k := 21) (by decide)).deeper env) fun i hi => ?_
    obtain ⟨y, u, h1, h2⟩ := StrsAre.get' hv (i := i) hi
    rw [List.getElem?_eq_getElem hi] at h1
    have e := Option.some.inj h1
    rw [e, List.getD_eq_getElem?_getD, h2]
    exact hd y u (List.mem_of_getElem? h2)
  · have e : vs.toArray.size = xs.length := by simp [len]
    rw [e] at hb
    exact h r t' s' U hb
end
end
end Mine
namespace Mine
open PySem PySem.W PySem.Calls PyProof.Rows
noncomputable section
section
variable {w : World} {A : Around} {s s' s₀ : Shared} {L : Addr} {m cm : Str → Option Value} {E : Value → Shared → Prop} {env : Env}
theorem lw_drop25 : ∃ (ps : List Pos), lwBody 25 = (.Assign [(.Name (Str.ofString "found") (posN ps 0))] (.ListComp (.Call (.Name (Str.ofString "bisect_left") (posN ps 1)) [(.Name (Str.ofString "shelf") (posN ps 2)), (.Subscript (.Name (Str.ofString "ready") (posN ps 3)) (.Name (Str.ofString "text") (posN ps 4)) (posN ps 5))] [⟨some (Str.ofString "key"), (.Lambda (lamA (posN ps 6)) (.Subscript (.Name (Str.ofString "ready") (posN ps 7)) (.Name (Str.ofString "one") (posN ps 8)) (posN ps 9)) (mkSc [((Str.ofString "one"), .local), ((Str.ofString "ready"), .free)]) (posN ps 10)), (posN ps 11)⟩] (posN ps 12)) [⟨(.Name (Str.ofString "text") (posN ps 13)), (.Name (Str.ofString "shelf") (posN ps 14)), [], 0⟩] (mkSc [((Str.ofString ".0"), .local), ((Str.ofString "text"), .local), ((Str.ofString "bisect_left"), .globalImplicit), ((Str.ofString "ready"), .free), ((Str.ofString "shelf"), .free)]) (posN ps 15)) (posN ps 16)) :: lwBody 26 ∧ (∀ L a b c, swapsWith (.ListComp a [⟨b, c, [], 0⟩] (mkSc [((Str.ofString ".0"), .local), ((Str.ofString "text"), .local), ((Str.ofString "bisect_left"), .globalImplicit), ((Str.ofString "ready"), .free), ((Str.ofString "shelf"), .free)]) (posN ps 15)) (some (.Name (Str.ofString "found") (posN ps 0))) (posN ps 16).line (lwEnv L) = pure true) :=
   ⟨[_, _, _, _, _, _, _, _, _, _, _, _, _, _, _, _, _], rfl, fun L a b c => by kernel_rfl⟩
theorem lw25 {S0 SH RD : Addr} {vh vu : List Value} {xs : List Str} {krs : KVs} {Q : Flow → Shared → Prop} (hr : Room 100 A) (hh : A.handled = none) (F : Lw w s₀ s L m cm)
    (hH : cm (Str.ofString "shelf") = some (.ref SH)) (hR : cm (Str.ofString "ready") = some (.ref RD)) (h9 : L + 9 ≤ S0) (hS0 : s.heap.PlainList S0 vu.toArray) (hRD : L + 9 ≤ RD) (hrd : s.heap.DictOf (sk w) RD krs) (hkr : KVr RdyAt krs xs) (hT : TabOk (MS L S0) s.heap)
    (hSH : s.heap.PlainList SH vh.toArray) (hH9 : L + 9 ≤ SH) (hvh : StrsAre vh xs) (hnd : xs.Nodup) (hlen : xs.length ≤ 1000)
    (h : ∀ D ys rs s', hs s ≤ D → Upd (fun b => b = L ∨ b = lawTab) s s' → Lw w s₀ s' L (setM m (Str.ofString "found") (.ref D)) cm → s'.heap.PlainList D (List.toArray ys) → IntsAre ys (rs.map fun r : Nat => (r : Int)) → BisAll (pL fP xs) xs rs → TabOk (MS L S0) s'.heap → wpAny (model pw w) A (execs (lwBody 26) (lwEnv L)) Q E s') :
    wpAny (model pw w) A (execs (lwBody 25) (lwEnv L)) Q E s := by
  obtain ⟨ps, he, hsw⟩ := lw_drop25
  rw [he]
  have len := StrsAre.len hvh
  have hcR := hR ▸ F.cells (Str.ofString "ready") (L + 8) (by kernel_rfl)
  have hcS := hH ▸ F.cells (Str.ofString "shelf") (L + 5) (by kernel_rfl)
  refine list_comp_to (cl := [(Str.ofString "shelf", L + 5), (Str.ofString "ready", L + 8)]) (hsw _ _ _ _) (by kernel_rfl) (by decide +kernel) (by kernel_rfl) (by decide +kernel) ?_
  refine lwC F (c := L + 5) (by kernel_rfl) hH ?_
  refine iter_list hh hSH fun I St s₂ hI1 hI2 hl2 U2 Fd st => ?_
  have F2 := F.keep0 U2
  have hI9 : L + 9 ≤ I := Nat.le_trans F.low hI1
  have hSs : S0 < hs s := lt_list hS0
  have tab : ∀ C D, hs s₂ ≤ C → hs s₂ ≤ D → ¬ ((MS L S0 lawTab ∨ lawTab = I) ∨ lawTab = C ∨ lawTab = D) := fun C D hC hD q => by
    rcases q with (q | q) | q | q
    · exact F.msTab h9 q
    · exact F.ge_tab hI9 q.symm
    · exact F.ge_tab (Nat.le_trans F2.low hC) q.symm
    · exact F.ge_tab (Nat.le_trans F2.low hD) q.symm
  refine ⟨[I, SH], [I], vh.length, St, _, _, fun b => b = lawTab, fun C D i ys s' => TabOk (fun b => (MS L S0 b ∨ b = I) ∨ b = C ∨ b = D) s'.heap ∧ (hs s₂ ≤ C ∧ hs s₂ ≤ D) ∧ ∃ rs : List Nat, IntsAre ys (rs.map fun r : Nat => (r : Int)) ∧ rs.length = i ∧ ∀ (j : Nat) (x : Str) (r : Nat), xs[j]? = some x → rs[j]? = some r → Bis (pL fP xs (fP x)) xs.length r, Fd _ _, by omega, st, ?_, fun C => compEnv_local (by kernel_rfl) (by kernel_rfl), ?_, ?_, ?_, ?_, ?_⟩
  · intro b hb
    rcases List.mem_cons.mp hb with e | hb
    · exact e ▸ hI2
    · rw [List.mem_singleton.mp hb]; exact Nat.lt_of_lt_of_le hl2 U2.size
  · rintro b rfl
    refine ⟨fun hb => ?_, ?_⟩
    · rcases List.mem_cons.mp hb with e | hb
      · exact F.ge_tab hI9 e.symm
      · exact F.ge_tab hH9 (List.mem_singleton.mp hb).symm
    · exact Nat.lt_of_lt_of_le F.tab (Nat.le_trans (Nat.le_add_right _ _) F2.low)
  · intro C D s' hC hD hCD U
    refine ⟨?_, ⟨hC, hD⟩, [], .nil, rfl, fun j x r _ q => by simp at q⟩
    have t1 : TabOk (fun b => (MS L S0 b ∨ b = I) ∨ b = C ∨ b = D) s.heap := hT.remap fun b q => by
      rcases q with (q | q) | q | q
      · exact .inl q
      · exact .inr (q ▸ hI1)
      · exact .inr (q ▸ Nat.le_trans U2.size hC)
      · exact .inr (q ▸ Nat.le_trans U2.size hD)
    exact t1.keep (fun b o _ e => U.get id (U2.get id e)) (tab C D hC hD)
  · rintro C D i ys s' s'' ⟨t1, ⟨hC, hD⟩, r⟩ U
    refine ⟨t1.keep (fun b o nb e => U.get (fun q => nb ?_) e) (tab C D hC hD), ⟨hC, hD⟩, r⟩
    rcases q with q | q | q
    · exact .inl (.inr (List.mem_singleton.mp q))
    · exact .inr (.inl q)
    · exact .inr (.inr q)
  · rintro C D i ys s₃ m₁ m₂ E' hC hD hCD hi ⟨T3, _, rs, i1, i2, i3⟩ ⟨v, hvi, rfl⟩ hns hl3 U3
    obtain ⟨x, t, hx, rfl⟩ := StrsAre.at' hvh hvi
    have hxm := List.mem_of_getElem? hx
    obtain ⟨v1, hv1, y1, u1, rfl, e1⟩ := hkr.at' hnd hxm
    have V3 : Upd (fun b => b = lawTab) s s₃ := Upd.then_fresh U2.up (U3.mono fun b q => q.elim .inl fun q => .inr (by rw [List.mem_singleton.mp q]; exact hI1))
    have F3 := F.keep V3 fun b q => .inl q
    have c8 : s₃.heap.IsCell (L + 8) (some (.ref RD)) := hR ▸ F3.cells (Str.ofString "ready") (L + 8) (by kernel_rfl)
    have c5 : s₃.heap.IsCell (L + 5) (some (.ref SH)) := hH ▸ F3.cells (Str.ofString "shelf") (L + 5) (by kernel_rfl)
    have d3 : s₃.heap.DictOf (sk w) RD krs := hrd.at fun o e => V3.get (F.ge_tab hRD) e
    have l3' : s₃.heap.PlainList SH vh.toArray := hSH.at fun o e => V3.get (F.ge_tab hH9) e
    refine wpAny_tests_nil ?_
    simp only [if_true]
    refine callG2k okBL F3.base (fun P => by kernel_rfl) ?_
    refine nC (c := L + 5) (by kernel_rfl) c5 ?_
    refine dict_at (R := RD) (x := x) (t := t) (kvs := krs) (v := .str y1 u1) ?_
    refine nC (c := L + 8) (by kernel_rfl) c8 ?_
    refine nL hns (v := .str x t) (if_pos rfl) ⟨rfl, rfl, d3, hv1, ?_⟩
    have U4 : Upd noW s₃ { s₃ with toks := s₃.toks + 1 } := .toks
    have F4 := F3.keep0 U4
    have T4 : TabOk (fun b => (MS L S0 b ∨ b = I) ∨ b = C ∨ b = D) ({ s₃ with toks := s₃.toks + 1 } : Shared).heap := T3
    have z4 : hs s₃ ≤ hs { s₃ with toks := s₃.toks + 1 } := U4.size
    have d4 : ({ s₃ with toks := s₃.toks + 1 } : Shared).heap.DictOf (sk w) RD krs := d3
    have l4 : ({ s₃ with toks := s₃.toks + 1 } : Shared).heap.PlainList SH vh.toArray := l3'
    generalize ({ s₃ with toks := s₃.toks + 1 } : Shared) = s₄ at U4 F4 T4 z4 d4 l4 ⊢
    refine lam_eval (x := Str.ofString "ready") (c := L + 8) F4.base T4 (fun b q => ?_) (by kernel_rfl) fun fl s₅ pm cv ct U5 hf5 T5 ho5 hr5 => ?_
    · have zz : hs s ≤ hs s₃ := V3.size
      rcases q with (q | q) | q | q
      · exact F4.msLt (Nat.lt_of_lt_of_le hSs (Nat.le_trans zz z4)) b q
      · rw [q]; exact Nat.lt_of_lt_of_le hI2 (Nat.le_trans U3.size z4)
      · rw [q]; exact Nat.lt_of_lt_of_le (lt_of_ns hns) z4
      · rw [q]; exact Nat.lt_of_lt_of_le (lt_list hl3) z4
    · have F5 := F4.keep U5 fun b q => .inl q
      have d5 : s₅.heap.DictOf (sk w) RD krs := d4.at fun o e => U5.get (F.ge_tab hRD) e
      have l5 : s₅.heap.PlainList SH vh.toArray := l4.at fun o e => U5.get (F.ge_tab hH9) e
      have K5 : KeySpec w s₅ fl (DomOf krs) := lam_spec F5.base (lam_ok (Str.ofString "ready") (posN ps 6) (posN ps 7) (posN ps 8) (posN ps 9) (.inl rfl)) ho5 hr5 (hR ▸ F5.cells (Str.ofString "ready") (L + 8) (by kernel_rfl)) d5
      refine ⟨F5.base, bis_left_any (f := fP) (hr.le (by decide)) F5.base l5 hvh (by omega) K5 (fun y u hy => dom_rdy hkr hnd hy u) fun r t' s₆ U6 hb => ?_⟩
      refine ⟨U4.up.trans (U5.trans U6.up), T5.keep (fun b o _ e => U6.get id e) (tab C D hC hD), ⟨hC, hD⟩, rs ++ [r], ?_, by rw [List.length_append, i2]; rfl, ?_⟩
      · rw [List.map_append]; exact IntsAre.snoc i1
      · intro j x' r' hx' hr'
        by_cases hj : j < rs.length
        · rw [List.getElem?_append_left hj] at hr'
          exact i3 j x' r' hx' hr'
        · have hji : j = i := by
            have := (List.getElem?_eq_some_iff.mp hr').1
            rw [List.length_append] at this
            simp at this; omega
          subst hji
          rw [hx] at hx'
          cases hx'
          rw [List.getElem?_append_right (by omega), i2, Nat.sub_self] at hr'
          cases hr'
          rw [e1] at hb
          exact hb
  · rintro C D ys s₃ m₃ hC hD hCD ⟨T3, _, rs, i1, i2, i3⟩ hy hl3 hns U3
    have V3 : Upd (fun b => b = lawTab) s s₃ := Upd.then_fresh U2.up (U3.mono fun b q => q.elim .inl fun q => .inr (by rw [List.mem_singleton.mp q]; exact hI1))
    have F3 := F.keep V3 fun b q => .inl q
    have hC9 : L + 9 ≤ C := Nat.le_trans F2.low hC
    have hD9 : L + 9 ≤ D := Nat.le_trans F2.low hD
    refine sL (env := lwEnv L) F3.ns fun s₄ U4 hn4 => ⟨⟨m₃, U4.ns (fun q => F.ge_ne hC9 q) hns⟩, fun s₅ U5 => ?_⟩
    have F4 := F3.loc U4 hn4
    have F5 := F4.keep U5 fun b q => .inr (q ▸ hC9)
    have sC' : hs s ≤ C := Nat.le_trans U2.size hC
    refine h D ys rs s₅ (Nat.le_trans U2.size hD) ?_ F5 ((hl3.at fun o e => U4.get (F.ge_ne hD9) e).at fun o e => U5.get (fun q => hCD q.symm) e) i1 ⟨by omega, i3⟩ ?_
    · exact Upd.then_fresh ((V3.mono fun b q => .inr q).trans (U4.mono fun b q => .inl q)) (U5.mono fun b q => .inr (q ▸ sC'))
    · have t4 := T3.keep (h' := s₄.heap) (fun b o nb e => U4.get (fun q => nb (.inl (.inl (.inl q)))) e) (tab C D hC hD)
      have t5 := t4.keep (h' := s₅.heap) (fun b o nb e => U5.get (fun q => nb (.inr (.inl q))) e) (tab C D hC hD)
      exact t5.remap fun b q => .inl (.inl (.inl q))
end
end
end Mine
namespace Mine
open PySem PySem.W PySem.Calls PyProof.Rows
noncomputable section
section
variable {w : World} {A : Around} {s s' s₀ : Shared} {L : Addr} {m cm : Str → Option Value} {E : Value → Shared → Prop} {env : Env}
theorem lw_drop26 : ∃ (ps : List Pos), lwBody 26 = (.Assign [(.Name (Str.ofString "passed") (posN ps 0))] (.ListComp (.Call (.Name (Str.ofString "bisect_right") (posN ps 1)) [(.Name (Str.ofString "shelf") (posN ps 2)), (.Subscript (.Name (Str.ofString "ready") (posN ps 3)) (.Name (Str.ofString "text") (posN ps 4)) (posN ps 5))] [⟨some (Str.ofString "key"), (.Lambda (lamA (posN ps 6)) (.Subscript (.Name (Str.ofString "ready") (posN ps 7)) (.Name (Str.ofString "one") (posN ps 8)) (posN ps 9)) (mkSc [((Str.ofString "one"), .local), ((Str.ofString "ready"), .free)]) (posN ps 10)), (posN ps 11)⟩] (posN ps 12)) [⟨(.Name (Str.ofString "text") (posN ps 13)), (.Name (Str.ofString "shelf") (posN ps 14)), [], 0⟩] (mkSc [((Str.ofString ".0"), .local), ((Str.ofString "text"), .local), ((Str.ofString "bisect_right"), .globalImplicit), ((Str.ofString "ready"), .free), ((Str.ofString "shelf"), .free)]) (posN ps 15)) (posN ps 16)) :: lwBody 27 ∧ (∀ L a b c, swapsWith (.ListComp a [⟨b, c, [], 0⟩] (mkSc [((Str.ofString ".0"), .local), ((Str.ofString "text"), .local), ((Str.ofString "bisect_right"), .globalImplicit), ((Str.ofString "ready"), .free), ((Str.ofString "shelf"), .free)]) (posN ps 15)) (some (.Name (Str.ofString "passed") (posN ps 0))) (posN ps 16).line (lwEnv L) = pure true) :=
   ⟨[_, _, _, _, _, _, _, _, _, _, _, _, _, _, _, _, _], rfl, fun L a b c => by kernel_rfl⟩
theorem lw26 {S0 SH RD : Addr} {vh vu : List Value} {xs : List Str} {krs : KVs} {Q : Flow → Shared → Prop} (hr : Room 100 A) (hh : A.handled = none) (F : Lw w s₀ s L m cm)
    (hH : cm (Str.ofString "shelf") = some (.ref SH)) (hR : cm (Str.ofString "ready") = some (.ref RD)) (h9 : L + 9 ≤ S0) (hS0 : s.heap.PlainList S0 vu.toArray) (hRD : L + 9 ≤ RD) (hrd : s.heap.DictOf (sk w) RD krs) (hkr : KVr RdyAt krs xs) (hT : TabOk (MS L S0) s.heap)
    (hSH : s.heap.PlainList SH vh.toArray) (hH9 : L + 9 ≤ SH) (hvh : StrsAre vh xs) (hnd : xs.Nodup) (hlen : xs.length ≤ 1000)
    (h : ∀ D ys rs s', hs s ≤ D → Upd (fun b => b = L ∨ b = lawTab) s s' → Lw w s₀ s' L (setM m (Str.ofString "passed") (.ref D)) cm → s'.heap.PlainList D (List.toArray ys) → IntsAre ys (rs.map fun r : Nat => (r : Int)) → BisAll (pR fP xs) xs rs → TabOk (MS L S0) s'.heap → wpAny (model pw w) A (execs (lwBody 27) (lwEnv L)) Q E s') :
    wpAny (model pw w) A (execs (lwBody 26) (lwEnv L)) Q E s := by
  obtain ⟨ps, he, hsw⟩ := lw_drop26
  rw [he]
  have len := StrsAre.len hvh
  have hcR := hR ▸ F.cells (Str.ofString "ready") (L + 8) (by kernel_rfl)
  have hcS := hH ▸ F.cells (Str.ofString "shelf") (L + 5) (by kernel_rfl)
  refine list_comp_to (cl := [(Str.ofString "shelf", L + 5), (Str.ofString "ready", L + 8)]) (hsw _ _ _ _) (by kernel_rfl) (by decide +kernel) (by kernel_rfl) (by decide +kernel) ?_
  refine lwC F (c := L + 5) (by kernel_rfl) hH ?_
  refine iter_list hh hSH fun I St s₂ hI1 hI2 hl2 U2 Fd st => ?_
  have F2 := F.keep0 U2
  have hI9 : L + 9 ≤ I := Nat.le_trans F.low hI1
  have hSs : S0 < hs s := lt_list hS0
  have tab : ∀ C D, hs s₂ ≤ C → hs s₂ ≤ D → ¬ ((MS L S0 lawTab ∨ lawTab = I) ∨ lawTab = C ∨ lawTab = D) := fun C D hC hD q => by
    rcases q with (q | q) | q | q
    · exact F.msTab h9 q
    · exact F.ge_tab hI9 q.symm
    · exact F.ge_tab (Nat.le_trans F2.low hC) q.symm
    · exact F.ge_tab (Nat.le_trans F2.low hD) q.symm
  refine ⟨[I, SH], [I], vh.length, St, _, _, fun b => b = lawTab, fun C D i ys s' => TabOk (fun b => (MS L S0 b ∨ b = I) ∨ b = C ∨ b = D) s'.heap ∧ (hs s₂ ≤ C ∧ hs s₂ ≤ D) ∧ ∃ rs : List Nat, IntsAre ys (rs.map fun r : Nat => (r : Int)) ∧ rs.length = i ∧ ∀ (j : Nat) (x : Str) (r : Nat), xs[j]? = some x → rs[j]? = some r → Bis (pR fP xs (fP x)) xs.length r, Fd _ _, by omega, st, ?_, fun C => compEnv_local (by kernel_rfl) (by kernel_rfl), ?_, ?_, ?_, ?_, ?_⟩
  · intro b hb
    rcases List.mem_cons.mp hb with e | hb
    · exact e ▸ hI2
    · rw [List.mem_singleton.mp hb]; exact Nat.lt_of_lt_of_le hl2 U2.size
  · rintro b rfl
    refine ⟨fun hb => ?_, ?_⟩
    · rcases List.mem_cons.mp hb with e | hb
      · exact F.ge_tab hI9 e.symm
      · exact F.ge_tab hH9 (List.mem_singleton.mp hb).symm
    · exact Nat.lt_of_lt_of_le F.tab (Nat.le_trans (Nat.le_add_right _ _) F2.low)
  · intro C D s' hC hD hCD U
    refine ⟨?_, ⟨hC, hD⟩, [], .nil, rfl, fun j x r _ q => by simp at q⟩
    have t1 : TabOk (fun b => (MS L S0 b ∨ b = I) ∨ b = C ∨ b = D) s.heap := hT.remap fun b q => by
      rcases q with (q | q) | q | q
      · exact .inl q
      · exact .inr (q ▸ hI1)
      · exact .inr (q ▸ Nat.le_trans U2.size hC)
      · exact .inr (q ▸ Nat.le_trans U2.size hD)
    exact t1.keep (fun b o _ e => U.get id (U2.get id e)) (tab C D hC hD)
  · rintro C D i ys s' s'' ⟨t1, ⟨hC, hD⟩, r⟩ U
    refine ⟨t1.keep (fun b o nb e => U.get (fun q => nb ?_) e) (tab C D hC hD), ⟨hC, hD⟩, r⟩
    rcases q with q | q | q
    · exact .inl (.inr (List.mem_singleton.mp q))
    · exact .inr (.inl q)
    · exact .inr (.inr q)
  · rintro C D i ys s₃ m₁ m₂ E' hC hD hCD hi ⟨T3, _, rs, i1, i2, i3⟩ ⟨v, hvi, rfl⟩ hns hl3 U3
    obtain ⟨x, t, hx, rfl⟩ := StrsAre.at' hvh hvi
    have hxm := List.mem_of_getElem? hx
    obtain ⟨v1, hv1, y1, u1, rfl, e1⟩ := hkr.at' hnd hxm
    have V3 : Upd (fun b => b = lawTab) s s₃ := Upd.then_fresh U2.up (U3.mono fun b q => q.elim .inl fun q => .inr (by rw [List.mem_singleton.mp q]; exact hI1))
    have F3 := F.keep V3 fun b q => .inl q
    have c8 : s₃.heap.IsCell (L + 8) (some (.ref RD)) := hR ▸ F3.cells (Str.ofString "ready") (L + 8) (by kernel_rfl)
    have c5 : s₃.heap.IsCell (L + 5) (some (.ref SH)) := hH ▸ F3.cells (Str.ofString "shelf") (L + 5) (by kernel_rfl)
    have d3 : s₃.heap.DictOf (sk w) RD krs := hrd.at fun o e => V3.get (F.ge_tab hRD) e
    have l3' : s₃.heap.PlainList SH vh.toArray := hSH.at fun o e => V3.get (F.ge_tab hH9) e
    refine wpAny_tests_nil ?_
    simp only [if_true]
    refine callG2k okBR F3.base (fun P => by kernel_rfl) ?_
    refine nC (c := L + 5) (by kernel_rfl) c5 ?_
    refine dict_at (R := RD) (x := x) (t := t) (kvs := krs) (v := .str y1 u1) ?_
    refine nC (c := L + 8) (by kernel_rfl) c8 ?_
    refine nL hns (v := .str x t) (if_pos rfl) ⟨rfl, rfl, d3, hv1, ?_⟩
    have U4 : Upd noW s₃ { s₃ with toks := s₃.toks + 1 } := .toks
    have F4 := F3.keep0 U4
    have T4 : TabOk (fun b => (MS L S0 b ∨ b = I) ∨ b = C ∨ b = D) ({ s₃ with toks := s₃.toks + 1 } : Shared).heap := T3
    have z4 : hs s₃ ≤ hs { s₃ with toks := s₃.toks + 1 } := U4.size
    have d4 : ({ s₃ with toks := s₃.toks + 1 } : Shared).heap.DictOf (sk w) RD krs := d3
    have l4 : ({ s₃ with toks := s₃.toks + 1 } : Shared).heap.PlainList SH vh.toArray := l3'
    generalize ({ s₃ with toks := s₃.toks + 1 } : Shared) = s₄ at U4 F4 T4 z4 d4 l4 ⊢
    refine lam_eval (x := Str.ofString "ready") (c := L + 8) F4.base T4 (fun b q => ?_) (by kernel_rfl) fun fl s₅ pm cv ct U5 hf5 T5 ho5 hr5 => ?_
    · have zz : hs s ≤ hs s₃ := V3.size
      rcases q with (q | q) | q | q
      · exact F4.msLt (Nat.lt_of_lt_of_le hSs (Nat.le_trans zz z4)) b q
      · rw [q]; exact Nat.lt_of_lt_of_le hI2 (Nat.le_trans U3.size z4)
      · rw [q]; exact Nat.lt_of_lt_of_le (lt_of_ns hns) z4
      · rw [q]; exact Nat.lt_of_lt_of_le (lt_list hl3) z4
    · have F5 := F4.keep U5 fun b q => .inl q
      have d5 : s₅.heap.DictOf (sk w) RD krs := d4.at fun o e => U5.get (F.ge_tab hRD) e
      have l5 : s₅.heap.PlainList SH vh.toArray := l4.at fun o e => U5.get (F.ge_tab hH9) e
      have K5 : KeySpec w s₅ fl (DomOf krs) := lam_spec F5.base (lam_ok (Str.ofString "ready") (posN ps 6) (posN ps 7) (posN ps 8) (posN ps 9) (.inl rfl)) ho5 hr5 (hR ▸ F5.cells (Str.ofString "ready") (L + 8) (by kernel_rfl)) d5
      refine ⟨F5.base, bis_right_any (f := fP) (hr.le (by decide)) F5.base l5 hvh (by omega) K5 (fun y u hy => dom_rdy hkr hnd hy u) fun r t' s₆ U6 hb => ?_⟩
      refine ⟨U4.up.trans (U5.trans U6.up), T5.keep (fun b o _ e => U6.get id e) (tab C D hC hD), ⟨hC, hD⟩, rs ++ [r], ?_, by rw [List.length_append, i2]; rfl, ?_⟩
      · rw [List.map_append]; exact IntsAre.snoc i1
      · intro j x' r' hx' hr'
        by_cases hj : j < rs.length
        · rw [List.getElem?_append_left hj] at hr'
          exact i3 j x' r' hx' hr'
        · have hji : j = i := by
            have := (List.getElem?_eq_some_iff.mp hr').1
            rw [List.length_append] at this
            simp at this; omega
          subst hji
          rw [hx] at hx'
          cases hx'
          rw [List.getElem?_append_right (by omega), i2, Nat.sub_self] at hr'
          cases hr'
          rw [e1] at hb
          exact hb
  · rintro C D ys s₃ m₃ hC hD hCD ⟨T3, _, rs, i1, i2, i3⟩ hy hl3 hns U3
    have V3 : Upd (fun b => b = lawTab) s s₃ := Upd.then_fresh U2.up (U3.mono fun b q => q.elim .inl fun q => .inr (by rw [List.mem_singleton.mp q]; exact hI1))
    have F3 := F.keep V3 fun b q => .inl q
    have hC9 : L + 9 ≤ C := Nat.le_trans F2.low hC
    have hD9 : L + 9 ≤ D := Nat.le_trans F2.low hD
    refine sL (env := lwEnv L) F3.ns fun s₄ U4 hn4 => ⟨⟨m₃, U4.ns (fun q => F.ge_ne hC9 q) hns⟩, fun s₅ U5 => ?_⟩
    have F4 := F3.loc U4 hn4
    have F5 := F4.keep U5 fun b q => .inr (q ▸ hC9)
    have sC' : hs s ≤ C := Nat.le_trans U2.size hC
    refine h D ys rs s₅ (Nat.le_trans U2.size hD) ?_ F5 ((hl3.at fun o e => U4.get (F.ge_ne hD9) e).at fun o e => U5.get (fun q => hCD q.symm) e) i1 ⟨by omega, i3⟩ ?_
    · exact Upd.then_fresh ((V3.mono fun b q => .inr q).trans (U4.mono fun b q => .inl q)) (U5.mono fun b q => .inr (q ▸ sC'))
    · have t4 := T3.keep (h' := s₄.heap) (fun b o nb e => U4.get (fun q => nb (.inl (.inl (.inl q)))) e) (tab C D hC hD)
      have t5 := t4.keep (h' := s₅.heap) (fun b o nb e => U5.get (fun q => nb (.inr (.inl q))) e) (tab C D hC hD)
      exact t5.remap fun b q => .inl (.inl (.inl q))
end
end
end Mine
namespace Mine
open PySem PySem.W PySem.Calls PyProof.Rows
noncomputable section
noncomputable def stepsOf (o n : Nat) : List Nat := (List.range 8).map fun k => o / n ^ k % n
section
variable {w : World} {A : Around} {s s' s₀ : Shared} {L : Addr} {m cm : Str → Option Value} {E : Value → Shared → Prop} {env : Env}
theorem pure_range {x : Str} {px : Pos} {elt : Expr} {ifs : List Expr} {scope : Scope} {cl : List (Str × Addr)} {s₀ : Shared} {n : Nat} {t : Tok} {fin : Nat → (Nat → Bool) → (Nat → Value → Prop) → Prop} (hh : A.handled = none) (U : Upd noW s₀ s) (hn : n ≤ 1000)
    (okC : ∀ C, LocEnv x (compEnvC scope cl C env)) (p : Nat → Bool) (G : Nat → Value → Prop)
    (test : ∀ C i u s' m' (E' : Value → Shared → Prop), i < n → Upd noW s₀ s' → s'.heap.Ns C m' → m' x = some (.int (i : Int) u) → wpAny (model pw w) A (testsOf ifs (compEnvC scope cl C env)) (fun t s'' => t = p i ∧ Upd noW s' s'') E' s')
    (make : ∀ C i u s' m' (E' : Value → Shared → Prop), i < n → p i = true → Upd noW s₀ s' → s'.heap.Ns C m' → m' x = some (.int (i : Int) u) → wpAny (model pw w) A (eval elt (compEnvC scope cl C env)) (fun y s'' => G i y ∧ Upd noW s' s'') E' s')
    (hfin : fin n p G) :
    wpAny (model pw w) A (call (.type "range") [.int (n : Int) t] []) (fun xv s₁ => wpAny (model pw w) A (pyIter xv) (fun it s₂ => Pure w A env (.Name x px) elt ifs scope cl s₀ it s₂ fin) E s₁) E s := by
  refine range_feed hh hn fun I St s₂ h1 h2 U₂ F st => ?_
  refine ⟨[I], [I], n, St, _, _, p, G, F x px, by omega, st, fun b hb => by rw [List.mem_singleton.mp hb]; exact h2, okC, fun b hb => by rw [List.mem_singleton.mp hb]; exact Nat.le_trans U.size h1, U.trans U₂, fun C i s' m m' E' hi U2 hns hB => ?_, fun C i s' m m' E' hi hp U2 hns hB => ?_, hfin⟩
  · obtain ⟨v, ⟨u, rfl⟩, rfl⟩ := hB
    exact test C i u s' _ E' hi U2 hns (if_pos rfl)
  · obtain ⟨v, ⟨u, rfl⟩, rfl⟩ := hB
    exact make C i u s' _ E' hi hp U2 hns (if_pos rfl)
theorem lw_drop28 : ∃ (ps : List Pos) (cs : List Nat), lwBody 28 = (.Assign [(.Name (Str.ofString "steps") (posN ps 0))] (.ListComp (.BinOp (.BinOp (.Name (Str.ofString "other_cell") (posN ps 1)) .FloorDiv (.BinOp (.Call (.Name (Str.ofString "len") (posN ps 2)) [(.Name (Str.ofString "stock") (posN ps 3))] [] (posN ps 4)) .Pow (.Name (Str.ofString "k") (posN ps 5)) (posN ps 6)) (posN ps 7)) .Mod (.Call (.Name (Str.ofString "len") (posN ps 8)) [(.Name (Str.ofString "stock") (posN ps 9))] [] (posN ps 10)) (posN ps 11)) [⟨(.Name (Str.ofString "k") (posN ps 12)), (.Call (.Name (Str.ofString "range") (posN ps 13)) [(.Constant (.int 8) (natN cs 0) (posN ps 14))] [] (posN ps 15)), [], 0⟩] (mkSc [((Str.ofString ".0"), .local), ((Str.ofString "k"), .local), ((Str.ofString "len"), .globalImplicit), ((Str.ofString "other_cell"), .free), ((Str.ofString "stock"), .free)]) (posN ps 16)) (posN ps 17)) :: lwBody 29 ∧ (∀ L a b c, swapsWith (.ListComp a [⟨b, c, [], 0⟩] (mkSc [((Str.ofString ".0"), .local), ((Str.ofString "k"), .local), ((Str.ofString "len"), .globalImplicit), ((Str.ofString "other_cell"), .free), ((Str.ofString "stock"), .free)]) (posN ps 16)) (some (.Name (Str.ofString "steps") (posN ps 0))) (posN ps 17).line (lwEnv L) = pure true) :=
   ⟨[_, _, _, _, _, _, _, _, _, _, _, _, _, _, _, _, _, _], [_], rfl, fun L a b c => by kernel_rfl⟩
theorem lw28 {DS : Addr} {vs : List Value} {o : Nat} {to : Tok} {Q : Flow → Shared → Prop} (hh : A.handled = none) (F : Lw w s₀ s L m cm) (hO : cm (Str.ofString "other_cell") = some (.int (o : Int) to)) (hS : cm (Str.ofString "stock") = some (.ref DS))
    (hl : s.heap.PlainList DS vs.toArray) (h0 : 0 < vs.length) (hlen : vs.length ≤ 8)
    (h : ∀ D ys s', hs s ≤ D → Upd (fun b => b = L) s s' → Lw w s₀ s' L (setM m (Str.ofString "steps") (.ref D)) cm → s'.heap.PlainList D (List.toArray ys) → IntsAre ys ((stepsOf o vs.length).map fun k : Nat => (k : Int)) → wpAny (model pw w) A (execs (lwBody 29) (lwEnv L)) Q E s') :
    wpAny (model pw w) A (execs (lwBody 28) (lwEnv L)) Q E s := by
  obtain ⟨ps, cs, he, hsw⟩ := lw_drop28
  rw [he]
  have hcO := hO ▸ F.cells (Str.ofString "other_cell") (L + 1) (by kernel_rfl)
  have hcS := hS ▸ F.cells (Str.ofString "stock") (L + 3) (by kernel_rfl)
  refine comp_to (cl := [(Str.ofString "stock", L + 3), (Str.ofString "other_cell", L + 1)]) (hsw _ _ _ _) (by kernel_rfl) (by decide +kernel) (by kernel_rfl) (by decide +kernel) F.ns ?_
  refine call_ (trees := [(false, eval _ _)]) (kts := []) rfl rfl ?_
  refine nB (env := lwEnv L) F.base (v := .type "range") (fun P => by kernel_rfl) (fun P => by kernel_rfl) ?_
  refine PyProof.Rows.callWith_type rfl (evalArgs_plain (spliced_cons (wpAny_Constant_int (k := 0) (pos := (posN ps 0)) (spliced_nil ?_))))
  refine pure_range (s := { s with toks := s.toks + 1 }) (n := 8) hh .toks (by decide) (fun C => compEnv_local (by kernel_rfl) (by kernel_rfl)) (fun _ => true) (fun i y => ∃ t, y = .int ((o / vs.length ^ i % vs.length : Nat) : Int) t) ?_ ?_ ?_
  · intro C i u s' m' E' hi U hns hm
    exact wpAny_tests_nil ⟨rfl, .refl _ _⟩
  · intro C i u s' m' E' hi _ U hns hm
    have B' := (F.keep0 U).base
    have c1 : s'.heap.IsCell (L + 1) (some (.int (o : Int) to)) := IsCell.at' hcO fun o e => U.get id e
    have c3 : s'.heap.IsCell (L + 3) (some (.ref DS)) := IsCell.at' hcS fun o e => U.get id e
    have l' : s'.heap.PlainList DS vs.toArray := hl.at fun o e => U.get id e
    have e1 : ((vs.toArray.size : Nat) : Int) = (vs.length : Int) := by simp
    have ep : ((vs.length : Int)) ^ ((i : Int)).toNat = ((vs.length ^ i : Nat) : Int) := by push_cast; rfl
    have hpos : 0 < vs.length ^ i := Nat.pow_pos h0
    have hle : vs.length ^ i ≤ 8 ^ 8 := Nat.le_trans (Nat.pow_le_pow_left hlen i) (Nat.pow_le_pow_right (by decide) (by omega))
    have hle' : vs.length ^ i < 1073741824 := Nat.lt_of_le_of_lt hle (by decide)
    refine wpAny_BinOp (wpAny_BinOp (nC (c := L + 1) (by kernel_rfl) c1 (wpAny_BinOp ?_)))
    refine callB1 (id := "len") B' (fun P => by kernel_rfl) (fun P => by kernel_rfl) ?_
    refine nC (c := L + 3) (by kernel_rfl) c3 ?_
    refine len_list l'.isList (by simp; omega) ?_
    rw [e1]
    refine nL (m := m') ?_ hm ?_
    · exact hns
    refine PyProof.Rows.pow_int_small (a := (vs.length : Int)) (n := (i : Int)) (by omega) (by omega) (by omega) ?_
    rw [ep]
    refine floordiv_int (by omega) ?_ (.inl (PyProof.noPylong_small (by omega)))
    rw [fdiv_nat]
    refine callB1 (id := "len") ?_ (fun P => by kernel_rfl) (fun P => by kernel_rfl) ?_
    · exact B'
    refine nC (c := L + 3) (v := .ref DS) (by kernel_rfl) ?_ ?_
    · exact c3
    refine len_list l'.isList (by simp; omega) ?_
    rw [e1]
    refine mod_int (by omega) ?_
    rw [fmod_nat]
    exact ⟨⟨_, rfl⟩, .toks⟩
  · intro D ys s' hD U hn' hl' hM
    rw [range_all] at hM
    have hi := hM.ints (f := fun i => ((o / vs.length ^ i % vs.length : Nat) : Int)) fun i y q => q
    refine h D ys s' hD U (F.loc U hn') hl' ?_
    unfold stepsOf
    rw [List.map_map]
    exact hi
end
end
end Mine
namespace Mine
open PySem PySem.W PySem.Calls PyProof.Rows
noncomputable section
theorem intsAre_take : ∀ {vs : List Value} {ns : List Int} (k : Nat), IntsAre vs ns → IntsAre (vs.take k) (ns.take k)
  | _, _, 0, _ => by simp; exact .nil
  | _, _, k + 1, .nil => by simp; exact .nil
  | _, _, k + 1, .cons n t r => .cons n t (intsAre_take k r)
theorem intsAre_drop : ∀ {vs : List Value} {ns : List Int} (k : Nat), IntsAre vs ns → IntsAre (vs.drop k) (ns.drop k)
  | _, _, 0, h => h
  | _, _, k + 1, .nil => by simp; exact .nil
  | _, _, k + 1, .cons n t r => intsAre_drop k r
theorem intsAre_app : ∀ {vs us : List Value} {ns ms : List Int}, IntsAre vs ns → IntsAre us ms → IntsAre (vs ++ us) (ns ++ ms)
  | _, _, _, _, .nil, h => h
  | _, _, _, _, .cons n t r, h => .cons n t (intsAre_app r h)
/-- the word of some places -/
noncomputable def wordOf (xs : List Str) (ks : List Nat) : List Nat := (ks.map fun k => tx (xs.getD k e0)).flatten
section
variable {w : World} {A : Around} {s s' s₀ : Shared} {L : Addr} {m cm : Str → Option Value} {E : Value → Shared → Prop} {env : Env}
noncomputable abbrev sc29 : Scope := mkSc [((Str.ofString ".0"), .local), ((Str.ofString "step"), .local), ((Str.ofString "stock"), .free)]
/-- ''.join([stock[step] for step in …]) -/
theorem pick_join {c1 : Nat} {p2 p3 p4 p5 p6 p7 p13 p14 : Pos} {iter : Expr} {DS : Addr} {vs : List Value} {xs : List Str} {ks : List Nat} {Q : Value → Shared → Prop} (hh : A.handled = none) (F : Lw w s₀ s L m cm) (hline : (p3.endLine == p14.line) = true) (hS : cm (Str.ofString "stock") = some (.ref DS)) (hl : s.heap.PlainList DS vs.toArray) (hv : StrsAre vs xs) (hx : ∀ x ∈ xs, x.cps.size ≤ 100)
    (hk : ∀ k ∈ ks, k < xs.length) (hlen : xs.length ≤ 100) (hkl : ks.length ≤ 100)
    (hit : ∀ (s₁ : Shared) (Q : Value → Shared → Prop) (E : Value → Shared → Prop), Upd noW s s₁ → (∀ l vk s', Upd noW s₁ s' → s'.heap.PlainList l (List.toArray vk) → IntsAre vk (ks.map fun k : Nat => (k : Int)) → Q (.ref l) s') → wpAny (model pw w) A (eval iter (lwEnv L)) Q E s₁)
    (h : ∀ z k s', tx z = wordOf xs ks → Upd noW s s' → Q (.str z k) s') (hfs : ∀ x, foldedSetIterable iter (lwEnv L) x = pure x := by intro _; rfl) :
    wpAny (model pw w) A (eval (.Call (.Attribute (.Constant (.str (Str.ofString "")) c1 p2) (Str.ofString "join") p3) [.ListComp (.Subscript (.Name (Str.ofString "stock") p4) (.Name (Str.ofString "step") p5) p6) [⟨.Name (Str.ofString "step") p7, iter, [], 0⟩] sc29 p13] [] p14) (lwEnv L)) Q E s := by
  refine Call_method1 rfl rfl hline (wpAny_Constant_str (k := 0) (pos := p0) ?_)
  refine ⟨"str", "str.join", PySem.F.plainAttrs_str, PySem.F.slot_str_join, PySem.F.type_str_join, typeIs_str _ _ _, (by rintro _ ⟨⟩), ?_⟩
  have U1 : Upd noW s { s with toks := s.toks + 1 } := .toks
  have F1 := F.keep0 U1
  have hl1 : ({ s with toks := s.toks + 1 } : Shared).heap.PlainList DS vs.toArray := hl
  generalize s.toks = tk0 at *
  generalize ({ s with toks := tk0 + 1 } : Shared) = s₁ at U1 F1 hl1 ⊢
  have len := StrsAre.len hv
  have hcS := hS ▸ F1.cells (Str.ofString "stock") (L + 3) (by kernel_rfl)
  refine callWith_builtin rfl (evalArgs_plain (spliced_cons ?_))
  refine comp_v (cl := [(Str.ofString "stock", L + 3)]) (by kernel_rfl) (by decide +kernel) (by kernel_rfl) (by decide +kernel) ?_ hfs
  refine hit s₁ _ _ U1 fun l vk s₂ U2 l2 i2 => ?_
  have lk := IntsAre.len i2
  rw [List.length_map] at lk
  refine pure_list hh U2 l2 (by omega) (fun C => compEnv_local (by kernel_rfl) (by kernel_rfl)) (fun _ => true) (fun i y => ∃ z u, y = .str z u ∧ tx z = tx (xs.getD (ks.getD i 0) e0)) ?_ ?_ ?_
  · intro C i v s' m' E' hi U hns hm
    exact wpAny_tests_nil ⟨rfl, .refl _ _⟩
  · intro C i v s' m' E' hi _ U hns hm
    obtain ⟨k, t, hki, rfl⟩ := IntsAre.at' i2 hi
    rw [List.getElem?_map] at hki
    obtain ⟨k', hk', rfl⟩ := Option.map_eq_some_iff.mp hki
    obtain ⟨y, u, h1, h2⟩ := StrsAre.get' hv (i := k') (by have := hk k' (List.mem_of_getElem? hk'); omega)
    have kl := hk k' (List.mem_of_getElem? hk')
    refine wpAny_Subscript_Name_late ?_
    refine nC (c := L + 3) (by kernel_rfl) (IsCell.at' hcS fun o e => U.get id e) ?_
    refine nL hns hm ⟨"list", _, slot_list_getitem.lookup, (hl1.at fun o e => U.get id e).isList.typeIs, wpAny_getItem_list (hl1.at fun o e => U.get id e).isList (by omega) (by omega) (x := .str y u) ?_ ⟨⟨y, u, rfl, ?_⟩, .toks⟩⟩
    · have : ((k' : Int)).toNat = k' := by omega
      rw [this]; simpa using h1
    · rw [List.getD_eq_getElem?_getD, List.getD_eq_getElem?_getD, hk', Option.getD_some, h2]; rfl
  · intro D ys s₃ hD U3 l3 hM
    rw [range_all] at hM
    obtain ⟨zs, v3, e3⟩ := hM.words fun i y q => q
    have e4 : (List.range vk.length).map (fun i => tx (xs.getD (ks.getD i 0) e0)) = ks.map fun k => tx (xs.getD k e0) := by
      rw [lk]
      exact map_getD ks 0 fun k => tx (xs.getD k e0)
    rw [e4] at e3
    have lz : zs.length = ks.length := by
      have := congrArg List.length e3
      simpa using this
    refine spliced_nil (join_list l3.isList (by simpa using v3) ?_ fun t' k => ?_)
    · have h1 := join_len e3 fun y hy => by
        obtain ⟨k, hkm, rfl⟩ := List.mem_map.mp hy
        have kl := hk k hkm
        rw [List.getD_eq_getElem?_getD, List.getElem?_eq_getElem kl]
        have := hx xs[k] (List.getElem_mem kl)
        simpa using this
      have h4 : (Str.ofString "").length = 0 := by kernel_rfl
      rw [h4]
      omega
    · have ej := tx_join (Str.ofString "") (by kernel_rfl) zs
      rw [e3, ← eq_of_beq (join_plain_closes (Str.ofString "") zs)] at ej
      exact h _ _ _ ej ((U1.trans U3).trans .toks)
theorem lw_drop29 : ∃ (ps : List Pos) (cs : List Nat), lwBody 29 = (.Assign [(.Name (Str.ofString "long_one") (posN ps 0))] (.Call (.Attribute (.Constant (.str (Str.ofString "")) (natN cs 0) (posN ps 1)) (Str.ofString "join") (posN ps 2)) [(.ListComp (.Subscript (.Name (Str.ofString "stock") (posN ps 3)) (.Name (Str.ofString "step") (posN ps 4)) (posN ps 5)) [⟨(.Name (Str.ofString "step") (posN ps 6)), (.Subscript (.Name (Str.ofString "steps") (posN ps 7)) (.Slice none (some (.Constant (.int 5) (natN cs 1) (posN ps 8))) none (posN ps 9)) (posN ps 10)), [], 0⟩] (mkSc [((Str.ofString ".0"), .local), ((Str.ofString "step"), .local), ((Str.ofString "stock"), .free)]) (posN ps 11))] [] (posN ps 12)) (posN ps 13)) :: lwBody 30 ∧ ((posN ps 2).endLine == (posN ps 12).line) = true :=
   ⟨[_, _, _, _, _, _, _, _, _, _, _, _, _, _], [_, _], rfl, by kernel_rfl⟩
theorem lw29 {DS ST : Addr} {vs vt : List Value} {xs : List Str} {st : List Nat} {Q : Flow → Shared → Prop} (hh : A.handled = none) (F : Lw w s₀ s L m cm) (hS : cm (Str.ofString "stock") = some (.ref DS)) (hT : m (Str.ofString "steps") = some (.ref ST)) (hl : s.heap.PlainList DS vs.toArray) (hv : StrsAre vs xs) (hx : ∀ x ∈ xs, x.cps.size ≤ 100) (hlen : xs.length ≤ 100)
    (hlt : s.heap.PlainList ST vt.toArray) (hvt : IntsAre vt (st.map fun k : Nat => (k : Int))) (hk : ∀ k ∈ st, k < xs.length) (hst : st.length ≤ 100)
    (h : ∀ z k s', tx z = wordOf xs (st.take 5) → Upd (fun b => b = L) s s' → Lw w s₀ s' L (setM m (Str.ofString "long_one") (.str z k)) cm → wpAny (model pw w) A (execs (lwBody 30) (lwEnv L)) Q E s') :
    wpAny (model pw w) A (execs (lwBody 29) (lwEnv L)) Q E s := by
  obtain ⟨ps, cs, he, hsw⟩ := lw_drop29
  rw [he]
  have lt := IntsAre.len hvt
  rw [List.length_map] at lt
  refine asg ?_ (by kernel_rfl)
  refine pick_join (ks := st.take 5) hh F hsw hS hl hv hx (fun k q => hk k (List.mem_of_mem_take q)) hlen (by rw [List.length_take]; omega) ?_ ?_
  · intro s₁ Q E U1 hq
    refine list_sl (lwL (F.keep0 U1) hT ?_)
    refine wpAny_evalPart_none (wpAny_evalPart_some (wpAny_Constant_int (k := 0) (pos := (posN ps 0)) ?_))
    refine ⟨ST, vt.toArray, none, some 5, rfl, hlt.at fun o e => U1.get id e, by simp; omega, .none, .int _ _, fun D1 s₂ hD1 U2 l1 => ?_⟩
    have e1 : slicePick vt.toArray none (some 5) none = (vt.take 5).toArray := by
      have := slicePick_upto' vt.toArray 5
      simpa using this
    rw [e1] at l1
    refine hq D1 (vt.take 5) s₂ ((Upd.toks (s := s₁) (t := s₁.toks + 1)).trans U2) l1 ?_
    rw [List.map_take]; exact intsAre_take 5 hvt
  · intro z k s₁ hz U1
    have F1 := F.keep0 U1
    refine sL (env := lwEnv L) F1.ns fun s₂ U2 hn2 => ?_
    exact h z k s₂ hz (U1.up.trans U2) (F1.loc U2 hn2)
theorem lw_drop30 : ∃ (ps : List Pos) (cs : List Nat), lwBody 30 = (.Assign [(.Name (Str.ofString "long_two") (posN ps 0))] (.Call (.Attribute (.Constant (.str (Str.ofString "")) (natN cs 0) (posN ps 1)) (Str.ofString "join") (posN ps 2)) [(.ListComp (.Subscript (.Name (Str.ofString "stock") (posN ps 3)) (.Name (Str.ofString "step") (posN ps 4)) (posN ps 5)) [⟨(.Name (Str.ofString "step") (posN ps 6)), (.BinOp (.Subscript (.Name (Str.ofString "steps") (posN ps 7)) (.Slice none (some (.Constant (.int 2) (natN cs 1) (posN ps 8))) none (posN ps 9)) (posN ps 10)) .Add (.Subscript (.Name (Str.ofString "steps") (posN ps 11)) (.Slice (some (.Constant (.int 5) (natN cs 2) (posN ps 12))) none none (posN ps 13)) (posN ps 14)) (posN ps 15)), [], 0⟩] (mkSc [((Str.ofString ".0"), .local), ((Str.ofString "step"), .local), ((Str.ofString "stock"), .free)]) (posN ps 16))] [] (posN ps 17)) (posN ps 18)) :: lwBody 31 ∧ ((posN ps 2).endLine == (posN ps 17).line) = true :=
   ⟨[_, _, _, _, _, _, _, _, _, _, _, _, _, _, _, _, _, _, _], [_, _, _], rfl, by kernel_rfl⟩
theorem lw30 {DS ST : Addr} {vs vt : List Value} {xs : List Str} {st : List Nat} {Q : Flow → Shared → Prop} (hh : A.handled = none) (F : Lw w s₀ s L m cm) (hS : cm (Str.ofString "stock") = some (.ref DS)) (hT : m (Str.ofString "steps") = some (.ref ST)) (hl : s.heap.PlainList DS vs.toArray) (hv : StrsAre vs xs) (hx : ∀ x ∈ xs, x.cps.size ≤ 100) (hlen : xs.length ≤ 100)
    (hlt : s.heap.PlainList ST vt.toArray) (hvt : IntsAre vt (st.map fun k : Nat => (k : Int))) (hk : ∀ k ∈ st, k < xs.length) (hst : st.length ≤ 40)
    (h : ∀ z k s', tx z = wordOf xs (st.take 2 ++ st.drop 5) → Upd (fun b => b = L) s s' → Lw w s₀ s' L (setM m (Str.ofString "long_two") (.str z k)) cm → wpAny (model pw w) A (execs (lwBody 31) (lwEnv L)) Q E s') :
    wpAny (model pw w) A (execs (lwBody 30) (lwEnv L)) Q E s := by
  obtain ⟨ps, cs, he, hsw⟩ := lw_drop30
  rw [he]
  have lt := IntsAre.len hvt
  rw [List.length_map] at lt
  refine asg ?_ (by kernel_rfl)
  refine pick_join (ks := st.take 2 ++ st.drop 5) hh F hsw hS hl hv hx (fun k q => hk k ((List.mem_append.mp q).elim List.mem_of_mem_take List.mem_of_mem_drop)) hlen (by rw [List.length_append, List.length_take, List.length_drop]; omega) ?_ ?_
  · intro s₁ Q E U1 hq
    have F1 := F.keep0 U1
    refine wpAny_BinOp (list_sl (lwL F1 hT ?_))
    refine wpAny_evalPart_none (wpAny_evalPart_some (wpAny_Constant_int (k := 0) (pos := (posN ps 0)) ?_))
    refine ⟨ST, vt.toArray, none, some 2, rfl, hlt.at fun o e => U1.get id e, by simp; omega, .none, .int _ _, fun D1 s₂ hD1 U2 l1 => ?_⟩
    have U2' : Upd noW s₁ s₂ := (Upd.toks (s := s₁) (t := s₁.toks + 1)).trans U2
    have e1 : slicePick vt.toArray none (some 2) none = (vt.take 2).toArray := by
      have := slicePick_upto' vt.toArray 2
      simpa using this
    rw [e1] at l1
    refine list_sl (lwL (F1.keep0 U2') hT ?_)
    refine wpAny_evalPart_some (wpAny_Constant_int (k := 0) (pos := (posN ps 0)) (wpAny_evalPart_none ?_))
    refine ⟨ST, vt.toArray, some 5, none, rfl, (hlt.at fun o e => U1.get id e).at fun o e => U2'.get id e, by simp; omega, .int _ _, .none, fun D2 s₃ hD2 U3 l3 => ?_⟩
    have U3' : Upd noW s₂ s₃ := (Upd.toks (s := s₂) (t := s₂.toks + 1)).trans U3
    have e2 : slicePick vt.toArray (some 5) none none = (vt.drop 5).toArray := by
      have := slicePick_from' vt.toArray 5
      simpa using this
    rw [e2] at l3
    refine pl_add (l1.at fun o e => U3'.get id e) l3 (by rw [List.length_take, List.length_drop]; omega) fun s₄ U4 l4 => ?_
    refine hq _ (vt.take 2 ++ vt.drop 5) s₄ ((U2'.trans U3').trans U4) l4 ?_
    rw [List.map_append, List.map_take, List.map_drop]; exact intsAre_app (intsAre_take 2 hvt) (intsAre_drop 5 hvt)
  · intro z k s₁ hz U1
    have F1 := F.keep0 U1
    refine sL (env := lwEnv L) F1.ns fun s₂ U2 hn2 => ?_
    exact h z k s₂ hz (U1.up.trans U2) (F1.loc U2 hn2)
end
end
end Mine
namespace Mine
open PySem PySem.W PySem.Calls PyProof.Rows
noncomputable section
theorem wayOf_self : ∀ l : List Nat, wayOf l l = 0
  | [] => rfl
  | a :: r => by simp [wayOf, wayOf_self r]
section
variable {w : World} {A : Around} {s s' s₀ : Shared} {L : Addr} {m cm : Str → Option Value} {E : Value → Shared → Prop} {env : Env}
theorem list3 {e1 e2 e3 : Expr} {p : Pos} {Q : Value → Shared → Prop}
    (h : wpAny (model pw w) A (eval e1 env) (fun a s₁ => wpAny (model pw w) A (eval e2 env) (fun b s₂ => wpAny (model pw w) A (eval e3 env) (fun c s₃ => ∀ D s', hs s₃ ≤ D → Upd noW s₃ s' → s'.heap.PlainList D (List.toArray [a, b, c]) → Q (.ref D) s') E s₂) E s₁) E s)
    (hs1 : starEach [e1, e2, e3] env = [(false, eval e1 env), (false, eval e2 env), (false, eval e3 env)] := by with_unfolding_all rfl) :
    wpAny (model pw w) A (eval (.List [e1, e2, e3] p) env) Q E s := by
  refine wpAny_List ?_
  rw [hs1]
  refine spliced_cons (wpAny_mono h (fun a s₁ q => spliced_cons (wpAny_mono q (fun b s₂ q => spliced_cons (wpAny_mono q (fun c s₃ q => spliced_nil ⟨(by show 3 ≤ sizeLine; exact Nat.le_trans (by decide) sz10k), ?_⟩) fun _ _ q => q)) fun _ _ q => q)) fun _ _ q => q)
  exact q _ _ (Nat.le_refl _) (.push (t := s₃.toks)) ⟨0, Heap.get?_push_size _ rfl⟩
theorem list2 {e1 e2 : Expr} {p : Pos} {Q : Value → Shared → Prop}
    (h : wpAny (model pw w) A (eval e1 env) (fun a s₁ => wpAny (model pw w) A (eval e2 env) (fun b s₂ => ∀ D s', hs s₂ ≤ D → Upd noW s₂ s' → s'.heap.PlainList D (List.toArray [a, b]) → Q (.ref D) s') E s₁) E s)
    (hs1 : starEach [e1, e2] env = [(false, eval e1 env), (false, eval e2 env)] := by with_unfolding_all rfl) :
    wpAny (model pw w) A (eval (.List [e1, e2] p) env) Q E s := by
  refine wpAny_List ?_
  rw [hs1]
  refine spliced_cons (wpAny_mono h (fun a s₁ q => spliced_cons (wpAny_mono q (fun b s₂ q => spliced_nil ⟨(by show 2 ≤ sizeLine; exact Nat.le_trans (by decide) sz10k), ?_⟩) fun _ _ q => q)) fun _ _ q => q)
  exact q _ _ (Nat.le_refl _) (.push (t := s₂.toks)) ⟨0, Heap.get?_push_size _ rfl⟩
theorem callB2 {f : Str} {p pos : Pos} {e e' : Expr} {id : String} {Q : Value → Shared → Prop} (B : Base w s.heap) (hm : ∀ P, mgF P f = none) (hv : ∀ P, mbF P f = some (.builtin id))
    (h : wpAny (model pw w) A (eval e env) (fun v s₁ => wpAny (model pw w) A (eval e' env) (fun v' s₂ => wpAny (model pw w) A (call (.builtin id) [v, v'] []) Q E s₂) E s₁) E s)
    (hs : starEach [e, e'] env = [(false, eval e env), (false, eval e' env)] := by with_unfolding_all rfl) (hg : env.globals = mainGlobals := by kernel_rfl) (hb : env.builtins = builtinsNs := by kernel_rfl) (hl : env.kindOf f = some .globalImplicit := by kernel_rfl) (hk : env.scope.kind = .function := by kernel_rfl) (hd : (f == ("__debug__" : Str)) = false := by kernel_rfl) :
    wpAny (model pw w) A (eval (.Call (.Name f p) [e, e'] [] pos) env) Q E s :=
  call_ (trees := [(false, eval e env), (false, eval e' env)]) (kts := []) (by rw [hs]; rfl) rfl (nB B hm hv (callWith_builtin rfl (evalArgs_plain (spliced_cons (wpAny_mono h (fun _ _ q => spliced_cons (wpAny_mono q (fun _ _ q => spliced_nil q) fun _ _ q => q)) fun _ _ q => q)))) hg hb hl hk hd)
theorem lw_drop31 : ∃ (ps : List Pos) (cs : List Nat), lwBody 31 = (.If (.Compare (.Call (.Name (Str.ofString "_strxfrm") (posN ps 0)) [(.BinOp (.Name (Str.ofString "long_one") (posN ps 1)) .Add (.Name (Str.ofString "long_two") (posN ps 2)) (posN ps 3))] [] (posN ps 4)) [.NotEq] [(.BinOp (.Name (Str.ofString "long_one") (posN ps 5)) .Add (.Name (Str.ofString "long_two") (posN ps 6)) (posN ps 7))] (posN ps 8)) [(.Return (some (.Constant (.bool false) (natN cs 0) (posN ps 9))) (posN ps 10))] [] (posN ps 11)) :: lwBody 32 :=
   ⟨[_, _, _, _, _, _, _, _, _, _, _, _], [_], rfl⟩
theorem lw31 {x y : Str} {t u : Tok} {Q : Flow → Shared → Prop} (hr : Room 100 A) (F : Lw w s₀ s L m cm) (h1 : m (Str.ofString "long_one") = some (.str x t)) (h2 : m (Str.ofString "long_two") = some (.str y u)) (hx : x.cps.size ≤ 1000) (hy : y.cps.size ≤ 1000)
    (h : ∀ s', Upd noW s s' → Lw w s₀ s' L m cm → wpAny (model pw w) A (execs (lwBody 32) (lwEnv L)) Q E s') :
    wpAny (model pw w) A (execs (lwBody 31) (lwEnv L)) Q E s := by
  obtain ⟨ps, cs, he⟩ := lw_drop31
  rw [he]
  have gx : x.length ≤ 1000 := hx
  have gy : y.length ≤ 1000 := hy
  refine if_1 (isT_cmp ?_)
  refine callG1 (env := lwEnv L) okXfrm F.base (fun P => by kernel_rfl) ?_
  refine wpAny_BinOp (lwL F h1 (lwL F h2 (PyProof.Rows.add_str (fun t' tk => ?_) (Nat.le_trans (by omega) sz10k))))
  have U1 : Upd noW s { s with toks := tk } := .toks
  have F1 := F.keep0 U1
  generalize ({ s with toks := tk } : Shared) = s₁ at U1 F1 ⊢
  refine ⟨F1.base, strxfrm_call (hr.le (by decide)) F1.base fun s₂ U2 => ?_⟩
  have F2 := F1.keep0 U2
  refine wpAny_BinOp (lwL F2 h1 (lwL F2 h2 (PyProof.Rows.add_str (fun t'' tk' => ?_) (Nat.le_trans (by omega) sz10k))))
  have U3 : Upd noW s₂ { s₂ with toks := tk' } := .toks
  refine P.ne_str ⟨false, by simp, rfl, ?_⟩
  exact h _ ((U1.trans U2).trans U3) (F2.keep0 U3)
theorem lw_drop32 : ∃ (ps : List Pos), lwBody 32 = (.Assign [(.Name (Str.ofString "ways") (posN ps 0))] (.List [(.Call (.Name (Str.ofString "_strcoll") (posN ps 1)) [(.Name (Str.ofString "long_one") (posN ps 2)), (.Name (Str.ofString "long_two") (posN ps 3))] [] (posN ps 4)), (.Call (.Name (Str.ofString "_strcoll") (posN ps 5)) [(.Name (Str.ofString "long_two") (posN ps 6)), (.Name (Str.ofString "long_one") (posN ps 7))] [] (posN ps 8)), (.Call (.Name (Str.ofString "_strcoll") (posN ps 9)) [(.Name (Str.ofString "long_one") (posN ps 10)), (.Name (Str.ofString "long_one") (posN ps 11))] [] (posN ps 12))] (posN ps 13)) (posN ps 14)) :: lwBody 33 :=
   ⟨[_, _, _, _, _, _, _, _, _, _, _, _, _, _, _], rfl⟩
noncomputable def waysOf (x y : Str) : List Int := [collOf (tx x) (tx y), collOf (tx y) (tx x), collOf (tx x) (tx x)]
theorem lw32 {x y : Str} {t u : Tok} {Q : Flow → Shared → Prop} (hr : Room 100 A) (F : Lw w s₀ s L m cm) (h1 : m (Str.ofString "long_one") = some (.str x t)) (h2 : m (Str.ofString "long_two") = some (.str y u))
    (h : ∀ D ys s', hs s ≤ D → Upd (fun b => b = L) s s' → Lw w s₀ s' L (setM m (Str.ofString "ways") (.ref D)) cm → s'.heap.PlainList D (List.toArray ys) → IntsAre ys (waysOf x y) → wpAny (model pw w) A (execs (lwBody 33) (lwEnv L)) Q E s') :
    wpAny (model pw w) A (execs (lwBody 32) (lwEnv L)) Q E s := by
  obtain ⟨ps, he⟩ := lw_drop32
  rw [he]
  refine asg ?_ (by kernel_rfl)
  refine list3 (env := lwEnv L) ?_
  refine callG2 (env := lwEnv L) okColl F.base (fun P => by kernel_rfl) (lwL F h1 (lwL F h2 ⟨F.base, strcoll_call (hr.le (by decide)) F.base fun k1 s₁ U1 => ?_⟩))
  have F1 := F.keep0 U1
  refine callG2 (env := lwEnv L) okColl F1.base (fun P => by kernel_rfl) (lwL F1 h2 (lwL F1 h1 ⟨F1.base, strcoll_call (hr.le (by decide)) F1.base fun k2 s₂ U2 => ?_⟩))
  have F2 := F1.keep0 U2
  refine callG2 (env := lwEnv L) okColl F2.base (fun P => by kernel_rfl) (lwL F2 h1 (lwL F2 h1 ⟨F2.base, strcoll_call (hr.le (by decide)) F2.base fun k3 s₃ U3 => ?_⟩))
  have F3 := F2.keep0 U3
  intro D s₄ hD U4 l4
  have F4 := F3.keep0 U4
  refine sL (env := lwEnv L) F4.ns fun s₅ U5 hn5 => ?_
  have V : Upd noW s s₄ := ((U1.trans U2).trans U3).trans U4
  have sD : hs s ≤ D := Nat.le_trans ((U1.trans U2).trans U3).size hD
  exact h D _ s₅ sD (V.up.trans U5) (F4.loc U5 hn5) (l4.at fun o e => U5.get (Nat.ne_of_gt (Nat.lt_of_lt_of_le (lt_of_ns F.ns) sD)) e) (.cons _ k1 (.cons _ k2 (.cons _ k3 .nil)))
theorem lw_drop33 : ∃ (ps : List Pos) (cs : List Nat), lwBody 33 = (.If (.Compare (.ListComp (.Name (Str.ofString "way") (posN ps 0)) [⟨(.Name (Str.ofString "way") (posN ps 1)), (.Name (Str.ofString "ways") (posN ps 2)), [(.BoolOp .Or [(.Call (.Name (Str.ofString "isinstance") (posN ps 3)) [(.Name (Str.ofString "way") (posN ps 4)), (.Name (Str.ofString "bool") (posN ps 5))] [] (posN ps 6)), (.UnaryOp .Not (.Call (.Name (Str.ofString "isinstance") (posN ps 7)) [(.Name (Str.ofString "way") (posN ps 8)), (.Name (Str.ofString "int") (posN ps 9))] [] (posN ps 10)) (posN ps 11))] (posN ps 12))], 0⟩] (mkSc [((Str.ofString ".0"), .local), ((Str.ofString "way"), .local), ((Str.ofString "isinstance"), .globalImplicit), ((Str.ofString "bool"), .globalImplicit), ((Str.ofString "int"), .globalImplicit)]) (posN ps 13)) [.NotEq] [(.List [] (posN ps 14))] (posN ps 15)) [(.Return (some (.Constant (.bool false) (natN cs 0) (posN ps 16))) (posN ps 17))] [] (posN ps 18)) :: lwBody 34 :=
   ⟨[_, _, _, _, _, _, _, _, _, _, _, _, _, _, _, _, _, _, _], [_], rfl⟩
theorem lw33 {WY : Addr} {vw : List Value} {wn : List Int} {Q : Flow → Shared → Prop} (hr : Room 100 A) (hh : A.handled = none) (F : Lw w s₀ s L m cm) (hW : m (Str.ofString "ways") = some (.ref WY)) (hl : s.heap.PlainList WY vw.toArray) (hi : IntsAre vw wn) (hlen : wn.length ≤ 100)
    (h : ∀ s', Upd noW s s' → Lw w s₀ s' L m cm → wpAny (model pw w) A (execs (lwBody 34) (lwEnv L)) Q E s') :
    wpAny (model pw w) A (execs (lwBody 33) (lwEnv L)) Q E s := by
  obtain ⟨ps, cs, he⟩ := lw_drop33
  rw [he]
  have len := IntsAre.len hi
  refine if_1 (isT_cmp ?_)
  refine comp_v (cl := []) (by kernel_rfl) (by decide +kernel) (by kernel_rfl) (by decide +kernel) ?_
  refine lwL F hW (pure_list hh (.refl _ _) hl (by omega) (fun C => compEnv_local (by kernel_rfl) (by kernel_rfl)) (fun _ => false) (fun _ _ => False) ?_ ?_ ?_)
  · intro C i v s' m' E' hv U hns hm
    obtain ⟨k, t, _, rfl⟩ := IntsAre.at' hi hv
    have B' := (F.keep0 U).base
    refine wpAny_tests_one (wpAny_isTrue_BoolOp (wpAny_allTrue_Or_cons (wpAny_isTrue_value ?_)))
    refine callB2 (id := "isinstance") B' (fun P => by kernel_rfl) (fun P => by kernel_rfl) ?_
    refine nL hns hm ?_
    refine nB B' (v := .type "bool") (fun P => by kernel_rfl) (fun P => by kernel_rfl) ?_
    refine IsiPair.int_bool (wpAny_truthy_bool ?_)
    simp only [Bool.false_eq_true, if_false]
    refine wpAny_allTrue_Or_cons (wpAny_isTrue_Not (wpAny_isTrue_value ?_))
    refine callB2 (id := "isinstance") ?_ (fun P => by kernel_rfl) (fun P => by kernel_rfl) ?_
    · exact B'
    refine nL (m := m') ?_ hm ?_
    · exact hns
    refine nB ?_ (v := .type "int") (fun P => by kernel_rfl) (fun P => by kernel_rfl) ?_
    · exact B'
    refine IsiPair.int_int (wpAny_truthy_bool ?_)
    simp only [Bool.not_true, Bool.false_eq_true, if_false]
    exact wpAny_allTrue_Or_nil ⟨rfl, .toks⟩
  · intro C i v s' m' E' hi hp
    cases hp
  · intro D ys s' hD U hl' hM
    have : (List.range vw.length).filter (fun _ => false) = [] := by simp
    rw [this] at hM
    rw [hM.none] at hl'
    refine ne_nil (hr.le (by decide)) hl' rfl fun s'' U' => ⟨false, rfl, rfl, ?_⟩
    exact h s'' (U.trans U') (F.keep0 (U.trans U'))
theorem lw_drop34 : ∃ (ps : List Pos) (cs : List Nat), lwBody 34 = (.If (.Compare (.Name (Str.ofString "ways") (posN ps 0)) [.NotEq] [(.List [(.Call (.Name (Str.ofString "_law_way") (posN ps 1)) [(.Name (Str.ofString "long_one") (posN ps 2)), (.Name (Str.ofString "long_two") (posN ps 3))] [] (posN ps 4)), (.Call (.Name (Str.ofString "_law_way") (posN ps 5)) [(.Name (Str.ofString "long_two") (posN ps 6)), (.Name (Str.ofString "long_one") (posN ps 7))] [] (posN ps 8)), (.Constant (.int 0) (natN cs 0) (posN ps 9))] (posN ps 10))] (posN ps 11)) [(.Return (some (.Constant (.bool false) (natN cs 1) (posN ps 12))) (posN ps 13))] [] (posN ps 14)) :: lwBody 35 :=
   ⟨[_, _, _, _, _, _, _, _, _, _, _, _, _, _, _], [_, _], rfl⟩
theorem lw34 {WY : Addr} {vw : List Value} {x y : Str} {t u : Tok} {Q : Flow → Shared → Prop} (hr : Room 100 A) (hh : A.handled = none) (F : Lw w s₀ s L m cm) (hW : m (Str.ofString "ways") = some (.ref WY)) (hl : s.heap.PlainList WY vw.toArray) (hi : IntsAre vw (waysOf x y)) (h1 : m (Str.ofString "long_one") = some (.str x t)) (h2 : m (Str.ofString "long_two") = some (.str y u)) (hx : x.cps.size ≤ 1000) (hy : y.cps.size ≤ 1000)
    (hw : wayOf (tx x) (tx y) = collOf (tx x) (tx y)) (hw' : wayOf (tx y) (tx x) = collOf (tx y) (tx x))
    (h : ∀ s', Upd noW s s' → Lw w s₀ s' L m cm → wpAny (model pw w) A (execs (lwBody 35) (lwEnv L)) Q E s') :
    wpAny (model pw w) A (execs (lwBody 34) (lwEnv L)) Q E s := by
  obtain ⟨ps, cs, he⟩ := lw_drop34
  rw [he]
  refine if_1 (isT_cmp (lwL F hW ?_))
  refine list3 (env := lwEnv L) ?_
  refine callG2 (env := lwEnv L) okWay F.base (fun P => by kernel_rfl) (lwL F h1 (lwL F h2 ⟨F.base, way_call (hr.le (by decide)) hh F.base (by omega) (by omega) fun k1 s₁ U1 => ?_⟩))
  have F1 := F.keep0 U1
  refine callG2 (env := lwEnv L) okWay F1.base (fun P => by kernel_rfl) (lwL F1 h2 (lwL F1 h1 ⟨F1.base, way_call (hr.le (by decide)) hh F1.base (by omega) (by omega) fun k2 s₂ U2 => ?_⟩))
  have F2 := F1.keep0 U2
  refine wpAny_Constant_int (k := 0) (pos := (posN ps 0)) ?_
  intro D s₃ hD U3 l3
  have U3' : Upd noW s₂ s₃ := (Upd.toks (s := s₂) (t := s₂.toks + 1)).trans U3
  have V : Upd noW s s₃ := (U1.trans U2).trans U3'
  have e3 : collOf (tx x) (tx x) = 0 := by unfold collOf; simp
  refine ne_ints (hl.at fun o e => V.get id e) l3 hi (.cons _ k1 (.cons _ k2 (.cons _ s₂.toks .nil))) (hr.le (by decide)) ⟨false, ?_, rfl, h s₃ V (F.keep0 V)⟩
  unfold waysOf
  rw [hw, hw', e3]
  simp
end
end
end Mine
namespace Mine
open PySem PySem.W PySem.Calls PyProof.Rows
noncomputable section
noncomputable def cntL (xs : List Str) (K : List Nat) : Nat := (xs.filter fun y => decide (fP y < K)).length
noncomputable def cntR (xs : List Str) (K : List Nat) : Nat := (xs.filter fun y => !decide (K < fP y)).length
theorem filter_len_iff {α : Type} (p : α → Bool) : ∀ (us : List α), (us.Pairwise fun a b => p b = true → p a = true) → ∀ i y, us[i]? = some y → (p y = true ↔ i < (us.filter p).length)
  | [], _, i, y, h => by simp at h
  | a :: r, hs, i, y, h => by
    rw [List.pairwise_cons] at hs
    cases i with
    | zero =>
      simp at h
      subst h
      by_cases q : p a = true
      · simp [q]
      · have : r.filter p = [] := List.filter_eq_nil_iff.mpr fun b hb hp => q (hs.1 b hb hp)
        simp [q, this]
    | succ i =>
      simp only [List.getElem?_cons_succ] at h
      have ih := filter_len_iff p r hs.2 i y h
      by_cases q : p a = true
      · rw [List.filter_cons_of_pos q, List.length_cons, ih]; omega
      · have z : ¬ p y = true := fun hp => q (hs.1 y (List.mem_of_getElem? h) hp)
        have : r.filter p = [] := List.filter_eq_nil_iff.mpr fun b hb hp => q (hs.1 b hb hp)
        rw [List.filter_cons_of_neg q, this]
        simp [z]
theorem cntL_perm {us xs : List Str} (h : us.Perm xs) (K : List Nat) : cntL us K = cntL xs K := (h.filter _).length_eq
theorem cntR_perm {us xs : List Str} (h : us.Perm xs) (K : List Nat) : cntR us K = cntR xs K := (h.filter _).length_eq
theorem cntL_iff {us : List Str} (h : us.Pairwise (ltF fP)) (K : List Nat) {i : Nat} {y : Str} (hy : us[i]? = some y) : fP y < K ↔ i < cntL us K := by
  have := filter_len_iff (fun y => decide (fP y < K)) us (h.imp fun {a b} q hb => by
    rw [decide_eq_true_iff] at hb ⊢
    rcases q with q | ⟨q, _⟩
    · exact List.lt_trans q hb
    · rw [q]; exact hb) i y hy
  rw [decide_eq_true_iff] at this
  exact this
theorem cntR_iff {us : List Str} (h : us.Pairwise (ltF fP)) (K : List Nat) {i : Nat} {y : Str} (hy : us[i]? = some y) : ¬ K < fP y ↔ i < cntR us K := by
  have := filter_len_iff (fun y => !decide (K < fP y)) us (h.imp fun {a b} q hb => by
    simp only [Bool.not_eq_true', decide_eq_false_iff_not] at hb ⊢
    rcases q with q | ⟨q, _⟩
    · exact fun z => hb (List.lt_trans z q)
    · rw [q]; exact hb) i y hy
  simp only [Bool.not_eq_true', decide_eq_false_iff_not] at this
  exact this
theorem cntL_le (us : List Str) (K : List Nat) : cntL us K ≤ us.length := List.length_filter_le _ _
theorem cntR_le (us : List Str) (K : List Nat) : cntR us K ≤ us.length := List.length_filter_le _ _
theorem Made2.len {G : Nat → Value → Prop} {is : List Nat} {ys : List Value} (h : Made2 G is ys) : ys.length = is.length := by
  induction h with
  | nil => rfl
  | snoc _ _ ih => simp [ih]
theorem filter_idx {α : Type} (xs : List α) (d : α) (p : α → Bool) : ((List.range xs.length).filter fun i => p (xs.getD i d)).length = (xs.filter p).length := by
  have e : xs = (List.range xs.length).map fun i => xs.getD i d := by
    apply List.ext_getElem
    · simp
    · intro i h1 h2
      simp [List.getD_eq_getElem?_getD, h1]
  have e2 : xs.filter p = ((List.range xs.length).filter fun i => p (xs.getD i d)).map fun i => xs.getD i d := by
    conv => lhs; rw [e]
    rw [List.filter_map]
    rfl
  rw [e2, List.length_map]
/-- the data that stand while the long words are tried -/
structure Dat (w : World) (h : Heap) (L N S0 SH RD CD : Addr) (vu vh : List Value) (xs : List Str) (krs kcs : KVs) : Prop where
  a1 : L + 9 ≤ S0 ∧ S0 < N
  a2 : L + 9 ≤ SH ∧ SH < N
  a3 : L + 9 ≤ RD ∧ RD < N
  a4 : L + 9 ≤ CD ∧ CD < N
  l1 : h.PlainList S0 vu.toArray
  l2 : h.PlainList SH vh.toArray
  d1 : h.DictOf (sk w) RD krs
  d2 : h.DictOf (sk w) CD kcs
  kc : KVr (CodAt h fun a => L + 9 ≤ a ∧ a < N) kcs xs
theorem Dat.keep {w : World} {s s' : Shared} {L N S0 SH RD CD : Addr} {vu vh : List Value} {xs : List Str} {krs kcs : KVs} (D : Dat w s.heap L N S0 SH RD CD vu vh xs krs kcs) {W : Addr → Prop} (U : Upd W s s') (hW : ∀ b, W b → b < L + 9 ∨ N ≤ b) : Dat w s'.heap L N S0 SH RD CD vu vh xs krs kcs := by
  have n : ∀ {b : Addr}, L + 9 ≤ b ∧ b < N → ¬ W b := fun q z => (hW _ z).elim (fun z => absurd q.1 (Nat.not_le.mpr z)) fun z => absurd q.2 (Nat.not_lt.mpr z)
  exact ⟨D.a1, D.a2, D.a3, D.a4, D.l1.at fun o e => U.get (n D.a1) e, D.l2.at fun o e => U.get (n D.a2) e, D.d1.at fun o e => U.get (n D.a3) e, D.d2.at fun o e => U.get (n D.a4) e, D.kc.imp fun x v c => c.keep fun a p o e => U.get (n p) e⟩
section
variable {w : World} {A : Around} {s s' s₀ : Shared} {L : Addr} {m cm : Str → Option Value} {E : Value → Shared → Prop} {env : Env}
noncomputable abbrev sc35 : Scope := mkSc [((Str.ofString ".0"), .local), ((Str.ofString "one"), .local), ((Str.ofString "coded"), .free), ((Str.ofString "codes"), .free)]
theorem cnt_comp_Lt {N S0 SH RD CD KD : Addr} {vu vh kv : List Value} {xs : List Str} {krs kcs : KVs} {K : List Nat} {p40 p41 p42 p43 p44 p45 p46 p47 p48 : Pos} {Q : Value → Shared → Prop} (hr : Room 60 A) (hh : A.handled = none) (F : Lw w s₀ s L m cm) (Dt : Dat w s.heap L N S0 SH RD CD vu vh xs krs kcs)
    (hH : cm (Str.ofString "shelf") = some (.ref SH)) (hC : cm (Str.ofString "coded") = some (.ref CD)) (hK : cm (Str.ofString "codes") = some (.ref KD)) (lk : s.heap.PlainList KD kv.toArray) (ik : IntsAre kv (zs K)) (hvh : StrsAre vh xs) (hnd : xs.Nodup) (hlen : xs.length ≤ 1000)
    (h : ∀ D ys s', Upd noW s s' → s'.heap.PlainList D (List.toArray ys) → ys.length = cntL xs K → Q (.ref D) s') :
    wpAny (model pw w) A (eval (.ListComp (.Name (Str.ofString "one") p40) [⟨(.Name (Str.ofString "one") p41), (.Name (Str.ofString "shelf") p42), [(.Compare (.Subscript (.Name (Str.ofString "coded") p43) (.Name (Str.ofString "one") p44) p45) [.Lt] [(.Name (Str.ofString "codes") p46)] p47)], 0⟩] sc35 p48) (lwEnv L)) Q E s := by
  have len := StrsAre.len hvh
  have hcC := hC ▸ F.cells (Str.ofString "coded") (L + 7) (by kernel_rfl)
  have hcK := hK ▸ F.cells (Str.ofString "codes") (L + 6) (by kernel_rfl)
  refine comp_v (cl := [(Str.ofString "codes", L + 6), (Str.ofString "coded", L + 7)]) (by kernel_rfl) (by decide +kernel) (by kernel_rfl) (by decide +kernel) ?_
  refine lwC F (c := L + 5) (by kernel_rfl) hH ?_
  refine pure_list hh (.refl _ _) Dt.l2 (by omega) (fun C => compEnv_local (by kernel_rfl) (by kernel_rfl)) (fun i => decide (fP (xs.getD i e0) < K)) (fun _ _ => True) ?_ ?_ ?_
  · intro C i v s' m' E' hv U hns hm
    obtain ⟨x, t, hx, rfl⟩ := StrsAre.at' hvh hv
    obtain ⟨v', hv', ka, kws, rfl, _, l', i'⟩ := Dt.kc.at' hnd (List.mem_of_getElem? hx)
    refine wpAny_tests_one (isT_cmp ?_)
    refine dict_at (R := CD) (x := x) (t := t) (kvs := kcs) (v := .ref ka) ?_
    refine nC (c := L + 7) (by kernel_rfl) (IsCell.at' hcC fun o e => U.get id e) ?_
    refine nL hns hm ⟨rfl, rfl, Dt.d2.at fun o e => U.get id e, hv', ?_⟩
    refine nC (c := L + 6) (v := .ref KD) (by kernel_rfl) (IsCell.at' hcK fun o e => U.get id e) ?_
    refine lt_ints (l'.at fun o e => U.get id e) (lk.at fun o e => U.get id e) i' ik (by have := hr.units; omega) ⟨_, rfl, ?_, .toks⟩
    rw [List.getD_eq_getElem?_getD, hx]; rfl
  · intro C i v s' m' E' hv _ U hns hm
    exact nL hns hm ⟨trivial, .refl _ _⟩
  · intro D ys s' hD U l' hM
    refine h D ys s' U l' ?_
    rw [hM.len, len]
    exact filter_idx xs e0 (fun y => decide (fP y < K))
theorem cnt_comp_LtE {N S0 SH RD CD KD : Addr} {vu vh kv : List Value} {xs : List Str} {krs kcs : KVs} {K : List Nat} {p40 p41 p42 p43 p44 p45 p46 p47 p48 : Pos} {Q : Value → Shared → Prop} (hr : Room 60 A) (hh : A.handled = none) (F : Lw w s₀ s L m cm) (Dt : Dat w s.heap L N S0 SH RD CD vu vh xs krs kcs)
    (hH : cm (Str.ofString "shelf") = some (.ref SH)) (hC : cm (Str.ofString "coded") = some (.ref CD)) (hK : cm (Str.ofString "codes") = some (.ref KD)) (lk : s.heap.PlainList KD kv.toArray) (ik : IntsAre kv (zs K)) (hvh : StrsAre vh xs) (hnd : xs.Nodup) (hlen : xs.length ≤ 1000)
    (h : ∀ D ys s', Upd noW s s' → s'.heap.PlainList D (List.toArray ys) → ys.length = cntR xs K → Q (.ref D) s') :
    wpAny (model pw w) A (eval (.ListComp (.Name (Str.ofString "one") p40) [⟨(.Name (Str.ofString "one") p41), (.Name (Str.ofString "shelf") p42), [(.Compare (.Subscript (.Name (Str.ofString "coded") p43) (.Name (Str.ofString "one") p44) p45) [.LtE] [(.Name (Str.ofString "codes") p46)] p47)], 0⟩] sc35 p48) (lwEnv L)) Q E s := by
  have len := StrsAre.len hvh
  have hcC := hC ▸ F.cells (Str.ofString "coded") (L + 7) (by kernel_rfl)
  have hcK := hK ▸ F.cells (Str.ofString "codes") (L + 6) (by kernel_rfl)
  refine comp_v (cl := [(Str.ofString "codes", L + 6), (Str.ofString "coded", L + 7)]) (by kernel_rfl) (by decide +kernel) (by kernel_rfl) (by decide +kernel) ?_
  refine lwC F (c := L + 5) (by kernel_rfl) hH ?_
  refine pure_list hh (.refl _ _) Dt.l2 (by omega) (fun C => compEnv_local (by kernel_rfl) (by kernel_rfl)) (fun i => !decide (K < fP (xs.getD i e0))) (fun _ _ => True) ?_ ?_ ?_
  · intro C i v s' m' E' hv U hns hm
    obtain ⟨x, t, hx, rfl⟩ := StrsAre.at' hvh hv
    obtain ⟨v', hv', ka, kws, rfl, _, l', i'⟩ := Dt.kc.at' hnd (List.mem_of_getElem? hx)
    refine wpAny_tests_one (isT_cmp ?_)
    refine dict_at (R := CD) (x := x) (t := t) (kvs := kcs) (v := .ref ka) ?_
    refine nC (c := L + 7) (by kernel_rfl) (IsCell.at' hcC fun o e => U.get id e) ?_
    refine nL hns hm ⟨rfl, rfl, Dt.d2.at fun o e => U.get id e, hv', ?_⟩
    refine nC (c := L + 6) (v := .ref KD) (by kernel_rfl) (IsCell.at' hcK fun o e => U.get id e) ?_
    refine le_ints (l'.at fun o e => U.get id e) (lk.at fun o e => U.get id e) i' ik (by have := hr.units; omega) ⟨_, rfl, ?_, .toks⟩
    rw [List.getD_eq_getElem?_getD, hx]; rfl
  · intro C i v s' m' E' hv _ U hns hm
    exact nL hns hm ⟨trivial, .refl _ _⟩
  · intro D ys s' hD U l' hM
    refine h D ys s' U l' ?_
    rw [hM.len, len]
    exact filter_idx xs e0 (fun y => !decide (K < fP y))
end
end
end Mine
namespace Mine
open PySem PySem.W PySem.Calls PyProof.Rows
noncomputable section
theorem TabOk.cell {M : Addr → Prop} {h : Heap} (T : TabOk M h) {c : Addr} {v : Option Value} (hc : h.IsCell c v) : TabOk (fun b => M b ∨ b = c) h := by
  obtain ⟨ps, e, t, r⟩ := T
  refine ⟨ps, e, t, fun pos cv q => ?_⟩
  obtain ⟨d, e1, e2, e3, e4⟩ := r pos cv q
  refine ⟨d, e1, e2, fun z => z.elim e3 fun z => ?_, e4⟩
  subst z
  obtain ⟨c', o, vs, t', e, ho, rr⟩ := e4
  cases e
  obtain ⟨o', ho', hd⟩ := hc
  rw [ho] at ho'
  cases ho'
  simp_all
noncomputable abbrev MI (L S0 I : Addr) (b : Addr) : Prop := (MS L S0 b ∨ b = I) ∨ b = L + 6
/-- the frame of the last loop -/
structure Lp (w : World) (s₀ s : Shared) (L N I S0 SH RD CD : Addr) (m cm : Str → Option Value) (kb : Bool) (vu vh : List Value) (xs : List Str) (krs kcs : KVs) : Prop where
  F : Lw w s₀ s L m cm
  D : Dat w s.heap L N S0 SH RD CD vu vh xs krs kcs
  T : TabOk (MI L S0 I) s.heap
  n : N ≤ I
  z : I < hs s
  sec : m (Str.ofString "second") = some (.ref S0)
  kept : m (Str.ofString "kept") = some (.bool kb)
  shelf : cm (Str.ofString "shelf") = some (.ref SH)
  ready : cm (Str.ofString "ready") = some (.ref RD)
  coded : cm (Str.ofString "coded") = some (.ref CD)
section
variable {w : World} {A : Around} {s s' s₀ : Shared} {L N I S0 SH RD CD : Addr} {m cm : Str → Option Value} {E : Value → Shared → Prop} {kb : Bool} {vu vh : List Value} {xs us : List Str} {krs kcs : KVs}
theorem Lp.hI (X : Lp w s₀ s L N I S0 SH RD CD m cm kb vu vh xs krs kcs) : L + 9 ≤ I := Nat.le_trans X.D.a1.1 (Nat.le_trans (Nat.le_of_lt X.D.a1.2) X.n)
theorem Lp.tab (X : Lp w s₀ s L N I S0 SH RD CD m cm kb vu vh xs krs kcs) : ¬ MI L S0 I lawTab := fun q => by
  rcases q with (q | q) | q
  · exact X.F.msTab X.D.a1.1 q
  · exact X.F.ge_tab X.hI q.symm
  · have := X.F.tab
    rw [q] at this
    exact absurd this (Nat.not_lt.mpr (Nat.le_add_right _ _))
theorem Lp.pure (X : Lp w s₀ s L N I S0 SH RD CD m cm kb vu vh xs krs kcs) (U : Upd noW s s') : Lp w s₀ s' L N I S0 SH RD CD m cm kb vu vh xs krs kcs :=
  ⟨X.F.keep0 U, X.D.keep U fun b q => q.elim, X.T.keep (fun b o _ e => U.get id e) X.tab, X.n, Nat.lt_of_lt_of_le X.z U.size, X.sec, X.kept, X.shelf, X.ready, X.coded⟩
theorem Lp.tabw (X : Lp w s₀ s L N I S0 SH RD CD m cm kb vu vh xs krs kcs) (U : Upd (fun b => b = lawTab) s s') (T : TabOk (MI L S0 I) s'.heap) : Lp w s₀ s' L N I S0 SH RD CD m cm kb vu vh xs krs kcs :=
  ⟨X.F.keep U fun b q => .inl q, X.D.keep U fun b q => .inl (q ▸ Nat.lt_of_lt_of_le X.F.tab (Nat.le_add_right _ _)), T, X.n, Nat.lt_of_lt_of_le X.z U.size, X.sec, X.kept, X.shelf, X.ready, X.coded⟩
theorem Lp.loc (X : Lp w s₀ s L N I S0 SH RD CD m cm kb vu vh xs krs kcs) {y : Str} {v : Value} (U : Upd (fun b => b = L) s s') (hn : s'.heap.Ns L (setM m y v)) (h1 : Str.ofString "second" ≠ y) (h2 : Str.ofString "kept" ≠ y) : Lp w s₀ s' L N I S0 SH RD CD (setM m y v) cm kb vu vh xs krs kcs :=
  ⟨X.F.loc U hn, X.D.keep U fun b q => .inl (q ▸ Nat.lt_add_of_pos_right (by decide)), X.T.keep (fun b o nb e => U.get (fun q => nb (.inl (.inl (.inl q)))) e) X.tab, X.n, Nat.lt_of_lt_of_le X.z U.size, (if_neg h1).trans X.sec, (if_neg h2).trans X.kept, X.shelf, X.ready, X.coded⟩
theorem Lp.cel (X : Lp w s₀ s L N I S0 SH RD CD m cm kb vu vh xs krs kcs) {v : Value} (U : Upd (fun b => b = L + 6) s s') (F : Lw w s₀ s' L m (setM cm (Str.ofString "codes") v)) : Lp w s₀ s' L N I S0 SH RD CD m (setM cm (Str.ofString "codes") v) kb vu vh xs krs kcs :=
  ⟨F, X.D.keep U fun b q => .inl (q ▸ Nat.add_lt_add_left (by decide) _), X.T.keep (fun b o nb e => U.get (fun q => nb (.inr q)) e) X.tab, X.n, Nat.lt_of_lt_of_le X.z U.size, X.sec, X.kept, (if_neg (by decide)).trans X.shelf, (if_neg (by decide)).trans X.ready, (if_neg (by decide)).trans X.coded⟩
/-- letters = _law_prepared(text) -/
theorem lp0 {x : Str} {t : Tok} {p4 p5 p6 p7 p8 : Pos} {rest : List Stmt} {Q : Flow → Shared → Prop} (hr : Room 60 A) (hh : A.handled = none) (X : Lp w s₀ s L N I S0 SH RD CD m cm kb vu vh xs krs kcs) (hx : m sText = some (.str x t)) (hz : x.cps.size ≤ 1000)
    (h : ∀ z k s', tx z = fP x → Upd (fun b => b = L) s s' → Lp w s₀ s' L N I S0 SH RD CD (setM m (Str.ofString "letters") (.str z k)) cm kb vu vh xs krs kcs → wpAny (model pw w) A (execs rest (lwEnv L)) Q E s') :
    wpAny (model pw w) A (execs ((.Assign [(.Name (Str.ofString "letters") p4)] (.Call (.Name (Str.ofString "_law_prepared") p5) [(.Name (Str.ofString "text") p6)] [] p7) p8) :: rest) (lwEnv L)) Q E s := by
  refine asg ?_ (by kernel_rfl)
  refine callG1 (env := lwEnv L) okPrep X.F.base (fun P => by kernel_rfl) (lwL X.F hx ⟨X.F.base, prep_call (hr.le (by decide)) hh X.F.base (by omega) fun z k s₁ U1 hz => ?_⟩)
  have X1 := X.pure U1
  refine sL (env := lwEnv L) X1.F.ns fun s₂ U2 hn2 => ?_
  exact h z k s₂ hz (U1.up.trans U2) (X1.loc U2 hn2 (by decide) (by decide))
/-- codes = _law_codes(letters) -/
theorem lp1 {z : Str} {k : Tok} {p9 p10 p11 p12 p13 : Pos} {rest : List Stmt} {Q : Flow → Shared → Prop} (hr : Room 60 A) (hh : A.handled = none) (X : Lp w s₀ s L N I S0 SH RD CD m cm kb vu vh xs krs kcs) (hz : m (Str.ofString "letters") = some (.str z k)) (hzz : z.cps.size ≤ 10000)
    (h : ∀ KD kv s', hs s ≤ KD → Upd (fun b => b = L + 6) s s' → Lp w s₀ s' L N I S0 SH RD CD m (setM cm (Str.ofString "codes") (.ref KD)) kb vu vh xs krs kcs → s'.heap.PlainList KD (List.toArray kv) → IntsAre kv (zs (tx z)) → wpAny (model pw w) A (execs rest (lwEnv L)) Q E s') :
    wpAny (model pw w) A (execs ((.Assign [(.Name (Str.ofString "codes") p9)] (.Call (.Name (Str.ofString "_law_codes") p10) [(.Name (Str.ofString "letters") p11)] [] p12) p13) :: rest) (lwEnv L)) Q E s := by
  refine asg ?_ (by kernel_rfl)
  refine callG1 (env := lwEnv L) okCodes X.F.base (fun P => by kernel_rfl) (lwL X.F hz ⟨X.F.base, codes_call (hr.le (by decide)) hh X.F.base hzz fun KD kv s₁ hD U1 l1 i1 => ?_⟩)
  have X1 := X.pure U1
  refine sC X1.F (c := L + 6) (by kernel_rfl) fun s₂ U2 F2 => ?_
  have k6 : KD ≠ L + 6 := fun q => by
    have := Nat.le_trans X.F.low hD
    rw [q] at this
    exact absurd this (Nat.not_le.mpr (Nat.add_lt_add_left (by decide) _))
  exact h KD kv s₂ hD (U1.up.trans U2) (X1.cel U2 F2) (l1.at fun o e => U2.get k6 e) i1
/-- least = bisect_left(second, letters, key=…) -/
theorem lp2 {z : Str} {k : Tok} {p14 p15 p16 p17 as18 p19 p20 p21 p22 p23 p24 p25 : Pos} {rest : List Stmt} {Q : Flow → Shared → Prop} (hr : Room 60 A) (X : Lp w s₀ s L N I S0 SH RD CD m cm kb vu vh xs krs kcs) (hz : m (Str.ofString "letters") = some (.str z k))
    (hvu : StrsAre vu us) (hus : us.Pairwise (ltF fP)) (hpu : us.Perm xs) (hkr : KVr RdyAt krs xs) (hnd : xs.Nodup) (hlen : xs.length ≤ 1000)
    (h : ∀ t s', Upd (fun b => b = L ∨ b = lawTab) s s' → Lp w s₀ s' L N I S0 SH RD CD (setM m (Str.ofString "least") (.int ((cntL xs (tx z) : Nat) : Int) t)) cm kb vu vh xs krs kcs → wpAny (model pw w) A (execs rest (lwEnv L)) Q E s') :
    wpAny (model pw w) A (execs ((.Assign [(.Name (Str.ofString "least") p14)] (.Call (.Name (Str.ofString "bisect_left") p15) [(.Name (Str.ofString "second") p16), (.Name (Str.ofString "letters") p17)] [⟨some (Str.ofString "key"), (.Lambda (lamA as18) (.Subscript (.Name (Str.ofString "ready") p19) (.Name (Str.ofString "one") p20) p21) (mkSc [((Str.ofString "one"), .local), ((Str.ofString "ready"), .free)]) p22), p23⟩] p24) p25) :: rest) (lwEnv L)) Q E s := by
  refine asg ?_ (by kernel_rfl)
  refine callG2k (env := lwEnv L) okBL X.F.base (fun P => by kernel_rfl) (lwL X.F X.sec (lwL X.F hz ?_))
  refine lam_eval (x := Str.ofString "ready") (c := L + 8) X.F.base X.T (fun b q => ?_) (by kernel_rfl) fun fl s₁ pm cv ct U1 hf1 T1 ho1 hr1 => ?_
  · rcases q with (q | q) | q
    · exact X.F.msLt (lt_list X.D.l1) b q
    · rw [q]; exact X.z
    · rw [q]; exact Nat.lt_of_lt_of_le (Nat.add_lt_add_left (by decide) _) X.F.low
  · have X1 := X.tabw U1 T1
    have K1 : KeySpec w s₁ fl (DomOf krs) := lam_spec X1.F.base (lam_ok (Str.ofString "ready") as18 p19 p20 p21 (.inl rfl)) ho1 hr1 (X1.ready ▸ X1.F.cells (Str.ofString "ready") (L + 8) (by kernel_rfl)) X1.D.d1
    have el : us.length = xs.length := hpu.length_eq
    refine ⟨X1.F.base, bis_left_key (f := fP) (k := cntL us (tx z)) (hr.le (by decide)) X1.F.base X1.D.l1 hvu (by omega) K1 (fun y u hy => dom_rdy hkr hnd (hpu.mem_iff.mp hy) u) (cntL_le _ _) (fun i y hy => cntL_iff hus (tx z) hy) fun t' s₂ U2 => ?_⟩
    have X2 := X1.pure U2
    rw [cntL_perm hpu]
    refine sL (env := lwEnv L) X2.F.ns fun s₃ U3 hn3 => ?_
    exact h t' s₃ (((U1.mono fun b q => .inr q).trans U2.up).trans (U3.mono fun b q => .inl q)) (X2.loc U3 hn3 (by decide) (by decide))
/-- most = bisect_right(second, letters, key=…) -/
theorem lp3 {z : Str} {k : Tok} {p14 p15 p16 p17 as18 p19 p20 p21 p22 p23 p24 p25 : Pos} {rest : List Stmt} {Q : Flow → Shared → Prop} (hr : Room 60 A) (X : Lp w s₀ s L N I S0 SH RD CD m cm kb vu vh xs krs kcs) (hz : m (Str.ofString "letters") = some (.str z k))
    (hvu : StrsAre vu us) (hus : us.Pairwise (ltF fP)) (hpu : us.Perm xs) (hkr : KVr RdyAt krs xs) (hnd : xs.Nodup) (hlen : xs.length ≤ 1000)
    (h : ∀ t s', Upd (fun b => b = L ∨ b = lawTab) s s' → Lp w s₀ s' L N I S0 SH RD CD (setM m (Str.ofString "most") (.int ((cntR xs (tx z) : Nat) : Int) t)) cm kb vu vh xs krs kcs → wpAny (model pw w) A (execs rest (lwEnv L)) Q E s') :
    wpAny (model pw w) A (execs ((.Assign [(.Name (Str.ofString "most") p14)] (.Call (.Name (Str.ofString "bisect_right") p15) [(.Name (Str.ofString "second") p16), (.Name (Str.ofString "letters") p17)] [⟨some (Str.ofString "key"), (.Lambda (lamA as18) (.Subscript (.Name (Str.ofString "ready") p19) (.Name (Str.ofString "one") p20) p21) (mkSc [((Str.ofString "one"), .local), ((Str.ofString "ready"), .free)]) p22), p23⟩] p24) p25) :: rest) (lwEnv L)) Q E s := by
  refine asg ?_ (by kernel_rfl)
  refine callG2k (env := lwEnv L) okBR X.F.base (fun P => by kernel_rfl) (lwL X.F X.sec (lwL X.F hz ?_))
  refine lam_eval (x := Str.ofString "ready") (c := L + 8) X.F.base X.T (fun b q => ?_) (by kernel_rfl) fun fl s₁ pm cv ct U1 hf1 T1 ho1 hr1 => ?_
  · rcases q with (q | q) | q
    · exact X.F.msLt (lt_list X.D.l1) b q
    · rw [q]; exact X.z
    · rw [q]; exact Nat.lt_of_lt_of_le (Nat.add_lt_add_left (by decide) _) X.F.low
  · have X1 := X.tabw U1 T1
    have K1 : KeySpec w s₁ fl (DomOf krs) := lam_spec X1.F.base (lam_ok (Str.ofString "ready") as18 p19 p20 p21 (.inl rfl)) ho1 hr1 (X1.ready ▸ X1.F.cells (Str.ofString "ready") (L + 8) (by kernel_rfl)) X1.D.d1
    have el : us.length = xs.length := hpu.length_eq
    refine ⟨X1.F.base, bis_right_key (f := fP) (k := cntR us (tx z)) (hr.le (by decide)) X1.F.base X1.D.l1 hvu (by omega) K1 (fun y u hy => dom_rdy hkr hnd (hpu.mem_iff.mp hy) u) (cntR_le _ _) (fun i y hy => cntR_iff hus (tx z) hy) fun t' s₂ U2 => ?_⟩
    have X2 := X1.pure U2
    rw [cntR_perm hpu]
    refine sL (env := lwEnv L) X2.F.ns fun s₃ U3 hn3 => ?_
    exact h t' s₃ (((U1.mono fun b q => .inr q).trans U2.up).trans (U3.mono fun b q => .inl q)) (X2.loc U3 hn3 (by decide) (by decide))
/-- the count of the shelf -/
theorem lp4 {KD : Addr} {kv : List Value} {K : List Nat} {tl : Tok} {c51 : Nat} {p38 p39 p40 p41 p42 p43 p44 p45 p46 p47 p48 p49 p50 p52 p53 p54 : Pos} {rest : List Stmt} {Q : Flow → Shared → Prop} (hr : Room 60 A) (hh : A.handled = none) (X : Lp w s₀ s L N I S0 SH RD CD m cm kb vu vh xs krs kcs)
    (hl : m (Str.ofString "least") = some (.int ((cntL xs K : Nat) : Int) tl)) (hK : cm (Str.ofString "codes") = some (.ref KD)) (lk : s.heap.PlainList KD kv.toArray) (ik : IntsAre kv (zs K)) (hvh : StrsAre vh xs) (hnd : xs.Nodup) (hlen : xs.length ≤ 1000)
    (h : ∀ s', Upd noW s s' → Lp w s₀ s' L N I S0 SH RD CD m cm kb vu vh xs krs kcs → wpAny (model pw w) A (execs rest (lwEnv L)) Q E s') :
    wpAny (model pw w) A (execs ((.If (.Compare (.Name (Str.ofString "least") p38) [.NotEq] [(.Call (.Name (Str.ofString "len") p39) [(.ListComp (.Name (Str.ofString "one") p40) [⟨(.Name (Str.ofString "one") p41), (.Name (Str.ofString "shelf") p42), [(.Compare (.Subscript (.Name (Str.ofString "coded") p43) (.Name (Str.ofString "one") p44) p45) [.Lt] [(.Name (Str.ofString "codes") p46)] p47)], 0⟩] (mkSc [((Str.ofString ".0"), .local), ((Str.ofString "one"), .local), ((Str.ofString "coded"), .free), ((Str.ofString "codes"), .free)]) p48)] [] p49)] p50) [(.Return (some (.Constant (.bool false) c51 p52)) p53)] [] p54) :: rest) (lwEnv L)) Q E s := by
  refine if_1 (isT_cmp (lwL X.F hl ?_))
  refine callB1 (env := lwEnv L) (id := "len") X.F.base (fun P => by kernel_rfl) (fun P => by kernel_rfl) ?_
  refine cnt_comp_Lt (K := K) hr hh X.F X.D X.shelf X.coded hK lk ik hvh hnd hlen fun D ys s₁ U1 l1 e1 => ?_
  have le := cntL_le xs K
  refine len_list l1.isList (by simp; omega) ?_
  have e2 : ((ys.toArray.size : Nat) : Int) = ((cntL xs K : Nat) : Int) := by simp [e1]
  rw [e2]
  have U2 : Upd noW s { s₁ with toks := s₁.toks + 1 + 1 } := U1.trans .toks
  refine PyProof.Rows.ne_int ⟨_, rfl, by simp, ?_⟩
  exact h _ U2 (X.pure U2)
/-- the count of the shelf -/
theorem lp5 {KD : Addr} {kv : List Value} {K : List Nat} {tl : Tok} {c51 : Nat} {p38 p39 p40 p41 p42 p43 p44 p45 p46 p47 p48 p49 p50 p52 p53 p54 : Pos} {rest : List Stmt} {Q : Flow → Shared → Prop} (hr : Room 60 A) (hh : A.handled = none) (X : Lp w s₀ s L N I S0 SH RD CD m cm kb vu vh xs krs kcs)
    (hl : m (Str.ofString "most") = some (.int ((cntR xs K : Nat) : Int) tl)) (hK : cm (Str.ofString "codes") = some (.ref KD)) (lk : s.heap.PlainList KD kv.toArray) (ik : IntsAre kv (zs K)) (hvh : StrsAre vh xs) (hnd : xs.Nodup) (hlen : xs.length ≤ 1000)
    (h : ∀ s', Upd noW s s' → Lp w s₀ s' L N I S0 SH RD CD m cm kb vu vh xs krs kcs → wpAny (model pw w) A (execs rest (lwEnv L)) Q E s') :
    wpAny (model pw w) A (execs ((.If (.Compare (.Name (Str.ofString "most") p38) [.NotEq] [(.Call (.Name (Str.ofString "len") p39) [(.ListComp (.Name (Str.ofString "one") p40) [⟨(.Name (Str.ofString "one") p41), (.Name (Str.ofString "shelf") p42), [(.Compare (.Subscript (.Name (Str.ofString "coded") p43) (.Name (Str.ofString "one") p44) p45) [.LtE] [(.Name (Str.ofString "codes") p46)] p47)], 0⟩] (mkSc [((Str.ofString ".0"), .local), ((Str.ofString "one"), .local), ((Str.ofString "coded"), .free), ((Str.ofString "codes"), .free)]) p48)] [] p49)] p50) [(.Return (some (.Constant (.bool false) c51 p52)) p53)] [] p54) :: rest) (lwEnv L)) Q E s := by
  refine if_1 (isT_cmp (lwL X.F hl ?_))
  refine callB1 (env := lwEnv L) (id := "len") X.F.base (fun P => by kernel_rfl) (fun P => by kernel_rfl) ?_
  refine cnt_comp_LtE (K := K) hr hh X.F X.D X.shelf X.coded hK lk ik hvh hnd hlen fun D ys s₁ U1 l1 e1 => ?_
  have le := cntR_le xs K
  refine len_list l1.isList (by simp; omega) ?_
  have e2 : ((ys.toArray.size : Nat) : Int) = ((cntR xs K : Nat) : Int) := by simp [e1]
  rw [e2]
  have U2 : Upd noW s { s₁ with toks := s₁.toks + 1 + 1 } := U1.trans .toks
  refine PyProof.Rows.ne_int ⟨_, rfl, by simp, ?_⟩
  exact h _ U2 (X.pure U2)
end
end
end Mine
namespace Mine
open PySem PySem.W PySem.Calls PyProof.Rows
noncomputable section
/-- what the bisections of the shelf by the plain texts give, where the order is kept -/
noncomputable def Agrees (xs : List Str) (x : Str) : Prop := ∀ (i : Nat) (y : Str), xs[i]? = some y → (tx y < tx x ↔ i < cntL xs (fP x)) ∧ (¬ tx x < tx y ↔ i < cntR xs (fP x))
section
variable {w : World} {A : Around} {s s' s₀ : Shared} {L N I S0 SH RD CD : Addr} {m cm : Str → Option Value} {E : Value → Shared → Prop} {kb : Bool} {vu vh : List Value} {xs us : List Str} {krs kcs : KVs}
theorem lp6 {x : Str} {t tl tm : Tok} {c87 : Nat} {p72 p73 p74 p75 p76 p77 p78 p79 p80 p81 p82 p83 p84 p85 p86 p88 p89 p90 : Pos} {rest : List Stmt} {Q : Flow → Shared → Prop} (hr : Room 60 A) (X : Lp w s₀ s L N I S0 SH RD CD m cm kb vu vh xs krs kcs) (hx : m sText = some (.str x t))
    (h1 : m (Str.ofString "least") = some (.int ((cntL xs (fP x) : Nat) : Int) tl)) (h2 : m (Str.ofString "most") = some (.int ((cntR xs (fP x) : Nat) : Int) tm)) (hvh : StrsAre vh xs) (hlen : xs.length ≤ 1000) (hag : kb = true → Agrees xs x)
    (h : ∀ s', Upd noW s s' → Lp w s₀ s' L N I S0 SH RD CD m cm kb vu vh xs krs kcs → wpAny (model pw w) A (execs rest (lwEnv L)) Q E s') :
    wpAny (model pw w) A (execs ((.If (.BoolOp .And [(.Name (Str.ofString "kept") p72), (.BoolOp .Or [(.Compare (.Call (.Name (Str.ofString "bisect_left") p73) [(.Name (Str.ofString "shelf") p74), (.Name (Str.ofString "text") p75)] [] p76) [.NotEq] [(.Name (Str.ofString "least") p77)] p78), (.Compare (.Call (.Name (Str.ofString "bisect_right") p79) [(.Name (Str.ofString "shelf") p80), (.Name (Str.ofString "text") p81)] [] p82) [.NotEq] [(.Name (Str.ofString "most") p83)] p84)] p85)] p86) [(.Return (some (.Constant (.bool false) c87 p88)) p89)] [] p90) :: rest) (lwEnv L)) Q E s := by
  refine wpAny_execs_cons (wpAny_If (wpAny_isTrue_BoolOp (wpAny_allTrue_And_cons (wpAny_isTrue_value (lwL X.F X.kept (wpAny_truthy_bool ?_))))))
  cases hk : kb with
  | false =>
    simp only [Bool.false_eq_true, if_false]
    exact wpAny_execs_nil (h s (.refl _ _) X)
  | true =>
    have ag := hag hk
    simp only [if_true]
    refine wpAny_allTrue_And_cons (wpAny_isTrue_BoolOp (wpAny_allTrue_Or_cons (isT_cmp ?_)))
    refine callG2 (env := lwEnv L) okBL X.F.base (fun P => by kernel_rfl) (lwC X.F (c := L + 5) (by kernel_rfl) X.shelf (lwL X.F hx ⟨X.F.base, ?_⟩))
    refine bis_left_str (k := cntL xs (fP x)) (hr.le (by decide)) X.F.base X.D.l2 hvh (by omega) (cntL_le _ _) (fun i y hy => (ag i y hy).1) fun t1 s₁ U1 => ?_
    have X1 := X.pure U1
    refine lwL X1.F h1 (PyProof.Rows.ne_int ⟨false, by simp, ?_⟩)
    simp only [Bool.false_eq_true, if_false]
    have go : ∀ s₂ : Shared, Upd noW s s₂ → wpAny (model pw w) A (allTrue .Or [(.Compare (.Call (.Name (Str.ofString "bisect_right") p79) [(.Name (Str.ofString "shelf") p80), (.Name (Str.ofString "text") p81)] [] p82) [.NotEq] [(.Name (Str.ofString "most") p83)] p84)] (lwEnv L)) (fun b s₃ => b = false ∧ Upd noW s s₃) E s₂ := by
      intro s₂ U2
      have X2 := X.pure U2
      refine wpAny_allTrue_Or_cons (isT_cmp ?_)
      refine callG2 (env := lwEnv L) okBR X2.F.base (fun P => by kernel_rfl) (lwC X2.F (c := L + 5) (by kernel_rfl) X2.shelf (lwL X2.F hx ⟨X2.F.base, ?_⟩))
      refine bis_right_str (k := cntR xs (fP x)) (hr.le (by decide)) X2.F.base X2.D.l2 hvh (by omega) (cntR_le _ _) (fun i y hy => (ag i y hy).2) fun t2 s₃ U3 => ?_
      have X3 := X2.pure U3
      refine lwL X3.F h2 (PyProof.Rows.ne_int ⟨false, by simp, ?_⟩)
      simp only [Bool.false_eq_true, if_false]
      exact wpAny_allTrue_Or_nil ⟨rfl, (U2.trans U3).trans .toks⟩
    refine wpAny_mono (go _ (U1.trans .toks)) (fun b s₃ q => ?_) fun _ _ q => q
    obtain ⟨rfl, U3⟩ := q
    simp only [Bool.false_eq_true, if_false]
    exact wpAny_execs_nil (h s₃ U3 (X.pure U3))
theorem lw_drop35 : ∃ (ps : List Pos) (cs : List Nat), lwBody 35 = (.For (.Name (Str.ofString "text") (posN ps 0)) (.List [(.Name (Str.ofString "long_one") (posN ps 1)), (.Name (Str.ofString "long_two") (posN ps 2))] (posN ps 3)) [(.Assign [(.Name (Str.ofString "letters") (posN ps 4))] (.Call (.Name (Str.ofString "_law_prepared") (posN ps 5)) [(.Name (Str.ofString "text") (posN ps 6))] [] (posN ps 7)) (posN ps 8)), (.Assign [(.Name (Str.ofString "codes") (posN ps 9))] (.Call (.Name (Str.ofString "_law_codes") (posN ps 10)) [(.Name (Str.ofString "letters") (posN ps 11))] [] (posN ps 12)) (posN ps 13)), (.Assign [(.Name (Str.ofString "least") (posN ps 14))] (.Call (.Name (Str.ofString "bisect_left") (posN ps 15)) [(.Name (Str.ofString "second") (posN ps 16)), (.Name (Str.ofString "letters") (posN ps 17))] [⟨some (Str.ofString "key"), (.Lambda (lamA (posN ps 18)) (.Subscript (.Name (Str.ofString "ready") (posN ps 19)) (.Name (Str.ofString "one") (posN ps 20)) (posN ps 21)) (mkSc [((Str.ofString "one"), .local), ((Str.ofString "ready"), .free)]) (posN ps 22)), (posN ps 23)⟩] (posN ps 24)) (posN ps 25)), (.Assign [(.Name (Str.ofString "most") (posN ps 26))] (.Call (.Name (Str.ofString "bisect_right") (posN ps 27)) [(.Name (Str.ofString "second") (posN ps 28)), (.Name (Str.ofString "letters") (posN ps 29))] [⟨some (Str.ofString "key"), (.Lambda (lamA (posN ps 30)) (.Subscript (.Name (Str.ofString "ready") (posN ps 31)) (.Name (Str.ofString "one") (posN ps 32)) (posN ps 33)) (mkSc [((Str.ofString "one"), .local), ((Str.ofString "ready"), .free)]) (posN ps 34)), (posN ps 35)⟩] (posN ps 36)) (posN ps 37)), (.If (.Compare (.Name (Str.ofString "least") (posN ps 38)) [.NotEq] [(.Call (.Name (Str.ofString "len") (posN ps 39)) [(.ListComp (.Name (Str.ofString "one") (posN ps 40)) [⟨(.Name (Str.ofString "one") (posN ps 41)), (.Name (Str.ofString "shelf") (posN ps 42)), [(.Compare (.Subscript (.Name (Str.ofString "coded") (posN ps 43)) (.Name (Str.ofString "one") (posN ps 44)) (posN ps 45)) [.Lt] [(.Name (Str.ofString "codes") (posN ps 46))] (posN ps 47))], 0⟩] (mkSc [((Str.ofString ".0"), .local), ((Str.ofString "one"), .local), ((Str.ofString "coded"), .free), ((Str.ofString "codes"), .free)]) (posN ps 48))] [] (posN ps 49))] (posN ps 50)) [(.Return (some (.Constant (.bool false) (natN cs 0) (posN ps 51))) (posN ps 52))] [] (posN ps 53)), (.If (.Compare (.Name (Str.ofString "most") (posN ps 54)) [.NotEq] [(.Call (.Name (Str.ofString "len") (posN ps 55)) [(.ListComp (.Name (Str.ofString "one") (posN ps 56)) [⟨(.Name (Str.ofString "one") (posN ps 57)), (.Name (Str.ofString "shelf") (posN ps 58)), [(.Compare (.Subscript (.Name (Str.ofString "coded") (posN ps 59)) (.Name (Str.ofString "one") (posN ps 60)) (posN ps 61)) [.LtE] [(.Name (Str.ofString "codes") (posN ps 62))] (posN ps 63))], 0⟩] (mkSc [((Str.ofString ".0"), .local), ((Str.ofString "one"), .local), ((Str.ofString "coded"), .free), ((Str.ofString "codes"), .free)]) (posN ps 64))] [] (posN ps 65))] (posN ps 66)) [(.Return (some (.Constant (.bool false) (natN cs 1) (posN ps 67))) (posN ps 68))] [] (posN ps 69)), (.If (.BoolOp .And [(.Name (Str.ofString "kept") (posN ps 70)), (.BoolOp .Or [(.Compare (.Call (.Name (Str.ofString "bisect_left") (posN ps 71)) [(.Name (Str.ofString "shelf") (posN ps 72)), (.Name (Str.ofString "text") (posN ps 73))] [] (posN ps 74)) [.NotEq] [(.Name (Str.ofString "least") (posN ps 75))] (posN ps 76)), (.Compare (.Call (.Name (Str.ofString "bisect_right") (posN ps 77)) [(.Name (Str.ofString "shelf") (posN ps 78)), (.Name (Str.ofString "text") (posN ps 79))] [] (posN ps 80)) [.NotEq] [(.Name (Str.ofString "most") (posN ps 81))] (posN ps 82))] (posN ps 83))] (posN ps 84)) [(.Return (some (.Constant (.bool false) (natN cs 2) (posN ps 85))) (posN ps 86))] [] (posN ps 87))] [] (posN ps 88)) :: lwBody 36 :=
   ⟨[_, _, _, _, _, _, _, _, _, _, _, _, _, _, _, _, _, _, _, _, _, _, _, _, _, _, _, _, _, _, _, _, _, _, _, _, _, _, _, _, _, _, _, _, _, _, _, _, _, _, _, _, _, _, _, _, _, _, _, _, _, _, _, _, _, _, _, _, _, _, _, _, _, _, _, _, _, _, _, _, _, _, _, _, _, _, _, _, _], [_, _, _], rfl⟩
theorem lw35 {x y : Str} {tx' ty' : Tok} {Q : Flow → Shared → Prop} (hr : Room 100 A) (hh : A.handled = none) (F : Lw w s₀ s L m cm) (hT : TabOk (MS L S0) s.heap)
    (hS : m (Str.ofString "second") = some (.ref S0)) (hK : m (Str.ofString "kept") = some (.bool kb)) (hH : cm (Str.ofString "shelf") = some (.ref SH)) (hR : cm (Str.ofString "ready") = some (.ref RD)) (hC : cm (Str.ofString "coded") = some (.ref CD))
    (h1 : m (Str.ofString "long_one") = some (.str x tx')) (h2 : m (Str.ofString "long_two") = some (.str y ty')) (hD : Dat w s.heap L (hs s) S0 SH RD CD vu vh xs krs kcs) (hvu : StrsAre vu us) (hus : us.Pairwise (ltF fP)) (hpu : us.Perm xs) (hkr : KVr RdyAt krs xs) (hvh : StrsAre vh xs) (hnd : xs.Nodup) (hlen : xs.length ≤ 1000)
    (hzx : x.cps.size ≤ 1000) (hzy : y.cps.size ≤ 1000) (hpx : (fP x).length ≤ 10000) (hpy : (fP y).length ≤ 10000) (hax : kb = true → Agrees xs x) (hay : kb = true → Agrees xs y)
    (h : ∀ s' m' cm', Upd (fun b => b = L ∨ b = L + 6 ∨ b = lawTab) s s' → Lw w s₀ s' L m' cm' → (∃ ps, s'.heap.get? lawTab = some (tabObj ps)) → (∀ n, n ≠ sText → n ≠ Str.ofString "letters" → n ≠ Str.ofString "least" → n ≠ Str.ofString "most" → m' n = m n) → wpAny (model pw w) A (execs (lwBody 36) (lwEnv L)) Q E s') :
    wpAny (model pw w) A (execs (lwBody 35) (lwEnv L)) Q E s := by
  obtain ⟨ps, cs, he⟩ := lw_drop35
  rw [he]
  refine for_stmt ?_
  refine list2 (env := lwEnv L) (lwL F h1 (lwL F h2 fun l s₁ hl U1 l1 => ?_))
  refine iter_list hh l1 fun I St s₂ hI1 hI2 hl2 U2 Fd st => ?_
  have V2 : Upd noW s s₂ := U1.trans U2
  have F2 := F.keep0 V2
  have hsI : hs s ≤ I := Nat.le_trans U1.size hI1
  have hI9 : L + 9 ≤ I := Nat.le_trans F.low hsI
  have hl9 : L + 9 ≤ l := Nat.le_trans F.low hl
  have T2 : TabOk (MI L S0 I) s₂.heap := by
    have t1 : TabOk (fun b => MS L S0 b ∨ b = I) s.heap := hT.remap fun b q => q.elim .inl fun q => .inr (q ▸ hsI)
    have t2 := t1.keep (h' := s₂.heap) (fun b o _ e => V2.get id e) fun q => q.elim (F.msTab hD.a1.1) fun q => F.ge_tab hI9 q.symm
    exact t2.cell (F2.cells (Str.ofString "codes") (L + 6) (by kernel_rfl))
  have D2 : Dat w s₂.heap L (hs s) S0 SH RD CD vu vh xs krs kcs := hD.keep V2 fun b q => q.elim
  have X2 : Lp w s₀ s₂ L (hs s) I S0 SH RD CD m cm kb vu vh xs krs kcs := ⟨F2, D2, T2, hsI, hI2, hS, hK, hH, hR, hC⟩
  have Ls : L < hs s := lt_of_ns F.ns
  refine ⟨[I, l], [I], 2, St, _, _, m, fun i m' s' => (∃ cm', Lp w s₀ s' L (hs s) I S0 SH RD CD m' cm' kb vu vh xs krs kcs) ∧ (∀ n, n ≠ sText → n ≠ Str.ofString "letters" → n ≠ Str.ofString "least" → n ≠ Str.ofString "most" → m' n = m n) ∧ Upd (fun b => b = L ∨ b = L + 6 ∨ b = lawTab) s s', Fd _ _, ⟨by kernel_rfl, by kernel_rfl⟩, ?_, st, F2.ns, ⟨⟨cm, X2⟩, fun _ _ _ _ _ => rfl, V2.up⟩, ?_, ?_⟩
  · intro hb
    rcases List.mem_cons.mp hb with e | hb
    · exact F.ge_ne hI9 e.symm
    · exact F.ge_ne hl9 (List.mem_singleton.mp hb).symm
  · rintro i m1 s₃ s₄ m2 E' hi ⟨⟨cm1, X3⟩, a3, V3⟩ U4 hns ⟨v, hvi, rfl⟩
    obtain ⟨q, t, rfl, hzq, hpq, haq⟩ : ∃ (q : Str) (t : Tok), v = .str q t ∧ q.cps.size ≤ 1000 ∧ (fP q).length ≤ 10000 ∧ (kb = true → Agrees xs q) := by
      match i, hi, hvi with
      | 0, _, hvi => cases hvi; exact ⟨x, tx', rfl, hzx, hpx, hax⟩
      | 1, _, hvi => cases hvi; exact ⟨y, ty', rfl, hzy, hpy, hay⟩
    have V4 : Upd (fun b => b = L ∨ b = L + 6 ∨ b = lawTab) s s₄ := Upd.then_fresh V3 (U4.mono fun b q => q.elim (fun q => .inr (by rw [List.mem_singleton.mp q]; exact hsI)) fun q => .inl (.inl q))
    have X4 : Lp w s₀ s₄ L (hs s) I S0 SH RD CD (setM m1 sText (.str q t)) cm1 kb vu vh xs krs kcs :=
      ⟨X3.F.both U4 (fun b q => q.elim (fun q => .inr (.inr (by rw [List.mem_singleton.mp q]; exact hI9))) .inl) hns,
        X3.D.keep U4 (fun b q => q.elim (fun q => .inr (by rw [List.mem_singleton.mp q]; exact hsI)) fun q => .inl (q ▸ Nat.lt_add_of_pos_right (by decide))),
        X3.T.keep (fun b o nb e => U4.get (fun q => nb (q.elim (fun q => .inl (.inr (List.mem_singleton.mp q))) fun q => .inl (.inl (.inl q)))) e) X3.tab,
        hsI, Nat.lt_of_lt_of_le X3.z U4.size, (if_neg (by decide)).trans X3.sec, (if_neg (by decide)).trans X3.kept, X3.shelf, X3.ready, X3.coded⟩
    have hq : (setM m1 sText (.str q t)) sText = some (.str q t) := if_pos rfl
    have hr' : Room 60 A := hr.le (by decide)
    refine lp0 hr' hh X4 hq hzq fun z k s₅ ez U5 X5 => ?_
    have hz5 : (setM (setM m1 sText (.str q t)) (Str.ofString "letters") (.str z k)) (Str.ofString "letters") = some (.str z k) := if_pos rfl
    have hzl : z.cps.size ≤ 10000 := by
      have := congrArg List.length ez
      simp only [Array.length_toList] at this
      omega
    refine lp1 hr' hh X5 hz5 hzl fun KD kv s₆ hKD U6 X6 lk6 ik => ?_
    rw [ez] at ik
    refine lp2 hr' X6 hz5 hvu hus hpu hkr hnd hlen fun t1 s₇ U7 X7 => ?_
    rw [ez] at X7
    have hz7 : ∀ v, (setM (setM (setM m1 sText (.str q t)) (Str.ofString "letters") (.str z k)) (Str.ofString "least") v) (Str.ofString "letters") = some (.str z k) := fun v => (if_neg (by decide)).trans hz5
    refine lp3 hr' X7 (hz7 _) hvu hus hpu hkr hnd hlen fun t2 s₈ U8 X8 => ?_
    rw [ez] at X8
    have s45 := U5.size
    have kL : ∀ b, hs s₅ ≤ b → ¬ (b = L ∨ b = lawTab) := fun b hb q => by
      have h0 : L < hs s₅ := Nat.lt_of_lt_of_le Ls (Nat.le_trans V4.size U5.size)
      rcases q with q | q
      · rw [q] at hb; exact absurd h0 (Nat.not_lt.mpr hb)
      · rw [q] at hb; exact absurd (Nat.lt_trans F.tab h0) (Nat.not_lt.mpr hb)
    have lk8 : s₈.heap.PlainList KD (List.toArray kv) := (lk6.at fun o e => U7.get (kL KD hKD) e).at fun o e => U8.get (kL KD hKD) e
    have hC8 : (setM cm1 (Str.ofString "codes") (.ref KD)) (Str.ofString "codes") = some (.ref KD) := if_pos rfl
    refine lp4 hr' hh X8 ((if_neg (by decide)).trans (if_pos rfl)) hC8 lk8 ik hvh hnd hlen fun s₉ U9 X9 => ?_
    refine lp5 hr' hh X9 (if_pos rfl) hC8 (lk8.at fun o e => U9.get id e) ik hvh hnd hlen fun s10 U10 X10 => ?_
    refine lp6 (x := q) hr' X10 ((if_neg (by decide)).trans ((if_neg (by decide)).trans ((if_neg (by decide)).trans hq))) ((if_neg (by decide)).trans (if_pos rfl)) (if_pos rfl) hvh hlen haq fun s11 U11 X11 => ?_
    have W : Upd (fun b => b = L ∨ b = L + 6 ∨ b = lawTab) s₄ s11 := ((((U5.mono fun b q => .inl q).trans (U6.mono fun b q => .inr (.inl q))).trans (U7.mono fun b q => q.elim .inl fun q => .inr (.inr q))).trans (U8.mono fun b q => q.elim .inl fun q => .inr (.inr q))).trans ((U9.trans U10).trans U11).up
    refine wpAny_execs_nil ⟨W.mono fun b q hb => ?_, _, X11.F.ns, ⟨_, X11⟩, ?_, V4.trans W⟩
    · have hb9 : L + 9 ≤ b := by
        rcases List.mem_cons.mp hb with e | hb
        · exact e ▸ hI9
        · exact (List.mem_singleton.mp hb) ▸ hl9
      rcases q with q | q | q
      · exact F.ge_ne hb9 q
      · rw [q] at hb9; exact absurd hb9 (Nat.not_le.mpr (Nat.add_lt_add_left (by decide) _))
      · exact F.ge_tab hb9 q
    · intro n n1 n2 n3 n4
      exact (if_neg n4).trans ((if_neg n3).trans ((if_neg n2).trans ((if_neg n1).trans (a3 n n1 n2 n3 n4))))
  · rintro m1 s₃ s₄ ⟨⟨cm1, X3⟩, a3, V3⟩ hns U4
    obtain ⟨ps, et, _⟩ := X3.T
    refine h s₄ m1 cm1 ?_ (X3.F.keep U4 fun b q => .inr (by rw [List.mem_singleton.mp q]; exact hI9)) ⟨ps, U4.get (fun q => F.ge_tab hI9 (List.mem_singleton.mp q).symm) et⟩ a3
    exact Upd.then_fresh V3 (U4.mono fun b q => .inr (by rw [List.mem_singleton.mp q]; exact hsI))
end
end
end Mine
namespace Mine
open PySem PySem.W PySem.Calls PyProof.Rows
noncomputable section
section
variable {w : World} {A : Around} {s s' s₀ : Shared} {L : Addr} {m cm : Str → Option Value} {E : Value → Shared → Prop} {kb : Bool}
theorem lw_drop36 : ∃ (ps : List Pos) (cs : List Nat), lwBody 36 = [(.Return (some (.BoolOp .Or [(.UnaryOp .Not (.Name (Str.ofString "kept") (posN ps 0)) (posN ps 1)), (.Compare (.Call (.Name (Str.ofString "_strcoll") (posN ps 2)) [(.Call (.Name (Str.ofString "_law_prepared") (posN ps 3)) [(.Name (Str.ofString "long_one") (posN ps 4))] [] (posN ps 5)), (.Call (.Name (Str.ofString "_law_prepared") (posN ps 6)) [(.Name (Str.ofString "long_two") (posN ps 7))] [] (posN ps 8))] [] (posN ps 9)) [.Eq] [(.Subscript (.Name (Str.ofString "ways") (posN ps 10)) (.Constant (.int 0) (natN cs 0) (posN ps 11)) (posN ps 12))] (posN ps 13))] (posN ps 14))) (posN ps 15))] :=
   ⟨[_, _, _, _, _, _, _, _, _, _, _, _, _, _, _, _], [_], rfl⟩
theorem lw36 {WY : Addr} {vw : List Value} {x y : Str} {tx' ty' : Tok} {Q : Flow → Shared → Prop} (hr : Room 100 A) (hh : A.handled = none) (F : Lw w s₀ s L m cm) (hK : m (Str.ofString "kept") = some (.bool kb)) (hW : m (Str.ofString "ways") = some (.ref WY)) (h1 : m (Str.ofString "long_one") = some (.str x tx')) (h2 : m (Str.ofString "long_two") = some (.str y ty'))
    (hl : s.heap.PlainList WY vw.toArray) (hi : IntsAre vw (waysOf x y)) (hx : x.cps.size ≤ 1000) (hy : y.cps.size ≤ 1000) (hk : kb = true → collOf (fP x) (fP y) = collOf (tx x) (tx y))
    (h : ∀ s', Upd noW s s' → Lw w s₀ s' L m cm → Q (.ret (.bool true)) s') :
    wpAny (model pw w) A (execs (lwBody 36) (lwEnv L)) Q E s := by
  obtain ⟨ps, cs, he⟩ := lw_drop36
  rw [he]
  refine execs_one (wpAny_Return_some (BoolOp_or ?_))
  refine wpAny_UnaryOp (lwL F hK (not_of (wpAny_truthy_bool (wpAny_truthy_bool ?_))))
  cases e : kb with
  | false => exact h s (.refl _ _) F
  | true =>
    have e2 := hk e
    simp only [Bool.not_true, Bool.false_eq_true, if_false]
    refine BoolOp_one (wpAny_Compare1 ?_)
    refine callG2 (env := lwEnv L) okColl F.base (fun P => by kernel_rfl) ?_
    refine callG1 (env := lwEnv L) okPrep F.base (fun P => by kernel_rfl) (lwL F h1 ⟨F.base, prep_call (hr.le (by decide)) hh F.base (by omega) fun z1 k1 s₁ U1 hz1 => ?_⟩)
    have F1 := F.keep0 U1
    refine callG1 (env := lwEnv L) okPrep F1.base (fun P => by kernel_rfl) (lwL F1 h2 ⟨F1.base, prep_call (hr.le (by decide)) hh F1.base (by omega) fun z2 k2 s₂ U2 hz2 => ?_⟩)
    have F2 := F1.keep0 U2
    refine ⟨F2.base, strcoll_call (hr.le (by decide)) F2.base fun k3 s₃ U3 => ?_⟩
    have F3 := F2.keep0 U3
    have V : Upd noW s s₃ := (U1.trans U2).trans U3
    have e3 : b2i (decide (z2.cps.toList < z1.cps.toList)) - b2i (decide (z1.cps.toList < z2.cps.toList)) = collOf (tx x) (tx y) := by
      show collOf (tx z1) (tx z2) = _
      rw [hz1, hz2]; exact e2
    rw [e3]
    refine wpAny_Subscript_Constant_late (lwL F3 hW (wpAny_Constant_int (k := 0) (pos := (posN ps 0)) ?_))
    obtain ⟨u, hu⟩ : ∃ u, vw[0]? = some (.int (collOf (tx x) (tx y)) u) := by
      cases hi with
      | cons n t r => exact ⟨t, rfl⟩
    refine ⟨"list", _, slot_list_getitem.lookup, (hl.at fun o e => V.get id e).isList.typeIs, wpAny_getItem_list (s := { s₃ with toks := s₃.toks + 1 }) (hl.at fun o e => V.get id e).isList (by decide) (by decide) (x := .int (collOf (tx x) (tx y)) u) (by simpa using hu) ?_⟩
    refine PyProof.Rows.eq_int ?_
    have : (collOf (tx x) (tx y) == collOf (tx x) (tx y)) = true := by simp
    rw [this]
    exact h _ (V.trans .toks) (F3.keep0 .toks)
end
end
end Mine
namespace Mine
open PySem PySem.W PySem.Calls PyProof.Rows
noncomputable section
/-- what the walk asks of a stock -/
structure Gq (qs : List Pr) : Prop where
  nd : (qs.map (·.1)).Nodup
  len : qs.length = 3 ∨ qs.length = 4
  b1 : ∀ q ∈ qs, inB1 q.1 = decide (q.2 = [])
  w : ∀ q ∈ qs, wd q.1 = q.2 ∧ q.2.length ≤ 3
  one : qs.Pairwise fun a b => ¬ (a.2 = [] ∧ b.2 = [])
  no3 : ∀ q ∈ qs, ∀ a b, q.2 ≠ [a, b, b]
theorem ko {s s' : Shared} {W : Addr → Prop} {L : Addr} (U : Upd W s s') (hW : ∀ b, W b → b < L + 9) {a : Addr} (ha : L + 9 ≤ a) (o : Obj) (e : s.heap.get? a = some o) : s'.heap.get? a = some o := U.get (fun q => absurd ha (Nat.not_le.mpr (hW a q))) e
theorem kt {s s' : Shared} {W : Addr → Prop} {L : Addr} (hL : lawTab < L) (U : Upd W s s') (hW : ∀ b, W b → L ≤ b) {o : Obj} (e : s.heap.get? lawTab = some o) : s'.heap.get? lawTab = some o := U.get (fun q => absurd hL (Nat.not_lt.mpr (hW _ q))) e
theorem l9 (L : Addr) : L < L + 9 := Nat.lt_add_of_pos_right (by decide)
theorem lk9 (L : Addr) {k : Nat} (h : k < 9) : L + k < L + 9 := Nat.add_lt_add_left h _
theorem lsys {w : World} {s₀ s : Shared} {L : Addr} {m cm : Str → Option Value} (F : Lw w s₀ s L m cm) {D : Addr} (h : L + 9 ≤ D) : (D == sysModules) = false := by
  have h1 := Nat.lt_of_lt_of_le F.tab (Nat.le_trans (Nat.le_add_right _ _) h)
  refine beq_eq_false_iff_ne.mpr fun e => ?_
  rw [e] at h1
  exact absurd h1 (by decide)
/-- after the stock -/
structure SA (w : World) (s₀ s : Shared) (L : Addr) (m cm : Str → Option Value) (qs : List Pr) (o : Nat) (DM DS : Addr) (kvs : KVs) (vs : List Value) (xs : List Str) (z : Str) : Prop where
  F : Lw w s₀ s L m cm
  tab : s.heap.get? lawTab = some (tabObj #[])
  o : ∃ t, cm (Str.ofString "other_cell") = some (.int (o : Int) t)
  meant : cm (Str.ofString "meant") = some (.ref DM)
  stock : cm (Str.ofString "stock") = some (.ref DS)
  last : ∃ u, cm (Str.ofString "last") = some (.str z u)
  aM : L + 9 ≤ DM
  aS : L + 9 ≤ DS
  dM : s.heap.DictOf (sk w) DM kvs
  kq : KVq kvs qs
  lS : s.heap.PlainList DS vs.toArray
  vS : StrsAre vs xs
/-- the stock in its order -/
structure Sx (qs : List Pr) (xs : List Str) (z : Str) : Prop where
  srt : xs.Pairwise ltT
  perm : xs.Perm (qs.map fun q => ch q.1)
  last : xs[xs.length - 1]? = some z
section
variable {w : World} {A : Around} {s s' s₀ : Shared} {L : Addr} {m cm : Str → Option Value} {E : Value → Shared → Prop}
theorem stA {a0 : Addr} {vs0 : List Value} {ns : List Int} {Q : Flow → Shared → Prop} (hr : Room 100 A) (hh : A.handled = none) (F : Lw w s₀ s L m cm) (tab : s.heap.get? lawTab = some (tabObj #[])) (hm : m (Str.ofString "script") = some (.ref a0)) (ha0 : a0 < L) (hl : s.heap.PlainList a0 vs0.toArray) (hi : IntsAre vs0 ns) (hz : vs0.length ≤ 100)
    (G : ∀ cell, cell < 10 ^ 9 → Gq (stockOf cell (3 + vs0.length % 2)))
    (h : ∀ qs o DM DS kvs vs xs z s' m' cm', Gq qs → Sx qs xs z → SA w s₀ s' L m' cm' qs o DM DS kvs vs xs z → wpAny (model pw w) A (execs (lwBody 7) (lwEnv L)) Q E s') :
    wpAny (model pw w) A (execs (lwBody 0) (lwEnv L)) Q E s := by
  have tL := F.tab
  refine lw0 hh F hm hl hi hz fun cell tc s₁ hcell U1 F1 => ?_
  have g := G cell hcell
  generalize hqs : stockOf cell (3 + vs0.length % 2) = qs at g
  have tab1 := kt tL U1 (fun b q => Nat.le_of_eq q.symm) tab
  have hl1 : s₁.heap.PlainList a0 vs0.toArray := hl.at fun o e => U1.get (Nat.ne_of_lt ha0) e
  have hm1 : (setM m (Str.ofString "cell") (.int (cell : Int) tc)) (Str.ofString "script") = some (.ref a0) := (if_neg (by decide)).trans hm
  have hc1 : (setM m (Str.ofString "cell") (.int (cell : Int) tc)) (Str.ofString "cell") = some (.int (cell : Int) tc) := if_pos rfl
  refine lw1 hh F1 hm1 hl1 hi hz fun o to s₂ ho U2 F2 => ?_
  have tab2 := kt tL U2 (fun b q => by rw [q]; exact Nat.le_add_right _ _) tab1
  have hl2 : s₂.heap.PlainList a0 vs0.toArray := hl1.at fun o e => U2.get (Nat.ne_of_lt (Nat.lt_of_lt_of_le ha0 (Nat.le_add_right _ _))) e
  have ql : qs.length ≤ 8 := by rcases g.len with e | e <;> omega
  refine lw2 (hr.le (by decide)) hh F2 hm1 hl2 hz hc1 hcell (by rw [hqs]; exact g.nd) (by rw [hqs]; omega) fun DM kvs s₃ aM U3 F3 dM3 kq => ?_
  rw [hqs] at kq
  have tab3 := kt tL U3 (fun b q => by rw [q]; exact Nat.le_add_right _ _) tab2
  refine lw3 F3 fun DS s₄ hDS U4 F4 lS4 => ?_
  have tab4 := kt tL U4 (fun b q => by rw [q]; exact Nat.le_add_right _ _) tab3
  have aS : L + 9 ≤ DS := Nat.le_trans F3.low hDS
  have dM4 : s₄.heap.DictOf (sk w) DM kvs := dM3.at (ko U4 (fun b q => by rw [q]; exact lk9 L (by decide)) aM)
  have hne : DS ≠ DM := Nat.ne_of_gt (Nat.lt_of_lt_of_le (lt_dict dM3) hDS)
  have hM4 : (setM (setM (setM cm (Str.ofString "other_cell") (.int (o : Int) to)) (Str.ofString "meant") (.ref DM)) (Str.ofString "stock") (.ref DS)) (Str.ofString "meant") = some (.ref DM) := (if_neg (by decide)).trans (if_pos rfl)
  have hS4 : (setM (setM (setM cm (Str.ofString "other_cell") (.int (o : Int) to)) (Str.ofString "meant") (.ref DM)) (Str.ofString "stock") (.ref DS)) (Str.ofString "stock") = some (.ref DS) := if_pos rfl
  refine lw4 (hr.le (by decide)) hh F4 hM4 hS4 dM4 (lsys F aM) kq g.nd (by omega) lS4 aS hne fun s₅ vs xs U5 F5 lS5 vS srt perm => ?_
  have tab5 : s₅.heap.get? lawTab = some (tabObj #[]) := U5.get (fun q => F.ge_tab aS q.symm) tab4
  have dM5 : s₅.heap.DictOf (sk w) DM kvs := dM4.at fun o e => U5.get (fun q => hne q.symm) e
  have xl : xs.length = qs.length := by rw [perm.length_eq, List.length_map]
  refine lw5 (hr.le (by decide)) hh F5 hM4 hS4 dM5 kq g.nd lS5 vS (fun x hx => ?_) (by omega) g.b1 fun s₆ U6 F6 => ?_
  · obtain ⟨q, hq, e⟩ := List.mem_map.mp (perm.mem_iff.mp hx)
    exact ⟨q, hq, e.symm⟩
  · have lS6 : s₆.heap.PlainList DS vs.toArray := lS5.at fun o e => U6.get id e
    refine lw6 F6 hS4 lS6 vS (by rcases g.len with e | e <;> omega) (by omega) fun s₇ z u hz U7 F7 => ?_
    refine h qs o DM DS kvs vs xs z s₇ _ _ g ⟨srt, perm, hz⟩ ⟨F7, kt tL U7 (fun b q => by rw [q]; exact Nat.le_add_right _ _) (U6.get id tab5), ⟨to, (if_neg (by decide)).trans ((if_neg (by decide)).trans ((if_neg (by decide)).trans (if_pos rfl)))⟩, (if_neg (by decide)).trans hM4, (if_neg (by decide)).trans hS4, ⟨u, if_pos rfl⟩, aM, aS, ?_, kq, ?_, vS⟩
    · exact (dM5.at fun o e => U6.get id e).at (ko U7 (fun b q => by rw [q]; exact lk9 L (by decide)) aM)
    · exact lS6.at (ko U7 (fun b q => by rw [q]; exact lk9 L (by decide)) aS)
end
end
end Mine
namespace Mine
open PySem PySem.W PySem.Calls PyProof.Rows
noncomputable section
/-- plain facts on the texts -/
structure Tx (ts : List Str) : Prop where
  nd : ts.Nodup
  len : ts.length = 16 ∨ ts.length = 25
  sz : ∀ x ∈ ts, x.cps.size ≤ 3
theorem pick_of {ts : List Str} {is js : List Nat} (e1 : idxS ts.length (some 1) none (some 2) = is) (e2 : idxS ts.length none none (some 2) = js) (hp : (is ++ js).Perm (List.range ts.length)) : (pickS ts (some 1) none (some 2) ++ pickS ts none none (some 2)).Perm ts := by
  unfold pickS
  rw [e1, e2, ← List.filterMap_append]
  have h1 := hp.filterMap (ts[·]?)
  have h2 : (List.range ts.length).filterMap (ts[·]?) = ts := by
    apply List.ext_getElem?
    intro i
    have : ∀ (l : List Str), (List.range l.length).filterMap (l[·]?) = l := fun l => by
      induction l with
      | nil => rfl
      | cons a r ih =>
        rw [List.length_cons, List.range_succ_eq_map, List.filterMap_cons_some (by rfl), List.filterMap_map]
        congr 1
    rw [this]
  rw [h2] at h1
  exact h1
theorem Tx.pick {ts : List Str} (T : Tx ts) : (pickS ts (some 1) none (some 2) ++ pickS ts none none (some 2)).Perm ts := by
  rcases T.len with e | e
  · refine pick_of (is := idxS 16 (some 1) none (some 2)) (js := idxS 16 none none (some 2)) (by rw [e]) (by rw [e]) ?_
    rw [e]; decide +kernel
  · refine pick_of (is := idxS 25 (some 1) none (some 2)) (js := idxS 25 none none (some 2)) (by rw [e]) (by rw [e]) ?_
    rw [e]; decide +kernel
theorem rev_of {ts : List Str} (e1 : idxS ts.length none none (some (-1)) = (List.range ts.length).reverse) : pickS ts none none (some (-1)) = ts.reverse := by
  unfold pickS
  rw [e1, List.filterMap_reverse]
  congr 1
  have : ∀ (l : List Str), (List.range l.length).filterMap (l[·]?) = l := fun l => by
    induction l with
    | nil => rfl
    | cons a r ih =>
      rw [List.length_cons, List.range_succ_eq_map, List.filterMap_cons_some (by rfl), List.filterMap_map]
      congr 1
  exact this ts
theorem Tx.rev {ts : List Str} (h : ts.length = 16 ∨ ts.length = 25) : pickS ts none none (some (-1)) = ts.reverse := by
  rcases h with e | e
  · exact rev_of (by rw [e]; decide +kernel)
  · exact rev_of (by rw [e]; decide +kernel)
/-- after the shelf -/
structure SB (w : World) (s₀ s : Shared) (L : Addr) (m cm : Str → Option Value) (qs : List Pr) (o : Nat) (DM DS : Addr) (kvs : KVs) (vs : List Value) (xs : List Str) (z : Str) (SH TY PL : Addr) (vh vy vp : List Value) (hs' : List Str) : Prop where
  A : SA w s₀ s L m cm qs o DM DS kvs vs xs z
  shelf : cm (Str.ofString "shelf") = some (.ref SH)
  typed : m (Str.ofString "typed") = some (.ref TY)
  places : m (Str.ofString "places") = some (.ref PL)
  aH : L + 9 ≤ SH
  aT : L + 9 ≤ TY
  aP : L + 9 ≤ PL
  lH : s.heap.PlainList SH vh.toArray
  vH : StrsAre vh hs'
  lT : s.heap.PlainList TY vy.toArray
  iT : IntsAre vy (nbs (fun a b => collOf (tx a) (tx b)) hs')
  lP : s.heap.PlainList PL vp.toArray
  iP : IntsAre vp (placesL hs'.length)
section
variable {w : World} {A : Around} {s s' s₀ : Shared} {L : Addr} {m cm : Str → Option Value} {E : Value → Shared → Prop}
theorem SA.put {qs : List Pr} {o : Nat} {DM DS : Addr} {kvs : KVs} {vs : List Value} {xs : List Str} {z : Str} (S : SA w s₀ s L m cm qs o DM DS kvs vs xs z) {m' cm' : Str → Option Value} {W : Addr → Prop} (U : Upd W s s') (F : Lw w s₀ s' L m' cm') (hW : ∀ b, W b → b ≠ lawTab ∧ b ≠ DM ∧ b ≠ DS) (hc : ∀ n, n = Str.ofString "other_cell" ∨ n = Str.ofString "meant" ∨ n = Str.ofString "stock" ∨ n = Str.ofString "last" → cm' n = cm n) : SA w s₀ s' L m' cm' qs o DM DS kvs vs xs z where
  F := F
  tab := U.get (fun q => (hW _ q).1 rfl) S.tab
  o := by obtain ⟨t, e⟩ := S.o; exact ⟨t, (hc _ (.inl rfl)).trans e⟩
  meant := (hc _ (.inr (.inl rfl))).trans S.meant
  stock := (hc _ (.inr (.inr (.inl rfl)))).trans S.stock
  last := by obtain ⟨t, e⟩ := S.last; exact ⟨t, (hc _ (.inr (.inr (.inr rfl)))).trans e⟩
  aM := S.aM
  aS := S.aS
  dM := S.dM.at fun o e => U.get (fun q => (hW _ q).2.1 rfl) e
  kq := S.kq
  lS := S.lS.at fun o e => U.get (fun q => (hW _ q).2.2 rfl) e
  vS := S.vS
theorem stB {qs : List Pr} {o : Nat} {DM DS : Addr} {kvs : KVs} {vs : List Value} {xs : List Str} {z : Str} {Q : Flow → Shared → Prop} (hr : Room 100 A) (hh : A.handled = none) (S : SA w s₀ s L m cm qs o DM DS kvs vs xs z) (hx : ∀ x ∈ xs, x.cps.size = 1) (hzx : z.cps.size = 1) (hxl : xs.length ≤ 4) (T : Tx (textsOf xs z))
    (h : ∀ SH TY PL vh vy vp hs' s' m' cm', hs'.Pairwise ltT → hs'.Perm (textsOf xs z) → SB w s₀ s' L m' cm' qs o DM DS kvs vs xs z SH TY PL vh vy vp hs' → wpAny (model pw w) A (execs (lwBody 15) (lwEnv L)) Q E s') :
    wpAny (model pw w) A (execs (lwBody 7) (lwEnv L)) Q E s := by
  have F := S.F
  have tL := F.tab
  have hl25 : (textsOf xs z).length ≤ 25 := by rcases T.len with e | e <;> omega
  obtain ⟨uz, hZ⟩ := S.last
  have x1 : ∀ x ∈ xs, x.cps.size ≤ 1000 := fun x q => by rw [hx x q]; decide
  have neL : ∀ {b a : Addr}, L + 9 ≤ a → b < L + 9 → b ≠ a := fun p q e => absurd p (by rw [← e]; exact Nat.not_le.mpr q)
  have stdW : ∀ (W : Addr → Prop), (∀ b, W b → L ≤ b ∧ b < L + 9) → ∀ b, W b → b ≠ lawTab ∧ b ≠ DM ∧ b ≠ DS := fun W q b z => ⟨fun e => absurd tL (Nat.not_lt.mpr (e ▸ (q b z).1)), neL S.aM (q b z).2, neL S.aS (q b z).2⟩
  refine lw7 hh F S.stock hZ S.lS S.vS (by omega) x1 (by omega) fun TX vt s₁ hTX U1 F1 lX1 vX => ?_
  have S1 := S.put U1 F1 (stdW _ fun b q => by rw [q]; exact ⟨Nat.le_refl _, l9 L⟩) fun n _ => rfl
  refine lw8 F1 fun SH s₂ hSH U2 F2 lH2 => ?_
  have S2 := S1.put U2 F2 (stdW _ fun b q => by rw [q]; exact ⟨Nat.le_add_right _ _, lk9 L (by decide)⟩) fun n q => by rcases q with q | q | q | q <;> (subst q; exact if_neg (by decide))
  have aX : L + 9 ≤ TX := Nat.le_trans F.low hTX
  have aH : L + 9 ≤ SH := Nat.le_trans F1.low hSH
  have lX2 : s₂.heap.PlainList TX vt.toArray := lX1.at (ko U2 (fun b q => by rw [q]; exact lk9 L (by decide)) aX)
  have nXH : TX ≠ SH := Nat.ne_of_lt (Nat.lt_of_lt_of_le (lt_list lX1) hSH)
  have hS2 : (setM cm (Str.ofString "shelf") (.ref SH)) (Str.ofString "shelf") = some (.ref SH) := if_pos rfl
  have hT2 : (setM m (Str.ofString "texts") (.ref TX)) (Str.ofString "texts") = some (.ref TX) := if_pos rfl
  have nHM : SH ≠ DM := Nat.ne_of_gt (Nat.lt_of_lt_of_le (lt_dict S1.dM) hSH)
  have nHS : SH ≠ DS := Nat.ne_of_gt (Nat.lt_of_lt_of_le (lt_list S1.lS) hSH)
  refine lw9 hr hh F2 hS2 hT2 lH2 aH lX2 vX nXH (by omega) T.nd T.pick fun GV s₃ vh hs' hGV U3 F3 lG3 lH3 vH srt perm => ?_
  have S3 := S2.put U3 F3 (fun b q => by
    rcases q with q | q
    · exact stdW (fun b => b = L) (fun b q => by rw [q]; exact ⟨Nat.le_refl _, l9 L⟩) b q
    · exact ⟨fun e => F.ge_tab aH (q.symm.trans e), fun e => nHM (q.symm.trans e), fun e => nHS (q.symm.trans e)⟩) fun n _ => rfl
  have hG3 : (setM (setM m (Str.ofString "texts") (.ref TX)) (Str.ofString "given") (.ref GV)) (Str.ofString "given") = some (.ref GV) := if_pos rfl
  have hT3 : (setM (setM m (Str.ofString "texts") (.ref TX)) (Str.ofString "given") (.ref GV)) (Str.ofString "texts") = some (.ref TX) := (if_neg (by decide)).trans hT2
  have lX3 : s₃.heap.PlainList TX vt.toArray := lX2.at fun o e => U3.get (fun q => q.elim (F.ge_ne aX) nXH) e
  have hl64 : hs'.length ≤ 25 := by rw [perm.length_eq]; exact hl25
  refine lw10 hr hh F3 hS2 hT3 hG3 lH3 vH lX3 vX lG3 (by omega) T.nd (fun x q => Nat.le_trans (T.sz x q) (by decide)) srt perm fun s₄ U4 F4 => ?_
  have S4 := S3.put U4 F4 (fun b q => q.elim) fun n _ => rfl
  have lH4 : s₄.heap.PlainList SH vh.toArray := lH3.at fun o e => U4.get id e
  refine lw11 hr hh F4 hS2 lH4 vH (by omega) fun TY vy s₅ hTY U5 F5 lT5 iT => ?_
  have S5 := S4.put U5 F5 (stdW _ fun b q => by rw [q]; exact ⟨Nat.le_refl _, l9 L⟩) fun n _ => rfl
  have aT : L + 9 ≤ TY := Nat.le_trans F4.low hTY
  have lH5 : s₅.heap.PlainList SH vh.toArray := lH4.at (ko U5 (fun b q => by rw [q]; exact l9 L) aH)
  have lenH := StrsAre.len vH
  refine lw12 hh F5 hS2 lH5 (by omega) fun PL vp s₆ hPL U6 F6 lP6 iP => ?_
  have S6 := S5.put U6 F6 (stdW _ fun b q => by rw [q]; exact ⟨Nat.le_refl _, l9 L⟩) fun n _ => rfl
  have aP : L + 9 ≤ PL := Nat.le_trans F5.low hPL
  have lH6 : s₆.heap.PlainList SH vh.toArray := lH5.at (ko U6 (fun b q => by rw [q]; exact l9 L) aH)
  have lT6 : s₆.heap.PlainList TY vy.toArray := lT5.at (ko U6 (fun b q => by rw [q]; exact l9 L) aT)
  rw [lenH] at iP
  have hT6 : ∀ (m : Str → Option Value), (setM (setM m (Str.ofString "typed") (.ref TY)) (Str.ofString "places") (.ref PL)) (Str.ofString "typed") = some (.ref TY) := fun m => (if_neg (by decide)).trans (if_pos rfl)
  have hP6 : ∀ (m : Str → Option Value), (setM m (Str.ofString "places") (.ref PL)) (Str.ofString "places") = some (.ref PL) := fun m => if_pos rfl
  refine lw13 hr hh F6 hS2 (hT6 _) (hP6 _) lH6 vH srt (by omega) lT6 iT lP6 iP fun s₇ U7 F7 => ?_
  have S7 := S6.put U7 F7 (fun b q => q.elim) fun n _ => rfl
  have lH7 : s₇.heap.PlainList SH vh.toArray := lH6.at fun o e => U7.get id e
  have lP7 : s₇.heap.PlainList PL vp.toArray := lP6.at fun o e => U7.get id e
  refine lw14 hr hh F7 hS2 (hP6 _) lH7 vH srt (by omega) lP7 iP fun s₈ U8 F8 => ?_
  have S8 := S7.put U8 F8 (fun b q => q.elim) fun n _ => rfl
  exact h SH TY PL vh vy vp hs' s₈ _ _ srt perm ⟨S8, hS2, hT6 _, hP6 _, aH, aT, aP, lH7.at fun o e => U8.get id e, vH, (lT6.at fun o e => U7.get id e).at fun o e => U8.get id e, iT, lP7.at fun o e => U8.get id e, iP⟩
end
end
end Mine
namespace Mine
open PySem PySem.W PySem.Calls PyProof.Rows
noncomputable section
/-- after the second shelf -/
structure SC (w : World) (s₀ s : Shared) (L : Addr) (m cm : Str → Option Value) (o : Nat) (DS : Addr) (vs : List Value) (xs : List Str) (z : Str) (SH TY PL : Addr) (vh vy vp : List Value) (hs' : List Str) (RD CD S0 : Addr) (krs kcs : KVs) (vu : List Value) (us : List Str) : Prop where
  F : Lw w s₀ s L m cm
  T : TabOk (MS L S0) s.heap
  o : ∃ t, cm (Str.ofString "other_cell") = some (.int (o : Int) t)
  stock : cm (Str.ofString "stock") = some (.ref DS)
  last : ∃ u, cm (Str.ofString "last") = some (.str z u)
  shelf : cm (Str.ofString "shelf") = some (.ref SH)
  ready : cm (Str.ofString "ready") = some (.ref RD)
  coded : cm (Str.ofString "coded") = some (.ref CD)
  typed : m (Str.ofString "typed") = some (.ref TY)
  places : m (Str.ofString "places") = some (.ref PL)
  second : m (Str.ofString "second") = some (.ref S0)
  aS : L + 9 ≤ DS
  aH : L + 9 ≤ SH
  aT : L + 9 ≤ TY
  aP : L + 9 ≤ PL
  aR : L + 9 ≤ RD
  aC : L + 9 ≤ CD
  a0 : L + 9 ≤ S0
  lS : s.heap.PlainList DS vs.toArray
  vS : StrsAre vs xs
  lH : s.heap.PlainList SH vh.toArray
  vH : StrsAre vh hs'
  lT : s.heap.PlainList TY vy.toArray
  iT : IntsAre vy (nbs (fun a b => collOf (tx a) (tx b)) hs')
  lP : s.heap.PlainList PL vp.toArray
  iP : IntsAre vp (placesL hs'.length)
  dR : s.heap.DictOf (sk w) RD krs
  kr : KVr RdyAt krs hs'
  dC : s.heap.DictOf (sk w) CD kcs
  kc : KVr (CodAt s.heap fun a => L + 9 ≤ a ∧ a ≠ S0) kcs hs'
  l0 : s.heap.PlainList S0 vu.toArray
  v0 : StrsAre vu us
theorem chars_of {qs : List Pr} {xs : List Str} {z : Str} (X : Sx qs xs z) {x : Str} (hx : x ∈ xs) : ∃ q ∈ qs, x = ch q.1 := by
  obtain ⟨q, hq, e⟩ := List.mem_map.mp (X.perm.mem_iff.mp hx)
  exact ⟨q, hq, e.symm⟩
theorem tx_app (a b : Str) : tx (a ++ b) = tx a ++ tx b := by
  show (a.cps ++ b.cps).toList = _
  simp
/-- every text is over the stock -/
theorem text_over {qs : List Pr} {xs : List Str} {z : Str} (X : Sx qs xs z) {x : Str} (hx : x ∈ textsOf xs z) : ∀ c ∈ tx x, ∃ q ∈ qs, q.1 = c := by
  have one : ∀ y ∈ xs, ∀ c ∈ tx y, ∃ q ∈ qs, q.1 = c := fun y hy c hc => by
    obtain ⟨q, hq, rfl⟩ := chars_of X hy
    have : tx (ch q.1) = [q.1] := rfl
    rw [this] at hc
    exact ⟨q, hq, (List.mem_singleton.mp hc).symm⟩
  have hz : z ∈ xs := List.mem_of_getElem? X.last
  unfold textsOf at hx
  rcases List.mem_append.mp hx with hx | hx
  · rcases List.mem_append.mp hx with hx | hx
    · rcases List.mem_append.mp hx with hx | hx
      · rw [List.mem_singleton.mp hx]
        have : tx (Str.ofString "") = [] := by kernel_rfl
        rw [this]
        intro c hc; cases hc
      · exact one x hx
    · unfold pairsOf2 at hx
      obtain ⟨a, ha, hx⟩ := List.mem_flatMap.mp hx
      obtain ⟨b, hb, rfl⟩ := List.mem_map.mp hx
      intro c hc
      rw [tx_app] at hc
      exact (List.mem_append.mp hc).elim (one a ha c) (one b hb c)
  · obtain ⟨a, ha, rfl⟩ := List.mem_map.mp hx
    intro c hc
    rw [tx_app, tx_app] at hc
    exact (List.mem_append.mp hc).elim (fun hc => (List.mem_append.mp hc).elim (one a ha c) (one z hz c)) (one z hz c)
theorem prep_len {qs : List Pr} (G : Gq qs) : ∀ l : List Nat, (∀ c ∈ l, ∃ q ∈ qs, q.1 = c) → (prep l).length ≤ 3 * l.length
  | [], _ => by simp [prep]
  | c :: r, h => by
    have ih := prep_len G r fun d hd => h d (List.mem_cons_of_mem _ hd)
    obtain ⟨q, hq, rfl⟩ := h c (List.mem_cons_self ..)
    have hw := G.w q hq
    rw [prep_flat] at ih ⊢
    rw [List.map_cons, List.flatten_cons, List.length_append, List.length_cons, hw.1]
    omega
section
variable {w : World} {A : Around} {s s' s₀ : Shared} {L : Addr} {m cm : Str → Option Value} {E : Value → Shared → Prop}
theorem stC {qs : List Pr} {o : Nat} {DM DS : Addr} {kvs : KVs} {vs : List Value} {xs : List Str} {z : Str} {SH TY PL : Addr} {vh vy vp : List Value} {hs' : List Str} {Q : Flow → Shared → Prop} (hr : Room 100 A) (hh : A.handled = none) (S : SB w s₀ s L m cm qs o DM DS kvs vs xs z SH TY PL vh vy vp hs') (G : Gq qs) (X : Sx qs xs z) (T : Tx (textsOf xs z)) (srt : hs'.Pairwise ltT) (perm : hs'.Perm (textsOf xs z))
    (h : ∀ RD CD S0 krs kcs vu us s' m' cm', us.Pairwise (ltF fP) → us.Perm hs' → SC w s₀ s' L m' cm' o DS vs xs z SH TY PL vh vy vp hs' RD CD S0 krs kcs vu us → wpAny (model pw w) A (execs (lwBody 21) (lwEnv L)) Q E s') :
    wpAny (model pw w) A (execs (lwBody 15) (lwEnv L)) Q E s := by
  have F := S.A.F
  have tL := F.tab
  have hnd := sorted_nodup srt
  have hl25 : hs'.length ≤ 25 := by rw [perm.length_eq]; rcases T.len with e | e <;> omega
  have hz3 : ∀ x ∈ hs', x.cps.size ≤ 3 := fun x hx => T.sz x (perm.mem_iff.mp hx)
  have hov : ∀ x ∈ hs', ∀ c ∈ tx x, ∃ q ∈ qs, q.1 = c := fun x hx => text_over X (perm.mem_iff.mp hx)
  have hpl : ∀ x ∈ hs', (prep (tx x)).length ≤ 10000 := fun x hx => by
    have h1 := prep_len G (tx x) (hov x hx)
    have h2 : (tx x).length ≤ 3 := by rw [Array.length_toList]; exact hz3 x hx
    omega
  have k8 : ∀ {j : Nat}, j < 9 → ∀ b, b = L + j → b < L + 9 := fun h b q => by rw [q]; exact lk9 L h
  refine lw15 hr hh F S.shelf S.lH S.vH hnd (by omega) (fun x hx => Nat.le_trans (hz3 x hx) (by decide)) fun RD krs s₁ hRD U1 F1 dR1 kr => ?_
  have S1 := S.A.put U1 F1 (fun b q => by rw [q]; exact ⟨fun e => absurd tL (Nat.not_lt.mpr (e ▸ Nat.le_add_right _ _)), fun e => absurd S.A.aM (by rw [← e]; exact Nat.not_le.mpr (lk9 L (by decide))), fun e => absurd S.A.aS (by rw [← e]; exact Nat.not_le.mpr (lk9 L (by decide)))⟩) fun n q => by rcases q with q | q | q | q <;> (subst q; exact if_neg (by decide))
  have aR : L + 9 ≤ RD := Nat.le_trans F.low hRD
  have c1H : (setM cm (Str.ofString "ready") (.ref RD)) (Str.ofString "shelf") = some (.ref SH) := (if_neg (by decide)).trans S.shelf
  have c1R : (setM cm (Str.ofString "ready") (.ref RD)) (Str.ofString "ready") = some (.ref RD) := if_pos rfl
  have lH1 := S.lH.at (ko U1 (k8 (by decide)) S.aH)
  refine lw16 hr hh F1 c1H S1.meant c1R lH1 S.vH hnd (by omega) (fun x hx => Nat.le_trans (hz3 x hx) (by decide)) S1.dM S1.kq G.nd hov (fun q hq => ⟨(G.w q hq).1, Nat.le_trans (G.w q hq).2 (by decide)⟩) dR1 kr fun s₂ U2 F2 => ?_
  have lH2 := lH1.at fun o e => U2.get id e
  have dR2 := dR1.at fun o e => U2.get id e
  refine lw17 hr hh F2 c1H c1R lH2 S.vH hnd (by omega) hpl dR2 kr fun CD kcs s₃ hCD U3 F3 dC3 kc3 => ?_
  have aC : L + 9 ≤ CD := Nat.le_trans F2.low hCD
  have lH3 := lH2.at (ko U3 (k8 (by decide)) S.aH)
  have dR3 := dR2.at (ko U3 (k8 (by decide)) aR)
  refine lw18 F3 fun S0 s₄ hS0 U4 F4 l04 => ?_
  have a0 : L + 9 ≤ S0 := Nat.le_trans F3.low hS0
  have kL : ∀ b, b = L → b < L + 9 := fun b q => q ▸ l9 L
  have lH4 := lH3.at (ko U4 kL S.aH)
  have dR4 := dR3.at (ko U4 kL aR)
  have dC4 := dC3.at (ko U4 kL aC)
  have kc4 : KVr (CodAt s₄.heap fun a => L + 9 ≤ a ∧ a ≠ S0) kcs hs' := (kc3.imp fun x v c => c.keep fun a p o e => ko U4 kL (Nat.le_trans F2.low p.1) o e).imp fun x v c => c.mono fun a p _ => ⟨Nat.le_trans F2.low p.1, Nat.ne_of_lt (Nat.lt_of_lt_of_le p.2 hS0)⟩
  have tab4 : s₄.heap.get? lawTab = some (tabObj #[]) := kt tL U4 (fun b q => Nat.le_of_eq q.symm) (kt tL U3 (fun b q => by rw [q]; exact Nat.le_add_right _ _) (U2.get id S1.tab))
  obtain ⟨to, ho⟩ := S1.o
  have ho4 : (setM (setM cm (Str.ofString "ready") (.ref RD)) (Str.ofString "coded") (.ref CD)) (Str.ofString "other_cell") = some (.int (o : Int) to) := (if_neg (by decide)).trans ho
  have c4H : (setM (setM cm (Str.ofString "ready") (.ref RD)) (Str.ofString "coded") (.ref CD)) (Str.ofString "shelf") = some (.ref SH) := (if_neg (by decide)).trans c1H
  have c4R : (setM (setM cm (Str.ofString "ready") (.ref RD)) (Str.ofString "coded") (.ref CD)) (Str.ofString "ready") = some (.ref RD) := (if_neg (by decide)).trans c1R
  have c4C : (setM (setM cm (Str.ofString "ready") (.ref RD)) (Str.ofString "coded") (.ref CD)) (Str.ofString "coded") = some (.ref CD) := if_pos rfl
  have m4S : (setM m (Str.ofString "second") (.ref S0)) (Str.ofString "second") = some (.ref S0) := if_pos rfl
  have ne0 : ∀ {a : Addr}, a < hs s₃ → a ≠ S0 := fun q => Nat.ne_of_lt (Nat.lt_of_lt_of_le q hS0)
  have nR : RD ≠ S0 := ne0 (lt_dict dR3)
  have nC : CD ≠ S0 := ne0 (lt_dict dC3)
  have nH : SH ≠ S0 := ne0 (lt_list lH3)
  refine lw19 hr hh F4 ho4 c4H m4S c4R a0 l04 aR nR dR4 kr (TabOk.start tab4) lH4 S.aH nH S.vH srt (by omega) (Tx.rev (by rw [perm.length_eq]; exact T.len)) fun s₅ m5 vu us U5 F5 am5 l05 v0 sU pU T5 => ?_
  have nW : ∀ {a : Addr}, L + 9 ≤ a → a ≠ S0 → ¬ (a = S0 ∨ a = L ∨ a = lawTab) := fun p n q => by
    rcases q with q | q | q
    · exact n q
    · exact F.ge_ne p q
    · exact F.ge_tab p q
  have lH5 := lH4.at fun o e => U5.get (nW S.aH nH) e
  have dC5 := dC4.at fun o e => U5.get (nW aC nC) e
  have kc5 : KVr (CodAt s₅.heap fun a => L + 9 ≤ a ∧ a ≠ S0) kcs hs' := kc4.imp fun x v c => c.keep fun a p o e => U5.get (nW p.1 p.2) e
  have m5S : m5 (Str.ofString "second") = some (.ref S0) := (am5 _ (by decide)).trans m4S
  refine lw20 hr hh F5 c4H m5S c4C a0 l05 v0 sU pU aC dC5 kc5 T5 lH5 S.aH S.vH srt (by omega) fun s₆ U6 F6 T6 => ?_
  have kT : ∀ b, b = lawTab → b < L + 9 := fun b q => q ▸ Nat.lt_trans tL (l9 L)
  have V : ∀ {a : Addr}, L + 9 ≤ a → a < hs s₃ → ∀ o, s₁.heap.get? a = some o → s₆.heap.get? a = some o := fun p n o e => ko U6 kT p o (U5.get (nW p (ne0 n)) (ko U4 kL p o (ko U3 (k8 (by decide)) p o (U2.get id e))))
  have s13 : hs s₁ ≤ hs s₃ := Nat.le_trans U2.size U3.size
  have V0 : ∀ {a : Addr}, L + 9 ≤ a → a < hs s → ∀ o, s.heap.get? a = some o → s₆.heap.get? a = some o := fun p n o e => V p (Nat.lt_of_lt_of_le n (Nat.le_trans U1.size s13)) o (ko U1 (k8 (by decide)) p o e)
  refine h RD CD S0 krs kcs vu us s₆ _ _ sU pU
    { F := F6, T := T6, o := ⟨to, ho4⟩, stock := (if_neg (by decide)).trans S1.stock, last := by obtain ⟨u, e⟩ := S1.last; exact ⟨u, (if_neg (by decide)).trans e⟩
      shelf := c4H, ready := c4R, coded := c4C
      typed := (am5 _ (by decide)).trans ((if_neg (by decide)).trans S.typed)
      places := (am5 _ (by decide)).trans ((if_neg (by decide)).trans S.places)
      second := m5S
      aS := S.A.aS, aH := S.aH, aT := S.aT, aP := S.aP, aR := aR, aC := aC, a0 := a0
      lS := S.A.lS.at (V0 S.A.aS (lt_list S.A.lS)), vS := S.A.vS
      lH := lH5.at (ko U6 kT S.aH), vH := S.vH
      lT := S.lT.at (V0 S.aT (lt_list S.lT)), iT := S.iT
      lP := S.lP.at (V0 S.aP (lt_list S.lP)), iP := S.iP
      dR := dR1.at (V aR (Nat.lt_of_lt_of_le (lt_dict dR1) s13)), kr := kr
      dC := dC5.at (ko U6 kT aC)
      kc := kc5.imp fun x v c => c.keep fun a p o e => ko U6 kT p.1 o e
      l0 := l05.at (ko U6 kT a0), v0 := v0 }
end
end
end Mine
namespace Mine
open PySem PySem.W PySem.Calls PyProof.Rows
noncomputable section
noncomputable def ansOf (xs : List Str) (z : Str) : List Int := nbs (fun a b => collOf (fP ((a ++ z) ++ z)) (fP b)) xs
noncomputable def kbOf (xs : List Str) (z : Str) : Bool := decide (ansOf xs z = List.replicate (ansOf xs z).length (-1))
/-- the plain facts on the order -/
structure Ord (xs : List Str) (z : Str) (hs' us : List Str) : Prop where
  k1 : decide (us = hs') = kbOf xs z
  k2 : decide (nbs (fun a b => collOf (fP a) (fP b)) hs' = nbs (fun a b => collOf (tx a) (tx b)) hs') = kbOf xs z
  k3 : ∀ rs, BisAll (pL fP hs') hs' rs → decide ((rs.map fun r : Nat => (r : Int)) = placesL hs'.length) = kbOf xs z
  k4 : ∀ rs, BisAll (pR fP hs') hs' rs → decide ((rs.map fun r : Nat => (r : Int)) = places1 hs'.length) = kbOf xs z
section
variable {w : World} {A : Around} {s s' s₀ : Shared} {L : Addr} {m cm : Str → Option Value} {E : Value → Shared → Prop}
theorem SC.put {o : Nat} {DS : Addr} {vs : List Value} {xs : List Str} {z : Str} {SH TY PL : Addr} {vh vy vp : List Value} {hs' : List Str} {RD CD S0 : Addr} {krs kcs : KVs} {vu : List Value} {us : List Str} (S : SC w s₀ s L m cm o DS vs xs z SH TY PL vh vy vp hs' RD CD S0 krs kcs vu us)
    {m' : Str → Option Value} {W : Addr → Prop} (U : Upd W s s') (F : Lw w s₀ s' L m' cm) (T : TabOk (MS L S0) s'.heap) (hW : ∀ b, W b → b < L + 9) (hm : ∀ n, n = Str.ofString "typed" ∨ n = Str.ofString "places" ∨ n = Str.ofString "second" → m' n = m n) :
    SC w s₀ s' L m' cm o DS vs xs z SH TY PL vh vy vp hs' RD CD S0 krs kcs vu us :=
  { F := F, T := T, o := S.o, stock := S.stock, last := S.last, shelf := S.shelf, ready := S.ready, coded := S.coded
    typed := (hm _ (.inl rfl)).trans S.typed, places := (hm _ (.inr (.inl rfl))).trans S.places, second := (hm _ (.inr (.inr rfl))).trans S.second
    aS := S.aS, aH := S.aH, aT := S.aT, aP := S.aP, aR := S.aR, aC := S.aC, a0 := S.a0
    lS := S.lS.at (ko U hW S.aS), vS := S.vS, lH := S.lH.at (ko U hW S.aH), vH := S.vH, lT := S.lT.at (ko U hW S.aT), iT := S.iT, lP := S.lP.at (ko U hW S.aP), iP := S.iP
    dR := S.dR.at (ko U hW S.aR), kr := S.kr, dC := S.dC.at (ko U hW S.aC), kc := S.kc.imp fun x v c => c.keep fun a p o e => ko U hW p.1 o e, l0 := S.l0.at (ko U hW S.a0), v0 := S.v0 }
/-- a step that writes no code -/
theorem SC.tk {o : Nat} {DS : Addr} {vs : List Value} {xs : List Str} {z : Str} {SH TY PL : Addr} {vh vy vp : List Value} {hs' : List Str} {RD CD S0 : Addr} {krs kcs : KVs} {vu : List Value} {us : List Str} (S : SC w s₀ s L m cm o DS vs xs z SH TY PL vh vy vp hs' RD CD S0 krs kcs vu us)
    (U : Upd (fun b => b = L) s s') : TabOk (MS L S0) s'.heap := S.T.keep (fun b o nb e => U.get (fun q => nb (.inl q)) e) (S.F.msTab S.a0)
theorem stD {o : Nat} {DS : Addr} {vs : List Value} {xs : List Str} {z : Str} {SH TY PL : Addr} {vh vy vp : List Value} {hs' : List Str} {RD CD S0 : Addr} {krs kcs : KVs} {vu : List Value} {us : List Str} {Q : Flow → Shared → Prop} (hr : Room 100 A) (hh : A.handled = none) (S : SC w s₀ s L m cm o DS vs xs z SH TY PL vh vy vp hs' RD CD S0 krs kcs vu us)
    (hx : ∀ x ∈ xs, x.cps.size = 1) (hzx : z.cps.size = 1) (hxl : xs.length ≤ 4) (perm : hs'.Perm (textsOf xs z)) (hnd : hs'.Nodup) (hlen : hs'.length ≤ 25) (K : Ord xs z hs' us)
    (h : ∀ s' m', SC w s₀ s' L m' cm o DS vs xs z SH TY PL vh vy vp hs' RD CD S0 krs kcs vu us → m' (Str.ofString "kept") = some (.bool (kbOf xs z)) → wpAny (model pw w) A (execs (lwBody 28) (lwEnv L)) Q E s') :
    wpAny (model pw w) A (execs (lwBody 21) (lwEnv L)) Q E s := by
  have F := S.F
  have tL := F.tab
  obtain ⟨uz, hZ⟩ := S.last
  have kL : ∀ b, b = L → b < L + 9 := fun b q => q ▸ l9 L
  have kLT : ∀ b, b = L ∨ b = lawTab → b < L + 9 := fun b q => q.elim (kL b) fun q => q ▸ Nat.lt_trans tL (l9 L)
  have m1 : ∀ a ∈ xs, a ∈ hs' := fun a ha => perm.mem_iff.mpr (by
    unfold textsOf
    exact List.mem_append_left _ (List.mem_append_left _ (List.mem_append_right _ ha)))
  have m2 : ∀ a ∈ xs, (a ++ z) ++ z ∈ hs' := fun a ha => perm.mem_iff.mpr (by
    unfold textsOf
    exact List.mem_append_right _ (List.mem_map.mpr ⟨a, ha, rfl⟩))
  have x1 : ∀ x ∈ xs, x.cps.size ≤ 1000 := fun x q => by rw [hx x q]; decide
  refine lw21 hr hh F S.stock hZ S.ready S.lS S.vS (by omega) x1 (by omega) S.dR S.kr hnd m1 m2 fun AN va s₁ hAN U1 F1 lA1 iA => ?_
  have S1 := S.put U1 F1 (S.tk U1) kL fun n q => by rcases q with q | q | q <;> (subst q; exact if_neg (by decide))
  refine lw22 hr F1 (if_pos rfl) lA1 iA (by unfold nbs; rw [List.length_map, List.length_range]; omega) fun s₂ U2 F2 => ?_
  have S2 := S1.put U2 F2 (S1.tk U2) kL fun n q => by rcases q with q | q | q <;> (subst q; exact if_neg (by decide))
  have hk2 : ∀ m : Str → Option Value, (setM m (Str.ofString "kept") (.bool (kbOf xs z))) (Str.ofString "kept") = some (.bool (kbOf xs z)) := fun m => if_pos rfl
  have e2 : decide (nbs (fun a b => collOf (fP ((a ++ z) ++ z)) (fP b)) xs = List.replicate (nbs (fun a b => collOf (fP ((a ++ z) ++ z)) (fP b)) xs).length (-1)) = kbOf xs z := rfl
  rw [e2] at F2 S2
  generalize hm2 : setM (setM m (Str.ofString "answers") (.ref AN)) (Str.ofString "kept") (.bool (kbOf xs z)) = m2' at F2 S2
  have k2' : m2' (Str.ofString "kept") = some (.bool (kbOf xs z)) := by rw [← hm2]; exact hk2 _
  refine lw23 hr hh F2 S2.shelf S2.ready S2.lH S2.vH (by omega) S2.dR S2.kr hnd fun PR vr s₃ hPR U3 F3 lR3 iR => ?_
  have S3 := S2.put U3 F3 (S2.tk U3) kL fun n q => by rcases q with q | q | q <;> (subst q; exact if_neg (by decide))
  have k3' : (setM m2' (Str.ofString "prepared") (.ref PR)) (Str.ofString "kept") = some (.bool (kbOf xs z)) := (if_neg (by decide)).trans k2'
  refine lw24 hr F3 S3.second S3.shelf k3' (if_pos rfl) S3.typed S3.l0 S3.v0 S3.lH S3.vH lR3 iR S3.lT S3.iT K.k1 K.k2 ?_
  refine lw25 hr hh F3 S3.shelf S3.ready S3.a0 S3.l0 S3.aR S3.dR S3.kr S3.T S3.lH S3.aH S3.vH hnd (by omega) fun FO vf rs s₄ hFO U4 F4 lF4 iF bF T4 => ?_
  have S4 := S3.put U4 F4 T4 kLT fun n q => by rcases q with q | q | q <;> (subst q; exact if_neg (by decide))
  have aF : L + 9 ≤ FO := Nat.le_trans F3.low hFO
  refine lw26 hr hh F4 S4.shelf S4.ready S4.a0 S4.l0 S4.aR S4.dR S4.kr S4.T S4.lH S4.aH S4.vH hnd (by omega) fun PS vq rs2 s₅ hPS U5 F5 lP5 iQ bQ T5 => ?_
  have S5 := S4.put U5 F5 T5 kLT fun n q => by rcases q with q | q | q <;> (subst q; exact if_neg (by decide))
  have lF5 := lF4.at (ko U5 kLT aF)
  refine lw27 (n := hs'.length) hr hh F5 ((if_neg (by decide)).trans (if_pos rfl)) ((if_neg (by decide)).trans ((if_neg (by decide)).trans k3')) S5.places (if_pos rfl) lF5 iF S5.lP S5.iP lP5 iQ (by omega) (K.k3 rs bF) (K.k4 rs2 bQ) fun s₆ U6 F6 => ?_
  have S6 := S5.put U6 F6 (S5.T.keep (fun b o _ e => U6.get id e) (F.msTab S.a0)) (fun b q => q.elim) fun n _ => rfl
  exact h s₆ _ S6 ((if_neg (by decide)).trans ((if_neg (by decide)).trans k3'))
end
end
end Mine
namespace Mine
open PySem PySem.W PySem.Calls PyProof.Rows
noncomputable section
theorem wayOf_coll : ∀ {l r : List Nat}, l.length = r.length → wayOf l r = collOf l r
  | [], [], _ => by simp [wayOf, collOf]
  | a :: l, b :: r, h => by
    have ih := wayOf_coll (l := l) (r := r) (by simpa using h)
    unfold wayOf
    by_cases e : a = b
    · subst e
      rw [if_pos rfl, ih]
      unfold collOf
      have h1 : ((a :: r) < (a :: l)) ↔ r < l := by rw [List.cons_lt_cons_iff]; simp
      have h2 : ((a :: l) < (a :: r)) ↔ l < r := by rw [List.cons_lt_cons_iff]; simp
      simp only [h1, h2]
    · rw [if_neg e]
      by_cases q : a < b
      · rw [if_pos q, collOf_lt]
        rw [List.cons_lt_cons_iff]; exact .inl q
      · rw [if_neg q]
        have q' : b < a := by omega
        unfold collOf
        have h1 : (b :: r) < (a :: l) := by rw [List.cons_lt_cons_iff]; exact .inl q'
        have h2 : ¬ (a :: l) < (b :: r) := fun z => List.lt_irrefl _ (List.lt_trans z h1)
        rw [decide_eq_true h1, decide_eq_false h2]
        rfl
  | [], _ :: _, h => by simp at h
  | _ :: _, [], h => by simp at h
theorem wordOf_len {xs : List Str} (hx : ∀ x ∈ xs, x.cps.size = 1) : ∀ {ks : List Nat}, (∀ k ∈ ks, k < xs.length) → (wordOf xs ks).length = ks.length
  | [], _ => rfl
  | k :: r, h => by
    have ih := wordOf_len hx (ks := r) fun j hj => h j (List.mem_cons_of_mem _ hj)
    have hk := h k (List.mem_cons_self ..)
    unfold wordOf at ih ⊢
    rw [List.map_cons, List.flatten_cons, List.length_append, ih, List.length_cons]
    have : (tx (xs.getD k e0)).length = 1 := by
      rw [Array.length_toList, List.getD_eq_getElem?_getD, List.getElem?_eq_getElem hk]
      exact hx _ (List.getElem_mem hk)
    omega
theorem wordOf_over {qs : List Pr} {xs : List Str} {z : Str} (X : Sx qs xs z) {ks : List Nat} (h : ∀ k ∈ ks, k < xs.length) : ∀ c ∈ wordOf xs ks, ∃ q ∈ qs, q.1 = c := by
  intro c hc
  unfold wordOf at hc
  obtain ⟨l, hl, hc⟩ := List.mem_flatten.mp hc
  obtain ⟨k, hk, rfl⟩ := List.mem_map.mp hl
  have hk' := h k hk
  rw [List.getD_eq_getElem?_getD, List.getElem?_eq_getElem hk'] at hc
  obtain ⟨q, hq, e⟩ := chars_of X (List.getElem_mem hk')
  rw [Option.getD_some, e] at hc
  have : tx (ch q.1) = [q.1] := rfl
  rw [this] at hc
  exact ⟨q, hq, (List.mem_singleton.mp hc).symm⟩
section
variable {w : World} {A : Around} {s s' s₀ : Shared} {L : Addr} {m cm : Str → Option Value} {E : Value → Shared → Prop}
/-- the plain facts on the long words -/
structure Lng (qs : List Pr) (kb : Bool) (hs' : List Str) : Prop where
  ag : kb = true → ∀ x : Str, (∀ c ∈ tx x, ∃ q ∈ qs, q.1 = c) → Agrees hs' x
  co : kb = true → ∀ x y : Str, (∀ c ∈ tx x, ∃ q ∈ qs, q.1 = c) → (∀ c ∈ tx y, ∃ q ∈ qs, q.1 = c) → collOf (fP x) (fP y) = collOf (tx x) (tx y)
theorem stE {qs : List Pr} {o : Nat} {DS : Addr} {vs : List Value} {xs : List Str} {z : Str} {SH TY PL : Addr} {vh vy vp : List Value} {hs' : List Str} {RD CD S0 : Addr} {krs kcs : KVs} {vu : List Value} {us : List Str} {kb : Bool} {Q : Flow → Shared → Prop} (hr : Room 100 A) (hh : A.handled = none) (S : SC w s₀ s L m cm o DS vs xs z SH TY PL vh vy vp hs' RD CD S0 krs kcs vu us)
    (hk : m (Str.ofString "kept") = some (.bool kb)) (G : Gq qs) (X : Sx qs xs z) (hx : ∀ x ∈ xs, x.cps.size = 1) (hx0 : 0 < xs.length) (hxl : xs.length ≤ 4) (hnd : hs'.Nodup) (hlen : hs'.length ≤ 25) (sU : us.Pairwise (ltF fP)) (pU : us.Perm hs') (N : Lng qs kb hs')
    (h : ∀ s' m' cm', Lw w s₀ s' L m' cm' → (∃ ps, s'.heap.get? lawTab = some (tabObj ps)) → Q (.ret (.bool true)) s') :
    wpAny (model pw w) A (execs (lwBody 28) (lwEnv L)) Q E s := by
  have F := S.F
  have tL := F.tab
  have len := StrsAre.len S.vS
  obtain ⟨to, ho⟩ := S.o
  have kL : ∀ b, b = L → b < L + 9 := fun b q => q ▸ l9 L
  have hst : ∀ k ∈ stepsOf o vs.length, k < xs.length := fun k hk => by
    unfold stepsOf at hk
    obtain ⟨i, _, rfl⟩ := List.mem_map.mp hk
    rw [len]; exact Nat.mod_lt _ hx0
  have hsl : (stepsOf o vs.length).length = 8 := by simp [stepsOf]
  have x100 : ∀ x ∈ xs, x.cps.size ≤ 100 := fun x q => by rw [hx x q]; decide
  have tT : ∀ {s s' : Shared} {m : Str → Option Value}, TabOk (MS L S0) s.heap → Upd (fun b => b = L) s s' → TabOk (MS L S0) s'.heap := fun T U => T.keep (fun b o nb e => U.get (fun q => nb (.inl q)) e) (F.msTab S.a0)
  refine lw28 hh F ho S.stock S.lS (by omega) (by omega) fun ST vt s₁ hST U1 F1 lt1 it => ?_
  generalize stepsOf o vs.length = st at hst hsl it
  have S1 := S.put U1 F1 (S.tk U1) kL fun n q => by rcases q with q | q | q <;> (subst q; exact if_neg (by decide))
  have aT : L + 9 ≤ ST := Nat.le_trans F.low hST
  have k1 : (setM m (Str.ofString "steps") (.ref ST)) (Str.ofString "kept") = some (.bool kb) := (if_neg (by decide)).trans hk
  have t1 : (setM m (Str.ofString "steps") (.ref ST)) (Str.ofString "steps") = some (.ref ST) := if_pos rfl
  generalize setM m (Str.ofString "steps") (.ref ST) = m1 at F1 S1 k1 t1
  refine lw29 hh F1 S1.stock t1 S1.lS S1.vS x100 (by omega) lt1 it hst (by omega) fun x kx s₂ ex U2 F2 => ?_
  have S2 := S1.put U2 F2 (S1.tk U2) kL fun n q => by rcases q with q | q | q <;> (subst q; exact if_neg (by decide))
  have lt2 := lt1.at (ko U2 kL aT)
  have k2 : (setM m1 (Str.ofString "long_one") (.str x kx)) (Str.ofString "kept") = some (.bool kb) := (if_neg (by decide)).trans k1
  have t2 : (setM m1 (Str.ofString "long_one") (.str x kx)) (Str.ofString "steps") = some (.ref ST) := (if_neg (by decide)).trans t1
  have o2 : (setM m1 (Str.ofString "long_one") (.str x kx)) (Str.ofString "long_one") = some (.str x kx) := if_pos rfl
  generalize setM m1 (Str.ofString "long_one") (.str x kx) = m2 at F2 S2 k2 t2 o2
  refine lw30 hh F2 S2.stock t2 S2.lS S2.vS x100 (by omega) lt2 it hst (by omega) fun y ky s₃ ey U3 F3 => ?_
  have S3 := S2.put U3 F3 (S2.tk U3) kL fun n q => by rcases q with q | q | q <;> (subst q; exact if_neg (by decide))
  have k3 : (setM m2 (Str.ofString "long_two") (.str y ky)) (Str.ofString "kept") = some (.bool kb) := (if_neg (by decide)).trans k2
  have o3 : (setM m2 (Str.ofString "long_two") (.str y ky)) (Str.ofString "long_one") = some (.str x kx) := (if_neg (by decide)).trans o2
  have w3 : (setM m2 (Str.ofString "long_two") (.str y ky)) (Str.ofString "long_two") = some (.str y ky) := if_pos rfl
  generalize setM m2 (Str.ofString "long_two") (.str y ky) = m3 at F3 S3 k3 o3 w3
  have hk1 : ∀ k ∈ st.take 5, k < xs.length := fun k q => hst k (List.mem_of_mem_take q)
  have hk2 : ∀ k ∈ st.take 2 ++ st.drop 5, k < xs.length := fun k q => hst k ((List.mem_append.mp q).elim List.mem_of_mem_take List.mem_of_mem_drop)
  have lx : (tx x).length = 5 := by rw [ex, wordOf_len hx hk1, List.length_take, hsl]; rfl
  have ly : (tx y).length = 5 := by rw [ey, wordOf_len hx hk2, List.length_append, List.length_take, List.length_drop, hsl]; rfl
  have ox : ∀ c ∈ tx x, ∃ q ∈ qs, q.1 = c := by rw [ex]; exact wordOf_over X hk1
  have oy : ∀ c ∈ tx y, ∃ q ∈ qs, q.1 = c := by rw [ey]; exact wordOf_over X hk2
  have zx : x.cps.size ≤ 1000 := by rw [Array.length_toList] at lx; omega
  have zy : y.cps.size ≤ 1000 := by rw [Array.length_toList] at ly; omega
  refine lw31 hr F3 o3 w3 zx zy fun s₄ U4 F4 => ?_
  have S4 := S3.put U4 F4 (S3.T.keep (fun b o _ e => U4.get id e) (F.msTab S.a0)) (fun b q => q.elim) fun n _ => rfl
  refine lw32 hr F4 o3 w3 fun WY vw s₅ hWY U5 F5 lW5 iW => ?_
  have S5 := S4.put U5 F5 (S4.tk U5) kL fun n q => by rcases q with q | q | q <;> (subst q; exact if_neg (by decide))
  have aW : L + 9 ≤ WY := Nat.le_trans F4.low hWY
  have k5 : (setM m3 (Str.ofString "ways") (.ref WY)) (Str.ofString "kept") = some (.bool kb) := (if_neg (by decide)).trans k3
  have o5 : (setM m3 (Str.ofString "ways") (.ref WY)) (Str.ofString "long_one") = some (.str x kx) := (if_neg (by decide)).trans o3
  have w5 : (setM m3 (Str.ofString "ways") (.ref WY)) (Str.ofString "long_two") = some (.str y ky) := (if_neg (by decide)).trans w3
  have y5 : (setM m3 (Str.ofString "ways") (.ref WY)) (Str.ofString "ways") = some (.ref WY) := if_pos rfl
  generalize setM m3 (Str.ofString "ways") (.ref WY) = m5 at F5 S5 k5 o5 w5 y5
  refine lw33 hr hh F5 y5 lW5 iW (by simp [waysOf]) fun s₆ U6 F6 => ?_
  have S6 := S5.put U6 F6 (S5.T.keep (fun b o _ e => U6.get id e) (F.msTab S.a0)) (fun b q => q.elim) fun n _ => rfl
  have lW6 := lW5.at fun o e => U6.get id e
  refine lw34 hr hh F6 y5 lW6 iW o5 w5 zx zy (wayOf_coll (lx.trans ly.symm)) (wayOf_coll (ly.trans lx.symm)) fun s₇ U7 F7 => ?_
  have S7 := S6.put U7 F7 (S6.T.keep (fun b o _ e => U7.get id e) (F.msTab S.a0)) (fun b q => q.elim) fun n _ => rfl
  have lW7 := lW6.at fun o e => U7.get id e
  have D7 : Dat w s₇.heap L (hs s₇) S0 SH RD CD vu vh hs' krs kcs :=
    ⟨⟨S.a0, lt_list S7.l0⟩, ⟨S.aH, lt_list S7.lH⟩, ⟨S.aR, lt_dict S7.dR⟩, ⟨S.aC, lt_dict S7.dC⟩, S7.l0, S7.lH, S7.dR, S7.dC, S7.kc.imp fun x v c => c.mono fun a p q => ⟨p.1, q⟩⟩
  have px := prep_len G (tx x) ox
  have py := prep_len G (tx y) oy
  refine lw35 (kb := kb) hr hh F7 S7.T S7.second k5 S7.shelf S7.ready S7.coded o5 w5 D7 S.v0 sU pU S.kr S.vH hnd (by omega) zx zy (by show (prep (tx x)).length ≤ 10000; omega) (by show (prep (tx y)).length ≤ 10000; omega) (fun e => N.ag e x ox) (fun e => N.ag e y oy) fun s₈ m8 cm8 U8 F8 tb am => ?_
  have lW8 : s₈.heap.PlainList WY vw.toArray := lW7.at (ko U8 (fun b q => by
    rcases q with q | q | q
    · exact kL b q
    · rw [q]; exact lk9 L (by decide)
    · rw [q]; exact Nat.lt_trans tL (l9 L)) aW)
  refine lw36 (kb := kb) hr hh F8 ((am _ (by decide) (by decide) (by decide) (by decide)).trans k5) ((am _ (by decide) (by decide) (by decide) (by decide)).trans y5) ((am _ (by decide) (by decide) (by decide) (by decide)).trans o5) ((am _ (by decide) (by decide) (by decide) (by decide)).trans w5) lW8 iW zx zy (fun e => N.co e x y ox oy) fun s₉ U9 F9 => ?_
  obtain ⟨ps, et⟩ := tb
  exact h s₉ _ _ F9 ⟨ps, U9.get id et⟩
end
end
end Mine
namespace Mine
/-! plain: words and their images -/
theorem lx_left (c : List Nat) {a b : List Nat} (h : a < b) : c ++ a < c ++ b := by
  induction c with
  | nil => exact h
  | cons x r ih =>
    rw [List.cons_append, List.cons_append, List.cons_lt_cons_iff]
    exact .inr ⟨rfl, ih⟩
theorem lx_pre (a b : List Nat) : a = a ++ b ∨ a < a ++ b := by
  cases b with
  | nil => exact .inl (by simp)
  | cons x r =>
    refine .inr ?_
    have h : ([] : List Nat) < x :: r := List.nil_lt_cons _ _
    have := lx_left a h
    rwa [List.append_nil] at this
theorem lx_right {a b : List Nat} (h : a < b) (x : List Nat) : a < b ++ x := by
  rcases lx_pre b x with e | e
  · rw [← e]; exact h
  · exact List.lt_trans h e
theorem lx_far {a b : List Nat} (h : a < b) (hl : b.length ≤ a.length) (x : List Nat) : a ++ x < b := by
  induction a generalizing b with
  | nil =>
    cases b with
    | nil => exact absurd h (List.not_lt_nil _)
    | cons y r => simp at hl
  | cons y r ih =>
    cases b with
    | nil => exact absurd h (List.not_lt_nil _)
    | cons y' r' =>
      rw [List.cons_lt_cons_iff] at h
      rw [List.cons_append, List.cons_lt_cons_iff]
      rcases h with h | ⟨e, h⟩
      · exact .inl h
      · exact .inr ⟨e, ih h (by simpa using hl)⟩
noncomputable def F0 (ws : Nat → List Nat) (l : List Nat) : List Nat := (l.map ws).flatten
theorem F0_cons (ws : Nat → List Nat) (c : Nat) (l : List Nat) : F0 ws (c :: l) = ws c ++ F0 ws l := rfl
noncomputable def Zk (Z : List Nat) : Nat → List Nat
  | 0 => []
  | k + 1 => Z ++ Zk Z k
section
variable {ws : Nat → List Nat} {cs : List Nat} {ζ : Nat}
/-- the test of neighbours gives the test of any two -/
theorem far_of (sorted : cs.Pairwise (· < ·)) (kept : ∀ (i a b : Nat), cs[i]? = some a → cs[i + 1]? = some b → ws a ++ (ws ζ ++ ws ζ) < ws b) : ∀ (d i a b : Nat), cs[i]? = some a → cs[i + 1 + d]? = some b → ws a ++ (ws ζ ++ ws ζ) < ws b
  | 0, i, a, b, ha, hb => kept i a b ha hb
  | d + 1, i, a, b, ha, hb => by
    have hlt : i + 1 + d < cs.length := by
      have := (List.getElem?_eq_some_iff.mp hb).1; omega
    have h1 := far_of sorted kept d i a cs[i + 1 + d] ha (List.getElem?_eq_getElem hlt)
    have h2 := kept (i + 1 + d) cs[i + 1 + d] b (List.getElem?_eq_getElem hlt) hb
    rcases lx_pre (ws cs[i + 1 + d]) (ws ζ ++ ws ζ) with e | e
    · rw [← e] at h2; exact List.lt_trans h1 h2
    · exact List.lt_trans h1 (List.lt_trans e h2)
theorem far_any (sorted : cs.Pairwise (· < ·)) (kept : ∀ (i a b : Nat), cs[i]? = some a → cs[i + 1]? = some b → ws a ++ (ws ζ ++ ws ζ) < ws b) {a b : Nat} (ha : a ∈ cs) (hb : b ∈ cs) (h : a < b) : ws a ++ (ws ζ ++ ws ζ) < ws b := by
  obtain ⟨i, hi⟩ := List.getElem?_of_mem ha
  obtain ⟨j, hj⟩ := List.getElem?_of_mem hb
  obtain ⟨li, ei⟩ := List.getElem?_eq_some_iff.mp hi
  obtain ⟨lj, ej⟩ := List.getElem?_eq_some_iff.mp hj
  have hij : i < j := by
    by_cases q : i < j
    · exact q
    · by_cases e : i = j
      · subst e; rw [ei] at ej; omega
      · have := List.pairwise_iff_getElem.mp sorted j i lj li (by omega)
        rw [ei, ej] at this; omega
  exact far_of sorted kept (j - i - 1) i a b hi (by rw [show i + 1 + (j - i - 1) = j by omega]; exact hj)
/-- a morphism that keeps the neighbours keeps the order of all words -/
theorem rich (sorted : cs.Pairwise (· < ·)) (hζ : ζ ∈ cs) (top : ∀ c ∈ cs, c = ζ ∨ c < ζ) (two : ∃ c ∈ cs, c < ζ) (short : ∀ c ∈ cs, (ws c).length ≤ 3) (kept : ∀ (i a b : Nat), cs[i]? = some a → cs[i + 1]? = some b → ws a ++ (ws ζ ++ ws ζ) < ws b) :
    ∀ r s : List Nat, (∀ c ∈ r, c ∈ cs) → (∀ c ∈ s, c ∈ cs) → r < s → F0 ws r < F0 ws s := by
  have far := @far_any ws cs ζ sorted kept
  have zn : ws ζ ≠ [] := fun e => by
    obtain ⟨c, hc, hlt⟩ := two
    have := far hc hζ hlt
    rw [e] at this
    exact absurd this (List.not_lt_nil _)
  have ne : ∀ c ∈ cs, ws c ≠ [] := fun c hc e => by
    rcases top c hc with q | q
    · exact zn (q ▸ e)
    · have := far hc hζ q
      rw [e, List.nil_append] at this
      rcases lx_pre (ws ζ) (ws ζ) with h | h
      · rw [← h] at this; exact List.lt_irrefl _ this
      · exact List.lt_irrefl _ (List.lt_trans this h)
  have pos : ∀ c ∈ cs, 1 ≤ (ws c).length := fun c hc => List.length_pos_iff.mpr (ne c hc)
  have farx : ∀ a ∈ cs, ∀ b ∈ cs, a < b → ∀ x, ws a ++ (ws ζ ++ ws ζ) ++ x < ws b := fun a ha b hb h x => by
    refine lx_far (far ha hb h) ?_ x
    have h1 := pos a ha
    have h2 := pos ζ hζ
    have h3 := short b hb
    rw [List.length_append, List.length_append]; omega
  have sub : ∀ a ∈ cs, ∀ b ∈ cs, a < b → ∀ (t : List Nat) (k : Nat), (F0 ws t = Zk (ws ζ) k ∨ F0 ws t < Zk (ws ζ) k) → ws a ++ F0 ws t < ws b := by
    intro a ha b hb h t k ht
    have key : ws a ++ Zk (ws ζ) k < ws b := by
      match k with
      | 0 =>
        show ws a ++ [] < ws b
        rw [List.append_nil]
        rcases lx_pre (ws a) (ws ζ ++ ws ζ) with e | e
        · have := far ha hb h; rwa [← e] at this
        · exact List.lt_trans e (far ha hb h)
      | 1 =>
        show ws a ++ (ws ζ ++ []) < ws b
        rw [List.append_nil]
        have f := far ha hb h
        rw [← List.append_assoc] at f
        rcases lx_pre (ws a ++ ws ζ) (ws ζ) with e | e
        · rwa [← e] at f
        · exact List.lt_trans e f
      | k + 2 =>
        have := farx a ha b hb h (Zk (ws ζ) k)
        show ws a ++ (ws ζ ++ (ws ζ ++ Zk (ws ζ) k)) < ws b
        simpa [List.append_assoc] using this
    rcases ht with e | e
    · rw [e]; exact key
    · exact List.lt_trans (lx_left (ws a) e) key
  have X : ∀ t : List Nat, (∀ c ∈ t, c ∈ cs) → (F0 ws t = Zk (ws ζ) t.length ∨ F0 ws t < Zk (ws ζ) t.length) := by
    intro t
    induction t with
    | nil => intro _; exact .inl rfl
    | cons e t ih =>
      intro ht
      have ih' := ih fun c hc => ht c (List.mem_cons_of_mem _ hc)
      have he := ht e (List.mem_cons_self ..)
      show ws e ++ F0 ws t = ws ζ ++ Zk (ws ζ) t.length ∨ ws e ++ F0 ws t < ws ζ ++ Zk (ws ζ) t.length
      rcases top e he with q | q
      · subst q
        rcases ih' with g | g
        · exact .inl (by rw [g])
        · exact .inr (lx_left _ g)
      · exact .inr (lx_right (sub e he ζ hζ q t _ ih') _)
  intro r
  induction r with
  | nil =>
    intro s _ hs h
    cases s with
    | nil => exact absurd h (List.lt_irrefl _)
    | cons d s =>
      have hn := ne d (hs d (List.mem_cons_self ..))
      show [] < ws d ++ F0 ws s
      cases hw : ws d with
      | nil => exact absurd hw hn
      | cons x y => exact List.nil_lt_cons _ _
  | cons c r ih =>
    intro s hr hs h
    cases s with
    | nil => exact absurd h (List.not_lt_nil _)
    | cons d s =>
      have hc := hr c (List.mem_cons_self ..)
      have hd := hs d (List.mem_cons_self ..)
      have hr' : ∀ e ∈ r, e ∈ cs := fun e he => hr e (List.mem_cons_of_mem _ he)
      rw [List.cons_lt_cons_iff] at h
      show ws c ++ F0 ws r < ws d ++ F0 ws s
      rcases h with h | ⟨rfl, h⟩
      · exact lx_right (sub c hc d hd h r _ (X r hr')) _
      · exact lx_left _ (ih s hr' (fun e he => hs e (List.mem_cons_of_mem _ he)) h)
theorem lt_tri (a b : List Nat) : a < b ∨ a = b ∨ b < a := by
  by_cases h : a < b
  · exact .inl h
  · by_cases g : b < a
    · exact .inr (.inr g)
    · exact .inr (.inl (List.le_antisymm g h))
/-- where a neighbour test fails, two words stand the wrong way -/
theorem wrong (hs : (ws ζ).length ≤ 3) {a b : Nat} (hab : a < b) (hb : b = ζ ∨ b < ζ) (hneb : b < ζ → ¬ (ws b = [] ∧ ws ζ = [])) (hne : ¬ (ws a = [] ∧ ws b = [])) (no3 : ∀ x y, ws b ≠ [x, y, y]) (hsb : (ws b).length ≤ 3) (h : ¬ ws a ++ (ws ζ ++ ws ζ) < ws b) :
    ws b < ws a ++ (ws ζ ++ ws ζ) ∨ (b < ζ ∧ ws ζ < ws b) := by
  rcases lt_tri (ws b) (ws a ++ (ws ζ ++ ws ζ)) with q | q | q
  · exact .inl q
  · right
    rcases hb with e | e
    · subst e
      have := congrArg List.length q
      simp only [List.length_append] at this
      have hz : ws b = [] := List.length_eq_zero_iff.mp (by omega)
      have ha : ws a = [] := by
        rw [hz] at q
        simpa using q
      exact absurd ⟨ha, hz⟩ hne
    · refine ⟨e, ?_⟩
      cases hz : ws ζ with
      | nil =>
        cases hw : ws b with
        | nil => exact absurd ⟨hw, hz⟩ (hneb e)
        | cons x y => exact List.nil_lt_cons _ _
      | cons x r =>
        rw [hz] at q
        cases ha : ws a with
        | nil =>
          rw [ha, List.nil_append] at q
          rw [q]
          rcases lx_pre (x :: r) (x :: r) with g | g
          · have := congrArg List.length g
            simp at this
          · exact g
        | cons y t =>
          have hl := congrArg List.length q
          rw [ha] at hl q
          simp only [List.length_append, List.length_cons] at hl
          have hr0 : r = [] := List.length_eq_zero_iff.mp (by omega)
          have ht0 : t = [] := List.length_eq_zero_iff.mp (by omega)
          subst hr0; subst ht0
          exact absurd q (no3 y x)
  · exact absurd q h
end
end Mine
namespace Mine
open PySem PySem.W PySem.Calls PyProof.Rows
noncomputable section
theorem prep_F0 (l : List Nat) : prep l = F0 wd l := prep_flat l
theorem tx_ch (c : Nat) : tx (ch c) = [c] := rfl
/-- the codes of the stock in their order -/
structure Cs (qs : List Pr) (xs : List Str) (z : Str) (cs : List Nat) (ζ : Nat) : Prop where
  e : xs = cs.map ch
  srt : cs.Pairwise (· < ·)
  of : ∀ c ∈ cs, ∃ q ∈ qs, q.1 = c
  all : ∀ q ∈ qs, q.1 ∈ cs
  ez : z = ch ζ
  top : ∀ c ∈ cs, c = ζ ∨ c < ζ
  mem : ζ ∈ cs
  len : cs.length = qs.length
theorem cs_of {qs : List Pr} {xs : List Str} {z : Str} (X : Sx qs xs z) : ∃ cs ζ, Cs qs xs z cs ζ := by
  have e : xs = (xs.map fun x => (tx x).headD 0).map ch := by
    rw [List.map_map]
    refine Eq.trans (List.map_id xs).symm (List.map_congr_left fun x hx => ?_)
    obtain ⟨q, _, rfl⟩ := chars_of X hx
    rfl
  generalize hcs : (xs.map fun x => (tx x).headD 0) = cs at e
  have hz := List.mem_of_getElem? X.last
  obtain ⟨qz, _, rfl⟩ := chars_of X hz
  have srt : cs.Pairwise (· < ·) := by
    have := X.srt
    rw [e, List.pairwise_map] at this
    refine this.imp fun {a b} h => ?_
    have h' : [a] < [b] := h
    rw [List.cons_lt_cons_iff] at h'
    rcases h' with h' | ⟨_, h'⟩
    · exact h'
    · exact absurd h' (List.lt_irrefl _)
  have hl : xs.length = cs.length := by rw [e, List.length_map]
  have lastc : cs[cs.length - 1]? = some qz.1 := by
    have := X.last
    rw [hl] at this
    rw [e, List.getElem?_map] at this
    obtain ⟨c, hc, h2⟩ := Option.map_eq_some_iff.mp this
    rw [hc, ch_inj h2]
  refine ⟨cs, qz.1, e, srt, fun c hc => ?_, fun q hq => ?_, rfl, fun c hc => ?_, List.mem_of_getElem? lastc, ?_⟩
  · have : ch c ∈ xs := by rw [e]; exact List.mem_map_of_mem hc
    obtain ⟨q, hq, h⟩ := chars_of X this
    exact ⟨q, hq, (ch_inj h).symm⟩
  · have : ch q.1 ∈ xs := X.perm.mem_iff.mpr (List.mem_map_of_mem (f := fun q : Pr => ch q.1) hq)
    rw [e] at this
    obtain ⟨c, hc, h⟩ := List.mem_map.mp this
    rw [← ch_inj h]; exact hc
  · obtain ⟨i, hi⟩ := List.getElem?_of_mem hc
    obtain ⟨li, ei⟩ := List.getElem?_eq_some_iff.mp hi
    obtain ⟨lj, ej⟩ := List.getElem?_eq_some_iff.mp lastc
    by_cases q : i = cs.length - 1
    · subst q; rw [ei] at ej; exact .inl ej
    · have := List.pairwise_iff_getElem.mp srt i (cs.length - 1) li lj (by omega)
      rw [ei, ej] at this; exact .inr this
  · have := X.perm.length_eq
    rw [List.length_map, hl] at this; exact this
theorem size_tx (x : Str) : x.cps.size = (tx x).length := by rw [Array.length_toList]
theorem Cs.size {qs : List Pr} {xs : List Str} {z : Str} {cs : List Nat} {ζ : Nat} (C : Cs qs xs z cs ζ) : ∀ x ∈ xs, x.cps.size = 1 := fun x hx => by
  rw [C.e] at hx
  obtain ⟨c, _, rfl⟩ := List.mem_map.mp hx
  rfl
theorem pairs_nodup {cs : List Nat} (hn : cs.Nodup) : (pairsOf2 (cs.map ch)).Nodup := by
  unfold pairsOf2
  unfold List.Nodup
  rw [List.pairwise_flatMap]
  have inj : ∀ a b a' b' : Nat, ch a ++ ch b = ch a' ++ ch b' → a = a' ∧ b = b' := fun a b a' b' h => by
    have := congrArg tx h
    rw [tx_app, tx_app] at this
    have h2 : [a, b] = [a', b'] := this
    simpa using h2
  constructor
  · intro x hx
    obtain ⟨a, _, rfl⟩ := List.mem_map.mp hx
    rw [List.map_map, List.pairwise_map]
    exact hn.imp fun {b c} h e => h (inj a b a c e).2
  · rw [List.pairwise_map]
    refine hn.imp fun {a b} h x hx y hy e => ?_
    rw [List.map_map] at hx hy
    obtain ⟨c, _, rfl⟩ := List.mem_map.mp hx
    obtain ⟨d, _, rfl⟩ := List.mem_map.mp hy
    exact h (inj a c b d e).1
theorem pairs_len (l : List Str) : ∀ r : List Str, (r.flatMap fun a => l.map fun b => a ++ b).length = r.length * l.length
  | [] => by simp
  | a :: r => by
    rw [List.flatMap_cons, List.length_append, List.length_map, pairs_len l r, List.length_cons, Nat.succ_mul]; omega
theorem Cs.txs {qs : List Pr} {xs : List Str} {z : Str} {cs : List Nat} {ζ : Nat} (C : Cs qs xs z cs ζ) (G : Gq qs) : Tx (textsOf xs z) := by
  have hn : cs.Nodup := C.srt.imp fun {a b} h => Nat.ne_of_lt h
  have l0 : (Mine.tx (Str.ofString "")).length = 0 := by kernel_rfl
  have l1 : ∀ x ∈ xs, (Mine.tx x).length = 1 := fun x hx => by rw [← size_tx]; exact C.size x hx
  have l2 : ∀ x ∈ pairsOf2 xs, (Mine.tx x).length = 2 := fun x hx => by
    unfold pairsOf2 at hx
    obtain ⟨a, ha, hx⟩ := List.mem_flatMap.mp hx
    obtain ⟨b, hb, rfl⟩ := List.mem_map.mp hx
    rw [tx_app, List.length_append, l1 a ha, l1 b hb]
  have l3 : ∀ x ∈ (xs.map fun a => (a ++ z) ++ z), (Mine.tx x).length = 3 := fun x hx => by
    obtain ⟨a, ha, rfl⟩ := List.mem_map.mp hx
    rw [tx_app, tx_app, List.length_append, List.length_append, l1 a ha, C.ez]; rfl
  have ap : ∀ {a b : List Str} {k : Nat}, a.Nodup → b.Nodup → (∀ x ∈ a, (Mine.tx x).length < k) → (∀ x ∈ b, (Mine.tx x).length = k) → (a ++ b).Nodup := fun ha hb h1 h2 => by
    rw [List.nodup_append]
    refine ⟨ha, hb, fun x hx y hy e => ?_⟩
    subst e
    have := h1 x hx
    rw [h2 x hy] at this
    exact absurd this (Nat.lt_irrefl _)
  have n1 : xs.Nodup := by
    rw [C.e]; exact List.Pairwise.map _ (fun a b hab e => hab (ch_inj e)) hn
  have n2 : (pairsOf2 xs).Nodup := by rw [C.e]; exact pairs_nodup hn
  have n3 : (xs.map fun a => (a ++ z) ++ z).Nodup := by
    rw [C.e, List.map_map]
    refine List.Pairwise.map _ (fun a b hab e => hab ?_) hn
    have := congrArg Mine.tx e
    rw [C.ez] at this
    simp only [Function.comp, tx_app] at this
    have h2 : [a, ζ, ζ] = [b, ζ, ζ] := this
    simpa using h2
  have a1 : ∀ x ∈ [Str.ofString ""], (Mine.tx x).length = 0 := fun x hx => by rw [List.mem_singleton.mp hx]; exact l0
  have m1 : ([Str.ofString ""] ++ xs).Nodup := ap (k := 1) (List.pairwise_singleton _ _) n1 (fun x hx => by rw [a1 x hx]; decide) l1
  have a2 : ∀ x ∈ ([Str.ofString ""] ++ xs), (Mine.tx x).length ≤ 1 := fun x hx => (List.mem_append.mp hx).elim (fun q => by rw [a1 x q]; decide) fun q => by rw [l1 x q]; decide
  have m2 : (([Str.ofString ""] ++ xs) ++ pairsOf2 xs).Nodup := ap (k := 2) m1 n2 (fun x hx => Nat.lt_succ_of_le (a2 x hx)) l2
  have a3 : ∀ x ∈ (([Str.ofString ""] ++ xs) ++ pairsOf2 xs), (Mine.tx x).length ≤ 2 := fun x hx => (List.mem_append.mp hx).elim (fun q => Nat.le_succ_of_le (a2 x q)) fun q => by rw [l2 x q]; decide
  refine ⟨ap (k := 3) m2 n3 (fun x hx => Nat.lt_succ_of_le (a3 x hx)) l3, ?_, fun x hx => ?_⟩
  · have hl : xs.length = qs.length := by rw [C.e, List.length_map, C.len]
    have hp : (pairsOf2 xs).length = xs.length * xs.length := pairs_len xs xs
    unfold textsOf
    rw [List.length_append, List.length_append, List.length_append, List.length_map, hp, hl]
    rcases G.len with e | e <;> rw [e] <;> simp
  · rw [size_tx]
    unfold textsOf at hx
    exact (List.mem_append.mp hx).elim (fun q => Nat.le_succ_of_le (a3 x q)) fun q => by rw [l3 x q]; decide
end
end Mine
namespace Mine
open PySem PySem.W PySem.Calls PyProof.Rows
noncomputable section
noncomputable def Nb (P : Str → Str → Prop) (xs : List Str) : Prop := ∀ (i : Nat) (a b : Str), xs[i]? = some a → xs[i + 1]? = some b → P a b
theorem nbs_rep {g : Str → Str → Int} {xs : List Str} : nbs g xs = List.replicate (nbs g xs).length (-1) ↔ Nb (fun a b => g a b = -1) xs := by
  constructor
  · intro h i a b ha hb
    have hi : i < xs.length - 1 := by have := (List.getElem?_eq_some_iff.mp hb).1; omega
    have h1 : (nbs g xs)[i]? = some (g a b) := by
      unfold nbs
      rw [List.getElem?_map, List.getElem?_range hi]
      simp [List.getD_eq_getElem?_getD, ha, hb]
    exact (List.eq_replicate_iff.mp h).2 _ (List.mem_of_getElem? h1)
  · intro h
    rw [List.eq_replicate_iff]
    refine ⟨rfl, fun v hv => ?_⟩
    unfold nbs at hv
    obtain ⟨i, hi, rfl⟩ := List.mem_map.mp hv
    have hi' := List.mem_range.mp hi
    have ha := List.getElem?_eq_getElem (l := xs) (i := i) (by omega)
    have hb := List.getElem?_eq_getElem (l := xs) (i := i + 1) (by omega)
    rw [List.getD_eq_getElem?_getD, List.getD_eq_getElem?_getD, ha, hb]
    exact h i _ _ ha hb
theorem nb_far {P : Str → Str → Prop} (tr : ∀ a b c, P a b → P b c → P a c) {xs : List Str} (h : Nb P xs) : ∀ (d i : Nat) (a b : Str), xs[i]? = some a → xs[i + 1 + d]? = some b → P a b
  | 0, i, a, b, ha, hb => h i a b ha hb
  | d + 1, i, a, b, ha, hb => by
    have hlt : i + 1 + d < xs.length := by
      have := (List.getElem?_eq_some_iff.mp hb).1; omega
    exact tr _ _ _ (nb_far tr h d i a xs[i + 1 + d] ha (List.getElem?_eq_getElem hlt)) (h (i + 1 + d) _ b (List.getElem?_eq_getElem hlt) hb)
theorem nb_pair {P : Str → Str → Prop} (tr : ∀ a b c, P a b → P b c → P a c) {xs : List Str} (h : Nb P xs) : xs.Pairwise P := by
  rw [List.pairwise_iff_getElem]
  intro i j hi hj hij
  exact nb_far tr h (j - i - 1) i _ _ (List.getElem?_eq_getElem hi) (by rw [show i + 1 + (j - i - 1) = j by omega]; exact List.getElem?_eq_getElem hj)
theorem pair_nb {P : Str → Str → Prop} {xs : List Str} (h : xs.Pairwise P) : Nb P xs := fun i a b ha hb => by
  obtain ⟨hi, e1⟩ := List.getElem?_eq_some_iff.mp ha
  obtain ⟨hj, e2⟩ := List.getElem?_eq_some_iff.mp hb
  subst e1; subst e2
  exact List.pairwise_iff_getElem.mp h i (i + 1) hi hj (Nat.lt_succ_self _)
/-- of two elements the smaller stands before -/
theorem sorted_rel {P : Str → Str → Prop} {xs : List Str} (hs : xs.Pairwise ltT) (hp : xs.Pairwise P) {x y : Str} (hx : x ∈ xs) (hy : y ∈ xs) (h : ltT x y) : P x y := by
  obtain ⟨i, hi⟩ := List.getElem?_of_mem hx
  obtain ⟨j, hj⟩ := List.getElem?_of_mem hy
  have hij : i < j := (sorted_lt_iff hs hi hj).mp h
  obtain ⟨li, e1⟩ := List.getElem?_eq_some_iff.mp hi
  obtain ⟨lj, e2⟩ := List.getElem?_eq_some_iff.mp hj
  subst e1; subst e2
  exact List.pairwise_iff_getElem.mp hp i j li lj hij
theorem fP_tails (a ζ : Nat) : fP ((ch a ++ ch ζ) ++ ch ζ) = wd a ++ (wd ζ ++ wd ζ) := by
  show prep (tx ((ch a ++ ch ζ) ++ ch ζ)) = _
  rw [tx_app, tx_app, tx_ch, tx_ch, prep_flat]
  show (wd a ++ (wd ζ ++ (wd ζ ++ []))) = _
  rw [List.append_nil]
theorem idx_bis {p : Nat → Nat → Bool} {n : Nat} {rs : List Nat} (hl : rs.length = n) (f : Nat → Nat) (h : ∀ (i r : Nat), rs[i]? = some r → r = f i) : rs = (List.range n).map f := by
  apply List.ext_getElem
  · simp [hl]
  · intro i h1 h2
    rw [List.getElem_map, List.getElem_range]
    exact h i _ (List.getElem?_eq_getElem h1)
theorem natcast_inj : ∀ {a b : List Nat}, a.map (fun r : Nat => (r : Int)) = b.map (fun r : Nat => (r : Int)) → a = b
  | [], [], _ => rfl
  | x :: a, y :: b, h => by
    simp only [List.map_cons, List.cons.injEq] at h
    rw [natcast_inj h.2, Int.ofNat.inj h.1]
  | [], _ :: _, h => by simp at h
  | _ :: _, [], h => by simp at h
section
variable {qs : List Pr} {xs : List Str} {z : Str} {cs : List Nat} {ζ : Nat} {hs' us : List Str}
theorem kb_iff (C : Cs qs xs z cs ζ) : kbOf xs z = true ↔ ∀ (i a b : Nat), cs[i]? = some a → cs[i + 1]? = some b → wd a ++ (wd ζ ++ wd ζ) < wd b := by
  unfold kbOf
  rw [decide_eq_true_iff]
  unfold ansOf
  rw [nbs_rep]
  have step : ∀ a b : Nat, collOf (fP ((ch a ++ z) ++ z)) (fP (ch b)) = -1 ↔ wd a ++ (wd ζ ++ wd ζ) < wd b := fun a b => by
    rw [collOf_iff, C.ez, fP_tails]
  constructor
  · intro h i a b ha hb
    refine (step a b).mp (h i (ch a) (ch b) ?_ ?_)
    · rw [C.e, List.getElem?_map, ha]; rfl
    · rw [C.e, List.getElem?_map, hb]; rfl
  · intro h i a b ha hb
    rw [C.e, List.getElem?_map] at ha hb
    obtain ⟨a', ha', rfl⟩ := Option.map_eq_some_iff.mp ha
    obtain ⟨b', hb', rfl⟩ := Option.map_eq_some_iff.mp hb
    exact (step a' b').mpr (h i a' b' ha' hb')
theorem Cs.two (C : Cs qs xs z cs ζ) (G : Gq qs) : ∃ c ∈ cs, c < ζ := by
  have hl : 3 ≤ cs.length := by rw [C.len]; rcases G.len with e | e <;> omega
  have h0 := List.getElem?_eq_getElem (l := cs) (i := 0) (by omega)
  have h1 := List.getElem?_eq_getElem (l := cs) (i := 1) (by omega)
  have lt := List.pairwise_iff_getElem.mp C.srt 0 1 (by omega) (by omega) (by decide)
  rcases C.top _ (List.mem_of_getElem? h0) with e | e
  · rcases C.top _ (List.mem_of_getElem? h1) with e' | e' <;> omega
  · exact ⟨_, List.mem_of_getElem? h0, e⟩
theorem Cs.short (C : Cs qs xs z cs ζ) (G : Gq qs) : ∀ c ∈ cs, (wd c).length ≤ 3 := fun c hc => by
  obtain ⟨q, hq, rfl⟩ := C.of c hc
  rw [(G.w q hq).1]; exact (G.w q hq).2
/-- kept: the order of all words stands -/
theorem Cs.mono (C : Cs qs xs z cs ζ) (G : Gq qs) (hk : kbOf xs z = true) : ∀ x y : Str, (∀ c ∈ tx x, ∃ q ∈ qs, q.1 = c) → (∀ c ∈ tx y, ∃ q ∈ qs, q.1 = c) → (tx x < tx y ↔ fP x < fP y) := by
  have R := rich C.srt C.mem C.top (C.two G) (C.short G) ((kb_iff C).mp hk)
  have cv : ∀ x : Str, (∀ c ∈ tx x, ∃ q ∈ qs, q.1 = c) → ∀ c ∈ tx x, c ∈ cs := fun x h c hc => by
    obtain ⟨q, hq, rfl⟩ := h c hc
    exact C.all q hq
  have up : ∀ x y : Str, (∀ c ∈ tx x, ∃ q ∈ qs, q.1 = c) → (∀ c ∈ tx y, ∃ q ∈ qs, q.1 = c) → tx x < tx y → fP x < fP y := fun x y hx hy h => by
    have := R (tx x) (tx y) (cv x hx) (cv y hy) h
    rw [← prep_F0, ← prep_F0] at this
    exact this
  intro x y hx hy
  refine ⟨up x y hx hy, fun h => ?_⟩
  rcases lt_tri (tx x) (tx y) with q | q | q
  · exact q
  · have : fP x = fP y := congrArg prep q
    rw [this] at h
    exact absurd h (List.lt_irrefl _)
  · exact absurd (List.lt_trans h (up y x hy hx q)) (List.lt_irrefl _)
theorem Cs.lng (C : Cs qs xs z cs ζ) (X : Sx qs xs z) (G : Gq qs) (srt : hs'.Pairwise ltT) (perm : hs'.Perm (textsOf xs z)) : Lng qs (kbOf xs z) hs' := by
  refine ⟨fun hk x hx => ?_, fun hk x y hx hy => ?_⟩
  · have M := C.mono G hk
    have ov : ∀ y ∈ hs', ∀ c ∈ tx y, ∃ q ∈ qs, q.1 = c := fun y hy => text_over X (perm.mem_iff.mp hy)
    have sF : hs'.Pairwise (ltF fP) := srt.imp_of_mem fun {a b} ha hb h => .inl ((M a b (ov a ha) (ov b hb)).mp h)
    intro i y hy
    have hym := List.mem_of_getElem? hy
    refine ⟨?_, ?_⟩
    · rw [M y x (ov y hym) hx]; exact cntL_iff sF (fP x) hy
    · rw [M x y hx (ov y hym)]; exact cntR_iff sF (fP x) hy
  · have M := C.mono G hk
    unfold collOf
    simp only [M x y hx hy, M y x hy hx]
/-- not kept: two texts of the shelf stand the wrong way -/
theorem Cs.inv (C : Cs qs xs z cs ζ) (G : Gq qs) (hk : kbOf xs z = false) : ∃ x ∈ textsOf xs z, ∃ y ∈ textsOf xs z, ltT x y ∧ fP y < fP x := by
  have nk : ¬ ∀ (i a b : Nat), cs[i]? = some a → cs[i + 1]? = some b → wd a ++ (wd ζ ++ wd ζ) < wd b := fun h => by
    rw [(kb_iff C).mpr h] at hk; cases hk
  have : ∃ i a b, cs[i]? = some a ∧ cs[i + 1]? = some b ∧ ¬ wd a ++ (wd ζ ++ wd ζ) < wd b := by
    refine Classical.byContradiction fun q => nk fun i a b ha hb => Classical.byContradiction fun r => q ⟨i, a, b, ha, hb, r⟩
  obtain ⟨i, a, b, ha, hb, hn⟩ := this
  have hab : a < b := by
    obtain ⟨h1, e1⟩ := List.getElem?_eq_some_iff.mp ha
    obtain ⟨h2, e2⟩ := List.getElem?_eq_some_iff.mp hb
    subst e1; subst e2
    exact List.pairwise_iff_getElem.mp C.srt i (i + 1) h1 h2 (Nat.lt_succ_self _)
  have ma := List.mem_of_getElem? ha
  have mb := List.mem_of_getElem? hb
  have two : ∀ c ∈ cs, ∀ d ∈ cs, c < d → ¬ (wd c = [] ∧ wd d = []) := fun c hc d hd h q => by
    obtain ⟨p1, h1, rfl⟩ := C.of c hc
    obtain ⟨p2, h2, rfl⟩ := C.of d hd
    rw [(G.w p1 h1).1, (G.w p2 h2).1] at q
    have hne : p1 ≠ p2 := fun e => by rw [e] at h; exact absurd h (Nat.lt_irrefl _)
    obtain ⟨i1, hi1⟩ := List.getElem?_of_mem h1
    obtain ⟨i2, hi2⟩ := List.getElem?_of_mem h2
    obtain ⟨l1, e1⟩ := List.getElem?_eq_some_iff.mp hi1
    obtain ⟨l2, e2⟩ := List.getElem?_eq_some_iff.mp hi2
    rcases Nat.lt_trichotomy i1 i2 with r | r | r
    · have := List.pairwise_iff_getElem.mp G.one i1 i2 l1 l2 r
      rw [e1, e2] at this; exact this q
    · subst r; rw [e1] at e2; exact hne e2
    · have := List.pairwise_iff_getElem.mp G.one i2 i1 l2 l1 r
      rw [e1, e2] at this; exact this ⟨q.2, q.1⟩
  have n3 : ∀ x y, wd b ≠ [x, y, y] := fun x y => by
    obtain ⟨q, hq, rfl⟩ := C.of b mb
    rw [(G.w q hq).1]; exact G.no3 q hq x y
  have inT : ∀ c ∈ cs, ch c ∈ textsOf xs z := fun c hc => by
    unfold textsOf
    refine List.mem_append_left _ (List.mem_append_left _ (List.mem_append_right _ ?_))
    rw [C.e]; exact List.mem_map_of_mem hc
  rcases wrong (ws := wd) (C.short G ζ C.mem) hab (C.top b mb) (fun h => two b mb ζ C.mem h) (two a ma b mb hab) n3 (C.short G b mb) hn with q | ⟨h, q⟩
  · refine ⟨(ch a ++ z) ++ z, ?_, ch b, inT b mb, ?_, ?_⟩
    · unfold textsOf
      refine List.mem_append_right _ (List.mem_map.mpr ⟨ch a, ?_, rfl⟩)
      rw [C.e]; exact List.mem_map_of_mem ma
    · show tx ((ch a ++ z) ++ z) < tx (ch b)
      rw [tx_app, tx_app, tx_ch, tx_ch]
      show a :: _ < b :: _
      rw [List.cons_lt_cons_iff]; exact .inl hab
    · rw [C.ez, fP_tails]; exact q
  · refine ⟨ch b, inT b mb, ch ζ, inT ζ C.mem, ?_, q⟩
    show [b] < [ζ]
    rw [List.cons_lt_cons_iff]; exact .inl h
theorem incF_of_left {rs : List Nat} (h : BisAll (pL fP hs') hs' rs) (e : rs = List.range hs'.length) : Nb (fun a b => fP a < fP b) hs' := fun i a b ha hb => by
  have hi := (List.getElem?_eq_some_iff.mp hb).1
  have := h.2 (i + 1) b (i + 1) hb (by rw [e, List.getElem?_range hi])
  rcases this.2.1 with q | q
  · omega
  · unfold pL at q
    rw [decide_eq_true_iff, Nat.add_sub_cancel, List.getD_eq_getElem?_getD, ha] at q
    exact q
theorem incF_of_right {rs : List Nat} (h : BisAll (pR fP hs') hs' rs) (e : rs = (List.range hs'.length).map (· + 1)) : Nb (fun a b => fP a < fP b) hs' := fun i a b ha hb => by
  have hi := (List.getElem?_eq_some_iff.mp hb).1
  have := h.2 i a (i + 1) ha (by rw [e, List.getElem?_map, List.getElem?_range (by omega)]; rfl)
  rcases this.2.2 with q | q
  · omega
  · unfold pR at q
    simp only [Bool.not_eq_false', decide_eq_true_iff] at q
    rw [List.getD_eq_getElem?_getD, hb] at q
    exact q
theorem Cs.ord (C : Cs qs xs z cs ζ) (X : Sx qs xs z) (G : Gq qs) (srt : hs'.Pairwise ltT) (perm : hs'.Perm (textsOf xs z)) (sU : us.Pairwise (ltF fP)) (pU : us.Perm hs') : Ord xs z hs' us := by
  have ov : ∀ y ∈ hs', ∀ c ∈ tx y, ∃ q ∈ qs, q.1 = c := fun y hy => text_over X (perm.mem_iff.mp hy)
  have sT := nbs_sorted srt
  cases hk : kbOf xs z with
  | true =>
    have M := C.mono G hk
    have inc : hs'.Pairwise fun a b => fP a < fP b := srt.imp_of_mem fun {a b} ha hb h => (M a b (ov a ha) (ov b hb)).mp h
    have sF : hs'.Pairwise (ltF fP) := inc.imp fun h => .inl h
    have iff : ∀ {i j : Nat} {a b : Str}, hs'[i]? = some a → hs'[j]? = some b → (fP a < fP b ↔ i < j) := fun {i j a b} ha hb => by
      rw [← M a b (ov a (List.mem_of_getElem? ha)) (ov b (List.mem_of_getElem? hb))]
      exact sorted_lt_iff srt ha hb
    refine ⟨?_, ?_, fun rs h => ?_, fun rs h => ?_⟩
    · rw [hk, decide_eq_true_iff]
      exact sorted_unique (ltF_irr fP) (ltF_trans fP) pU sU sF
    · rw [hk, decide_eq_true_iff, sT]
      have h1 : nbs (fun a b => collOf (fP a) (fP b)) hs' = List.replicate (nbs (fun a b => collOf (fP a) (fP b)) hs').length (-1) := nbs_rep.mpr fun i a b ha hb => collOf_lt (pair_nb inc i a b ha hb)
      have h2 : (nbs (fun a b => collOf (fP a) (fP b)) hs').length = hs'.length - 1 := by unfold nbs; simp
      rw [h2] at h1; exact h1
    · rw [hk, decide_eq_true_iff]
      have e := idx_bis (p := fun _ _ => true) h.1 (fun i => i) fun i r hr => by
        have li : i < hs'.length := by have := (List.getElem?_eq_some_iff.mp hr).1; rw [h.1] at this; exact this
        have hx := List.getElem?_eq_getElem li
        refine bis_unique (h.2 i _ r hx hr) (Nat.le_of_lt li) fun j hj => ?_
        unfold pL
        rw [decide_eq_true_iff, List.getD_eq_getElem?_getD, List.getElem?_eq_getElem hj]
        exact iff (List.getElem?_eq_getElem hj) hx
      rw [e, List.map_id']
      rfl
    · rw [hk, decide_eq_true_iff]
      have e := idx_bis (p := fun _ _ => true) h.1 (fun i => i + 1) fun i r hr => by
        have li : i < hs'.length := by have := (List.getElem?_eq_some_iff.mp hr).1; rw [h.1] at this; exact this
        have hx := List.getElem?_eq_getElem li
        refine bis_unique (h.2 i _ r hx hr) li fun j hj => ?_
        unfold pR
        simp only [Bool.not_eq_true', decide_eq_false_iff_not]
        rw [List.getD_eq_getElem?_getD, List.getElem?_eq_getElem hj, Option.getD_some, iff hx (List.getElem?_eq_getElem hj)]
        omega
      rw [e, List.map_map]
      unfold places1
      apply List.map_congr_left
      intro i _
      simp
  | false =>
    obtain ⟨x, hx, y, hy, hxy, hf⟩ := C.inv G hk
    have hx' := perm.mem_iff.mpr hx
    have hy' := perm.mem_iff.mpr hy
    have nInc : ¬ Nb (fun a b => fP a < fP b) hs' := fun h => by
      have := sorted_rel srt (nb_pair (P := fun a b => fP a < fP b) (fun a b c h1 h2 => List.lt_trans h1 h2) h) hx' hy' hxy
      exact List.lt_irrefl _ (List.lt_trans this hf)
    refine ⟨?_, ?_, fun rs h => ?_, fun rs h => ?_⟩
    · rw [hk, decide_eq_false_iff_not]
      intro e
      rw [e] at sU
      rcases sorted_rel srt sU hx' hy' hxy with q | q
      · exact List.lt_irrefl _ (List.lt_trans q hf)
      · rw [q.1] at hf; exact List.lt_irrefl _ hf
    · rw [hk, decide_eq_false_iff_not]
      intro e
      rw [sT] at e
      have h2 : (nbs (fun a b => collOf (fP a) (fP b)) hs').length = hs'.length - 1 := by unfold nbs; simp
      rw [← h2] at e
      exact nInc fun i a b ha hb => collOf_iff.mp (nbs_rep.mp e i a b ha hb)
    · rw [hk, decide_eq_false_iff_not]
      intro e
      exact nInc (incF_of_left h (natcast_inj e))
    · rw [hk, decide_eq_false_iff_not]
      intro e
      refine nInc (incF_of_right h (natcast_inj ?_))
      rw [e, List.map_map]
      unfold places1
      apply List.map_congr_left
      intro i _
      simp
end
end
end Mine
namespace Mine
open PySem PySem.W PySem.Calls PyProof.Rows
noncomputable section
/-- the folding, told by the pairs themselves: the kernel reads it in no time -/
noncomputable def b3F (c : Nat) : List Nat := match b3Pairs.find? fun p => p.1 == (c : Int) with
  | some p => p.2.cps.toList
  | none => (Txt.lower ⟨#[c]⟩).cps.toList
theorem find_zip {α : Type} (p : α → Bool) (l : List α) (n : Nat) : ((l.zipIdx n).find? fun x => p x.1).map (·.1) = l.find? p := by
  induction l generalizing n with
  | nil => rfl
  | cons a l ih =>
    rw [List.zipIdx_cons, List.find?_cons, List.find?_cons]
    cases p a with
    | true => rfl
    | false => exact ih _
theorem b3Of_fast (c : Nat) : b3Of c = b3F c := by
  have e : b3At c = (b3Pairs.zipIdx.find? fun x => (fun p : Int × Str => p.1 == (c : Int)) x.1).map fun x => .str x.1.2 (b3Tok x.2 + 1) := by
    show findBy Value.isInt b3Ents.toArray (c : Int) = _
    unfold findBy
    rw [List.find?_toArray]
    unfold b3Ents
    rw [List.find?_map, Option.map_map]
    rfl
  unfold b3Of b3F
  rw [e, ← find_zip _ b3Pairs 0]
  cases b3Pairs.zipIdx.find? fun x => (fun p : Int × Str => p.1 == (c : Int)) x.1 <;> rfl
noncomputable def prepF (l : List Nat) : List Nat := ((l.filter fun c => !inB1 c).map b3F).flatten
theorem prep_fast (l : List Nat) : prep l = prepF l := by
  unfold prep prepF
  rw [show b3Of = b3F from funext b3Of_fast]
noncomputable def peB (q : Pr) : Bool := !inB1 q.1 && !q.2.isEmpty && (prep [q.1] == q.2) && decide (q.2.length ≤ 3) && (match q.2 with | [_, b, c] => b != c | _ => true)
noncomputable def poolB (P : List Pr) : Bool := decide ((P.map (·.1)).Nodup) && (P.length == 8) && P.all peB
noncomputable def unB (P : List Pr) (c : Nat) : Bool := inB1 c && P.all fun q => q.1 != c
noncomputable def beB (P : List Pr) (c : Nat) : Bool := !inB1 c && (prep [c] == [c]) && P.all fun q => q.1 != c
noncomputable def unAt (i : Nat) : Nat := (unseenL.getD i 0).toNat
noncomputable def beAt (i : Nat) : Nat := (besideL.getD i 0).toNat
theorem prep_f : prep = prepF := funext prep_fast
theorem pools_ok : ((List.range 6).all fun k => poolB (poolOf k)) = true := by
  unfold poolB peB
  rw [prep_f]
  decide +kernel
theorem un_ok : ((List.range 6).all fun k => (List.range 27).all fun i => unB (poolOf k) (unAt i)) = true := by decide +kernel
theorem be_ok : ((List.range 6).all fun k => (List.range 16).all fun i => beB (poolOf k) (beAt i)) = true := by
  unfold beB
  rw [prep_f]
  decide +kernel
end
end Mine
namespace Mine
open PySem PySem.W PySem.Calls PyProof.Rows
noncomputable section
structure Pe (q : Pr) : Prop where
  b1 : inB1 q.1 = false
  ne : q.2 ≠ []
  w : prep [q.1] = q.2
  len : q.2.length ≤ 3
  no3 : ∀ a b, q.2 ≠ [a, b, b]
theorem pe_of {q : Pr} (h : peB q = true) : Pe q := by
  unfold peB at h
  simp only [Bool.and_eq_true, Bool.not_eq_true', List.isEmpty_eq_false_iff, beq_iff_eq, decide_eq_true_iff] at h
  obtain ⟨⟨⟨⟨h1, h2⟩, h3⟩, h4⟩, h5⟩ := h
  refine ⟨h1, h2, h3, h4, fun a b e => ?_⟩
  rw [e] at h5
  simp at h5
theorem erase_perm : ∀ (l : List Pr) (i : Nat) (h : i < l.length), (l[i] :: l.eraseIdx i).Perm l
  | a :: r, 0, _ => .refl _
  | a :: r, i + 1, h => by
    have h' : i < r.length := by simpa using h
    have ih := erase_perm r i h'
    show (r[i] :: a :: r.eraseIdx i).Perm (a :: r)
    exact (List.Perm.swap a _ _).trans (List.Perm.cons a ih)
  | [], _, h => absurd h (Nat.not_lt_zero _)
theorem pick1_perm (x : PSt) (h : 0 < x.1.length) : ((pick1 x).2.2 ++ (pick1 x).1).Perm (x.2.2 ++ x.1) := by
  unfold pick1
  dsimp only
  have hlt : x.2.1 % x.1.length < x.1.length := Nat.mod_lt _ h
  rw [List.getElem?_eq_getElem hlt]
  show ((x.2.2 ++ [x.1[x.2.1 % x.1.length]]) ++ x.1.eraseIdx (x.2.1 % x.1.length)).Perm _
  rw [List.append_assoc]
  exact List.Perm.append_left _ (erase_perm _ _ hlt)
theorem pickN_perm (x : PSt) : ∀ n, n ≤ x.1.length → ((pickN n x).2.2 ++ (pickN n x).1).Perm (x.2.2 ++ x.1)
  | 0, _ => .refl _
  | n + 1, h => by
    have ih := pickN_perm x n (by omega)
    have il := pickN_len x n (by omega)
    exact (pick1_perm (pickN n x) (by omega)).trans ih
theorem gq_plain {l : List Pr} (hp : ∀ q ∈ l, Pe q) (hn : (l.map (·.1)).Nodup) (hl : l.length = 3 ∨ l.length = 4) : Gq l := by
  refine ⟨hn, hl, fun q hq => ?_, fun q hq => ⟨(hp q hq).w, (hp q hq).len⟩, ?_, fun q hq => (hp q hq).no3⟩
  · rw [(hp q hq).b1, decide_eq_false (hp q hq).ne]
  · refine List.Pairwise.imp_of_mem (R := fun a b => a.1 ≠ b.1) ?_ (by rw [← List.pairwise_map (f := fun q : Pr => q.1)]; exact hn)
    intro a b ha _ _ h
    exact (hp a ha).ne h.1
theorem gq_snoc {l : List Pr} {q : Pr} (hp : ∀ q ∈ l, Pe q) (hn : (l.map (·.1)).Nodup) (hl : l.length = 2 ∨ l.length = 3) (h1 : ∀ p ∈ l, p.1 ≠ q.1) (hb : inB1 q.1 = decide (q.2 = [])) (hw : prep [q.1] = q.2) (hs : q.2.length ≤ 1) : Gq (l ++ [q]) := by
  have hc : ∀ p ∈ l ++ [q], p ∈ l ∨ p = q := fun p hp => (List.mem_append.mp hp).imp id List.mem_singleton.mp
  refine ⟨?_, ?_, fun p h => ?_, fun p h => ?_, ?_, fun p h => ?_⟩
  · rw [List.map_append, List.nodup_append]
    refine ⟨hn, List.pairwise_singleton _ _, fun a ha b hb e => ?_⟩
    obtain ⟨p, hp, rfl⟩ := List.mem_map.mp ha
    have : b = q.1 := by simpa using hb
    exact h1 p hp (e.trans this)
  · rw [List.length_append]
    rcases hl with e | e <;> rw [e]
    · exact .inl rfl
    · exact .inr rfl
  · rcases hc p h with h | rfl
    · rw [(hp p h).b1, decide_eq_false (hp p h).ne]
    · exact hb
  · rcases hc p h with h | rfl
    · exact ⟨(hp p h).w, (hp p h).len⟩
    · exact ⟨hw, by omega⟩
  · rw [List.pairwise_append]
    refine ⟨?_, List.pairwise_singleton _ _, fun a ha b _ z => (hp a ha).ne z.1⟩
    refine List.Pairwise.imp_of_mem (R := fun a b => a.1 ≠ b.1) ?_ (by rw [← List.pairwise_map (f := fun q : Pr => q.1)]; exact hn)
    intro a b ha _ _ h
    exact (hp a ha).ne h.1
  · rcases hc p h with h | rfl
    · exact (hp p h).no3
    · intro a b e
      rw [e] at hs
      simp at hs
theorem lastSet_snoc : ∀ {l : List Pr} (q : Pr), l ≠ [] → lastSet l q = l.dropLast ++ [q]
  | [], _, h => absurd rfl h
  | [a], q, _ => rfl
  | a :: b :: r, q, _ => by
    have ih := lastSet_snoc (l := b :: r) q (by simp)
    unfold lastSet at ih ⊢
    simp only [List.length_cons, Nat.add_sub_cancel] at ih ⊢
    rw [List.set_cons_succ, ih]
    rfl
theorem range_all_at {n : Nat} {p : Nat → Bool} (h : ((List.range n).all p) = true) {i : Nat} (hi : i < n) : p i = true := List.all_eq_true.mp h i (List.mem_range.mpr hi)
theorem stock_gq (cell n : Nat) (hn : n = 3 ∨ n = 4) : Gq (stockOf cell n) := by
  have hk : cell / 7 % 6 < 6 := Nat.mod_lt _ (by decide)
  have hP := range_all_at pools_ok hk
  have hU := range_all_at un_ok hk
  have hB := range_all_at be_ok hk
  unfold stockOf
  generalize hpool : poolOf (cell / 7 % 6) = P at hP hU hB
  unfold poolB at hP
  simp only [Bool.and_eq_true, decide_eq_true_iff, beq_iff_eq] at hP
  obtain ⟨⟨nd, l8⟩, pe⟩ := hP
  have pe' : ∀ q ∈ P, Pe q := fun q hq => pe_of (List.all_eq_true.mp pe q hq)
  have hpm := pickN_perm (P, cell / 42, []) n (by show n ≤ P.length; omega)
  have hgl := pickN_got (P, cell / 42, []) n (by show n ≤ P.length; omega)
  dsimp only at hpm hgl ⊢
  generalize hx : pickN n (P, cell / 42, []) = x at hpm hgl ⊢
  obtain ⟨rest, num, got⟩ := x
  dsimp only at hpm hgl ⊢
  rw [List.nil_append] at hpm
  simp only [List.length_nil, Nat.zero_add] at hgl
  have gm : ∀ q ∈ got, q ∈ P := fun q hq => hpm.mem_iff.mp (List.mem_append_left _ hq)
  have gnd : (got.map (·.1)).Nodup := by
    have := ((hpm.map (·.1)).nodup_iff).mpr nd
    rw [List.map_append, List.nodup_append] at this
    exact this.1
  have gne : got ≠ [] := fun e => by rw [e] at hgl; simp at hgl; omega
  have dl : got.dropLast.length = 2 ∨ got.dropLast.length = 3 := by rw [List.length_dropLast]; omega
  have dm : ∀ q ∈ got.dropLast, q ∈ P := fun q hq => gm q (List.dropLast_subset _ hq)
  have dnd : (got.dropLast.map (·.1)).Nodup := gnd.sublist ((List.dropLast_sublist _).map _)
  split
  · rw [lastSet_snoc _ gne]
    have h := range_all_at hU (Nat.mod_lt num (by decide : 0 < 27))
    unfold unB at h
    rw [Bool.and_eq_true] at h
    have hnm : ∀ p ∈ P, p.1 ≠ unAt (num % 27) := fun p hp => by
      have := List.all_eq_true.mp h.2 p hp
      simpa using this
    refine gq_snoc (fun q hq => pe' q (dm q hq)) dnd dl (fun p hp => hnm p (dm p hp)) ?_ ?_ (Nat.zero_le _)
    · exact h.1.trans (decide_eq_true rfl).symm
    · have h1 : inB1 (unAt (num % 27)) = true := h.1
      show prep [unAt (num % 27)] = []
      unfold prep
      simp [h1]
  · split
    · rw [lastSet_snoc _ gne]
      have h := range_all_at hB (Nat.mod_lt num (by decide : 0 < 16))
      unfold beB at h
      simp only [Bool.and_eq_true, Bool.not_eq_true', beq_iff_eq] at h
      obtain ⟨⟨h1, h2⟩, h3⟩ := h
      have hnm : ∀ p ∈ P, p.1 ≠ beAt (num % 16) := fun p hp => by
        have := List.all_eq_true.mp h3 p hp
        simpa using this
      refine gq_snoc (fun q hq => pe' q (dm q hq)) dnd dl (fun p hp => hnm p (dm p hp)) ?_ h2 (Nat.le_refl _)
      exact h1.trans (decide_eq_false (by simp)).symm
    · exact gq_plain (fun q hq => pe' q (gm q hq)) gnd (by omega)
section
variable {w : World} {A : Around} {s s' s₀ : Shared} {L : Addr} {m cm : Str → Option Value} {E : Value → Shared → Prop}
/-- the body of the law, from its first statement to its answer -/
theorem law_body {a0 : Addr} {vs0 : List Value} {ns : List Int} {Q : Flow → Shared → Prop} (hr : Room 100 A) (hh : A.handled = none) (F : Lw w s₀ s L m cm) (tab : s.heap.get? lawTab = some (tabObj #[])) (hm : m (Str.ofString "script") = some (.ref a0)) (ha0 : a0 < L) (hl : s.heap.PlainList a0 vs0.toArray) (hi : IntsAre vs0 ns) (hz : vs0.length ≤ 100)
    (h : ∀ s' m' cm', Lw w s₀ s' L m' cm' → (∃ ps, s'.heap.get? lawTab = some (tabObj ps)) → Q (.ret (.bool true)) s') :
    wpAny (model pw w) A (execs (lwBody 0) (lwEnv L)) Q E s := by
  refine stA hr hh F tab hm ha0 hl hi hz (fun cell _ => stock_gq cell _ (by omega)) fun qs o DM DS kvs vs xs z s₁ m1 cm1 G X S1 => ?_
  obtain ⟨cs, ζ, C⟩ := cs_of X
  have T := C.txs G
  have hxl : xs.length ≤ 4 := by rw [C.e, List.length_map, C.len]; rcases G.len with e | e <;> omega
  have hx0 : 0 < xs.length := by rw [C.e, List.length_map, C.len]; rcases G.len with e | e <;> omega
  have hzx : z.cps.size = 1 := by rw [C.ez]; rfl
  refine stB hr hh S1 C.size hzx hxl T fun SH TY PL vh vy vp hs' s₂ m2 cm2 srt perm S2 => ?_
  have hl25 : hs'.length ≤ 25 := by rw [perm.length_eq]; rcases T.len with e | e <;> omega
  refine stC hr hh S2 G X T srt perm fun RD CD S0 krs kcs vu us s₃ m3 cm3 sU pU S3 => ?_
  have K := C.ord X G srt perm sU pU
  refine stD hr hh S3 C.size hzx hxl perm (sorted_nodup srt) hl25 K fun s₄ m4 S4 hk => ?_
  exact stE hr hh S4 hk G X C.size hx0 hxl (sorted_nodup srt) hl25 sU pU (C.lng X G srt perm) h
end
end
end Mine
namespace Mine
open PySem PySem.W PySem.W.X PySem.Calls PyProof.Rows
noncomputable section
theorem okLaw : FnOk 162 fdLaw := ⟨fun P => by kernel_rfl, fun P => by kernel_rfl, by kernel_rfl, by decide, by kernel_rfl, by kernel_rfl, by kernel_rfl⟩
theorem mg_law (P : Params) : mgF P (Str.ofString "law") = some (.ref 162) := by kernel_rfl
theorem hf_size (P : Params) : (Hf P).objs.size = 163 := by kernel_rfl
theorem hf_tab (P : Params) : (Hf P).get? lawTab = some (tabObj #[]) := by kernel_rfl
theorem law_bind (v : Value) : bindArgs fdLaw ⟨[v], []⟩ = pure [(Str.ofString "script", v)] := by kernel_rfl
theorem law_clo : fdLaw.closure = [] := by kernel_rfl
theorem law_m (L : Addr) (v : Value) : (bindL (lwEnv L).kindOf [(Str.ofString "script", v)] fun _ => none) (Str.ofString "script") = some v := by kernel_rfl
theorem law_loc : fdLaw.scope.names.lookup (Str.ofString "script") = some .local := by kernel_rfl
theorem ns_same {h : Heap} {a : Addr} {m m' : Str → Option Value} (x : h.Ns a m) (y : h.Ns a m') (n : Str) : m n = m' n := by
  obtain ⟨o, es, ep, ho, hd, hk, e⟩ := x
  obtain ⟨o', es', ep', ho', hd', hk', e'⟩ := y
  rw [ho] at ho'
  cases ho'
  rw [hd] at hd'
  cases hd'
  rw [← e, ← e']
/-- the call of the law -/
theorem law_call {w : World} {s₁ : Shared} {a0 : Addr} {vs : List Value} {ns : List Int} {Q : Value → Shared → Prop} {E : Value → Shared → Prop} (B : Base w s₁.heap) (tab : s₁.heap.get? lawTab = some (tabObj #[])) (ha0 : a0 < hs s₁) (hl : s₁.heap.PlainList a0 vs.toArray) (hi : IntsAre vs ns) (hz : vs.length ≤ 100)
    (h : ∀ s', Upd (fun b => b = lawTab) s₁ s' → (∃ ps, s'.heap.get? lawTab = some (tabObj ps)) → Q (.bool true) s') :
    wpAny (model pw w) callerA (call (.ref 162) [.ref a0] []) Q E s₁ := by
  obtain ⟨o, ho, hd⟩ := okLaw.get B
  refine wpAny_call (codeAny_call_cells (by decide) ho hd B.lim (CodeRec_base B (codeNm_rec (okLaw.code _))) okLaw.body (law_bind _) law_clo (fun x hx => ?_) (fun s₂ X => ?_) okLaw.co okLaw.gen okLaw.kind)
  · rw [List.mem_singleton.mp hx]; exact .inl law_loc
  · have hr : Room 100 (callerA.deeper (lwEnv s₁.heap.objs.size)) := (show Room 101 callerA from ⟨by decide, by decide⟩).deeper _
    have hns : s₂.heap.Ns s₁.heap.objs.size _ := X.toInCall.ns
    have Ll : s₁.heap.objs.size < hs s₂ := Heap.Ns.lt hns
    have U : Upd noW s₁ s₂ := by
      obtain ⟨h', tk, e⟩ := X.toInCall.same
      have k := X.toInCall.keep
      subst e
      exact Upd.of_heap (Nat.le_of_lt Ll) fun b o _ e => k b o e
    have low : s₁.heap.objs.size + 9 ≤ hs s₂ := by
      obtain ⟨o, ho, _⟩ := X.cell (Str.ofString "ready") (s₁.heap.objs.size + 8) (by kernel_rfl)
      exact Heap.lt_size ho
    have F : Lw w s₁ s₂ s₁.heap.objs.size _ _ := ⟨B, Nat.le_refl _, U.up, hns, X.cell, low⟩
    have hh : (callerA.deeper (lwEnv s₁.heap.objs.size)).handled = none := rfl
    refine law_body (vs0 := vs) (ns := ns) (a0 := a0) hr hh F (U.get id tab) (law_m _ _) ha0 (hl.at fun o e => U.get id e) hi hz fun s' m' cm' F' tb => ?_
    exact h s' (Upd.fresh F'.upd) tb
set_option maxHeartbeats 4000000 in
theorem walk : theWalk := by
  intro w s₀ s₁ mg mb G y fa o pm cd doc dV kV ho hd hcd hD hmg hg args vals as L hpre hlay hrd hwl hlo
  wrow_args hpre hlay hrd hwl hlo
  obtain ⟨hat, hsz⟩ := script_at L
  rename_i ns _ _ _ _ _ _ _ a0 vs _ hL _ _ _ hi _ hcond _
  have y' : s₀.heap = Hf w.params := y
  have sz0 : s₀.heap.objs.size = 163 := by rw [y']; exact hf_size _
  have B : Base w s₁.heap := ⟨fun b o _ e => L.keeps b o (by rw [y']; exact e), by rw [hsz, sz0]; decide⟩
  have tab : s₁.heap.get? lawTab = some (tabObj #[]) := L.keeps _ _ (by rw [y']; exact hf_tab _)
  have hfa : fa = 162 := by
    have h1 := ns_same G.T.g B.g (Str.ofString "law")
    have h2 : mg (Str.ofString "law") = some (.ref fa) := hmg
    rw [h2, mg_law] at h1
    cases h1; rfl
  subst hfa
  have hz : vs.length ≤ 100 := by
    have := IntsAre.len hi
    omega
  refine law_call B tab (by show a0 < s₁.heap.objs.size; rw [hsz, hat]; exact Nat.lt_succ_self _) ⟨0, script_obj L hL⟩ hi hz fun s' U tb => ?_
  obtain ⟨ps, et⟩ := tb
  have hos : s'.os = s₁.os := by obtain ⟨h', tk, e, _⟩ := U; rw [e]
  have hgens : s'.gens = s₁.gens := by obtain ⟨h', tk, e, _⟩ := U; rw [e]
  have K : OldK s₁.heap s'.heap := by
    obtain ⟨vs', hlen, c1, c2⟩ : ∃ vs' : Array Value, True ∧ (∃ o vs, s₁.heap.get? 161 = some o ∧ o.cls = .type "code" ∧ o.data = .fields vs ∧ vs[11]? = some (.ref lawTab)) ∧ True := by
      refine ⟨#[], trivial, ?_, trivial⟩
      have e : s₁.heap.get? 161 = some (ho161 w.params) := B.get (by kernel_rfl)
      exact ⟨_, _, e, by kernel_rfl, rfl, by kernel_rfl⟩
    have ht : s₁.heap.TableAt 161 lawTab #[] := ⟨c1, tab⟩
    refine ⟨fun b o e => ?_, fun b o e => ?_⟩
    · by_cases q : b = lawTab
      · subst q
        rw [tab] at e
        cases e
        exact .inr (.inl ⟨ht.isCodeTable, rfl, #[], ps, rfl, by rw [et]; simp [tabObj]⟩)
      · exact .inl (U.get q e)
    · by_cases q : b = lawTab
      · subst q; exact ⟨_, et⟩
      · exact ⟨o, U.get q e⟩
  exact ⟨.inl ⟨_, _, [], rfl, (fun _ => rfl), ReadsW.bool true, by wrow_post, fun _ => ⟨List.nodup_nil, fun _ hm => (nomatch hm)⟩⟩, K, hos, .of_eq (hgens.trans hg)⟩
end
end Mine
namespace Mine
open PySem PySem.W PyProof.Rows
theorem l_res : namesResolve pw = true := by rw [PySem.W.Fast.te8377067652309620493]; kernel_rfl
theorem l_meet : (namesMeet pw pw.main.body fun _ n => attrL n) = true := by rw [PySem.W.Fast.te17119622794617984870]; kernel_rfl
theorem l_vars : readsOut pw pw.main.body (Str.ofString "vars") = false := by unfold readsOut; rw [PySem.W.Fast.te17119622794617984870]; kernel_rfl
theorem l_dir : readsOut pw pw.main.body (Str.ofString "dir") = false := by unfold readsOut; rw [PySem.W.Fast.te17119622794617984870]; kernel_rfl
theorem l_locals : readsOut pw pw.main.body (Str.ofString "locals") = false := by unfold readsOut; rw [PySem.W.Fast.te17119622794617984870]; kernel_rfl
theorem filter3 {p : Str → Bool} {a b c : Str} (ha : p a = false) (hb : p b = false) (hc : p c = false) : List.filter p [a, b, c] = [] := by simp [ha, hb, hc]
theorem l_bare : List.filter (readsOut pw pw.main.body) [Str.ofString "vars", Str.ofString "dir", Str.ofString "locals"] = [] := filter3 l_vars l_dir l_locals
theorem l_strict : (!(importedModules pw.main.body).all cThrough.contains) = false := by kernel_rfl
theorem l_road : noRoadLSs { strict := false, foot := none, bare := [] } pw.main.body = true := by rw [PySem.W.Fast.te8326940854005059898]; kernel_rfl
theorem l_looks : looksOpen pw = true := by
  unfold looksOpen
  repeat' with_reducible refine look_both ?_ ?_
  · kernel_rfl
  · kernel_rfl
  · exact l_res
  · kernel_rfl
  · rw [l_bare, l_strict]; exact l_road
  · exact l_meet
theorem said_row : PySem.Challenge.rw_uc0034_01.row.wellSaid = true := by
  unfold OpenRow.wellSaid OpenRow.partSaid
  repeat' with_reducible refine look_both ?_ ?_
  · exact l_looks
  all_goals kernel_rfl
theorem said_law : PySem.Challenge.rw_uc0034_01.wellSaid = true := by
  unfold OpenLaw.wellSaid
  repeat' with_reducible refine look_both ?_ ?_
  · exact said_row
  all_goals (try rw [PySem.W.Fast.te17119622794617984870])
  all_goals (try rw [PySem.W.Fast.te8326940854005059898])
  all_goals kernel_rfl
end Mine
open PySem PySem.W PyProof.Rows
theorem PySem.Challenge.cw_uc0034_01_holds : PySem.Challenge.rw_uc0034_01.Holds := by
  exact ⟨Mine.said_law, Mine.headed Mine.said_row Mine.prom Mine.walk⟩
