import PyProof.Rows.All
import Wide.All
import OpenK.AllK
import Wide.FinOn
import OpenK.ZGo
import Lean
import PySem.Challenge.RW_oh0006_01
set_option Elab.async false
set_option maxRecDepth 100000
set_option maxHeartbeats 8000000
open PySem PySem.W PyProof.Rows
open PySem.Spec PySem.Calls
namespace Mine
section
abbrev pw : Program := PySem.Challenge.pw_oh0006_01
structure Same {α : Type} (a b : α) : Prop where
  is : a = b
/-- the statement at a place -/
noncomputable def nthS : List Stmt → Nat → Stmt
  | s :: _, 0 => s
  | _ :: l, n + 1 => nthS l n
  | [], _ => default
/-- a function's data by its def -/
noncomputable def fdOf (s : Stmt) (f : Str → Arguments → List Stmt → Scope → FuncData) : FuncData := match s with
  | .FunctionDef name params body _ _ _ scope _ _ _ => f name params body scope
  | _ => default
/-- the objects that the top leaves -/
noncomputable def heapK : Params → Frag := fun P => (fun (d0 : FuncData) (_ : Same (fdOf (nthS pw.main.body 0) fun name params body scope => ⟨name, "_wall", params, .stmts body, scope, 3, [], .none, .none, .none, (.str "__main__" 164), none, (.ref 20), .none, 0⟩) d0) (d1 : FuncData) (_ : Same (fdOf (nthS pw.main.body 2) fun name params body scope => ⟨name, "cmp_to_key", params, .stmts body, scope, 3, [], .none, .none, .none, (.str "cpy313.functools" 194), none, (.ref 27), .none, 0⟩) d1) (d2 : FuncData) (_ : Same (fdOf (nthS pw.main.body 4) fun name params body scope => ⟨name, "reduce", params, .stmts body, scope, 3, [], (.ref 30), .none, .none, (.str "cpy313.functools" 194), none, (.ref 36), .none, 0⟩) d2) (d3 : FuncData) (_ : Same (fdOf (nthS pw.main.body 6) fun name params body scope => ⟨name, "_buffer", params, .stmts body, scope, 3, [], .none, .none, .none, (.str "binascii" 218), none, (.ref 43), .none, 0⟩) d3) (d4 : FuncData) (_ : Same (fdOf (nthS pw.main.body 7) fun name params body scope => ⟨name, "_truth", params, .stmts body, scope, 3, [], .none, .none, .none, (.str "binascii" 218), none, (.ref 50), .none, 0⟩) d4) (d5 : FuncData) (_ : Same (fdOf (nthS pw.main.body 9) fun name params body scope => ⟨name, "b2a_base64", params, .stmts body, scope, 3, [], .none, (.ref 52), .none, (.str "binascii" 218), none, (.ref 58), .none, 0⟩) d5) (d6 : FuncData) (_ : Same (fdOf (nthS pw.main.body 11) fun name params body scope => ⟨name, "b64encode", params, .stmts body, scope, 3, [], (.ref 60), .none, .none, (.str "cpy313.base64" 252), none, (.ref 66), .none, 0⟩) d6) (d7 : FuncData) (_ : Same (fdOf (nthS pw.main.body 12) fun name params body scope => ⟨name, "standard_b64encode", params, .stmts body, scope, 3, [], .none, .none, .none, (.str "cpy313.base64" 252), none, (.ref 73), .none, 0⟩) d7) (d8 : FuncData) (_ : Same (fdOf (nthS pw.main.body 14) fun name params body scope => ⟨name, "Int2AP", params, .stmts body, scope, 3, [], .none, .none, .none, (.str "cpy313.imaplib" 270), none, (.ref 80), .none, 0⟩) d8) (d9 : FuncData) (_ : Same (fdOf (nthS pw.main.body 16) fun name params body scope => ⟨name, "_law_narrowed", params, .stmts body, scope, 3, [], .none, .none, .none, (.str "law_oh0006_01" 282), none, (.ref 87), .none, 0⟩) d9) (d10 : FuncData) (_ : Same (fdOf (nthS pw.main.body 17) fun name params body scope => ⟨name, "_law_shortest", params, .stmts body, scope, 3, [], .none, .none, .none, (.str "law_oh0006_01" 282), none, (.ref 94), .none, 0⟩) d10) (d11 : FuncData) (_ : Same (fdOf (nthS pw.main.body 18) fun name params body scope => ⟨name, "_law_written", params, .stmts body, scope, 3, [], .none, .none, .none, (.str "law_oh0006_01" 282), none, (.ref 101), .none, 0⟩) d11) (d12 : FuncData) (_ : Same (fdOf (nthS pw.main.body 19) fun name params body scope => ⟨name, "_law_next", params, .stmts body, scope, 3, [], .none, .none, .none, (.str "law_oh0006_01" 282), none, (.ref 108), .none, 0⟩) d12) (d13 : FuncData) (_ : Same (fdOf (nthS pw.main.body 20) fun name params body scope => ⟨name, "_law_read", params, .stmts body, scope, 3, [], .none, .none, .none, (.str "law_oh0006_01" 282), none, (.ref 115), .none, 0⟩) d13) (d14 : FuncData) (_ : Same (fdOf (nthS pw.main.body 21) fun name params body scope => ⟨name, "_law_gap", params, .stmts body, scope, 3, [], .none, .none, .none, (.str "law_oh0006_01" 282), none, (.ref 122), .none, 0⟩) d14) (d15 : FuncData) (_ : Same (fdOf (nthS pw.main.body 22) fun name params body scope => ⟨name, "law", params, .stmts body, scope, 3, [], .none, .none, .none, (.str "law_oh0006_01" 282), none, (.ref 127), .none, 0⟩) d15) => (((nat_lit 2), ⟨.none, none, (.dict #[] 0), #[]⟩) :: ((nat_lit 3), ⟨(.type "dict"), none, (.dict #[⟨(PySem.PyData.keyHash P "__name__"), (.str "__name__" 165), (.str "law_oh0006_01" 282)⟩, ⟨(PySem.PyData.keyHash P "__doc__"), (.str "__doc__" 166), .none⟩, ⟨(PySem.PyData.keyHash P "__package__"), (.str "__package__" 167), .none⟩, ⟨(PySem.PyData.keyHash P "__loader__"), (.str "__loader__" 168), (.builtin "__main__.__loader__#opaque")⟩, ⟨(PySem.PyData.keyHash P "__spec__"), (.str "__spec__" 169), .none⟩, ⟨(PySem.PyData.keyHash P "__annotations__"), (.str "__annotations__" 170), (.ref 6)⟩, ⟨(PySem.PyData.keyHash P "__builtins__"), (.str "__builtins__" 171), (.ref 4)⟩, ⟨(PySem.PyData.keyHash P "__file__"), (.str "__file__" 173), (.str "/claim/cut.py" 172)⟩, ⟨(PySem.PyData.keyHash P "__cached__"), (.str "__cached__" 174), .none⟩, ⟨(PySem.PyData.keyHash P "_wall"), (.str "_wall" 193), (.ref 21)⟩, ⟨(PySem.PyData.keyHash P "cmp_to_key"), (.str "cmp_to_key" 204), (.ref 28)⟩, ⟨(PySem.PyData.keyHash P "_initial_missing"), (.str "_initial_missing" 205), (.ref 29)⟩, ⟨(PySem.PyData.keyHash P "reduce"), (.str "reduce" 217), (.ref 37)⟩, ⟨(PySem.PyData.keyHash P "_buffer"), (.str "_buffer" 227), (.ref 44)⟩, ⟨(PySem.PyData.keyHash P "_truth"), (.str "_truth" 235), (.ref 51)⟩, ⟨(PySem.PyData.keyHash P "_B64"), (.str "_B64" 237), (.bytes (List.toArray (65 :: 66 :: 67 :: 68 :: 69 :: 70 :: 71 :: 72 :: 73 :: 74 :: 75 :: 76 :: 77 :: 78 :: 79 :: 80 :: 81 :: 82 :: 83 :: 84 :: 85 :: 86 :: 87 :: 88 :: 89 :: 90 :: 97 :: 98 :: 99 :: 100 :: 101 :: 102 :: 103 :: 104 :: 105 :: 106 :: 107 :: 108 :: 109 :: 110 :: 111 :: 112 :: 113 :: 114 :: 115 :: 116 :: 117 :: 118 :: 119 :: 120 :: 121 :: 122 :: 48 :: 49 :: 50 :: 51 :: 52 :: 53 :: 54 :: 55 :: 56 :: 57 :: 43 :: 47 :: [])) 236)⟩, ⟨(PySem.PyData.keyHash P "b2a_base64"), (.str "b2a_base64" 251), (.ref 59)⟩, ⟨(PySem.PyData.keyHash P "b64encode"), (.str "b64encode" 262), (.ref 67)⟩, ⟨(PySem.PyData.keyHash P "standard_b64encode"), (.str "standard_b64encode" 269), (.ref 74)⟩, ⟨(PySem.PyData.keyHash P "Int2AP"), (.str "Int2AP" 281), (.ref 81)⟩, ⟨(PySem.PyData.keyHash P "_law_narrowed"), (.str "_law_narrowed" 293), (.ref 88)⟩, ⟨(PySem.PyData.keyHash P "_law_shortest"), (.str "_law_shortest" 305), (.ref 95)⟩, ⟨(PySem.PyData.keyHash P "_law_written"), (.str "_law_written" 316), (.ref 102)⟩, ⟨(PySem.PyData.keyHash P "_law_next"), (.str "_law_next" 330), (.ref 109)⟩, ⟨(PySem.PyData.keyHash P "_law_read"), (.str "_law_read" 344), (.ref 116)⟩, ⟨(PySem.PyData.keyHash P "_law_gap"), (.str "_law_gap" 354), (.ref 123)⟩, ⟨(PySem.PyData.keyHash P "law"), (.str "law" 360), (.ref 128)⟩] 27), #[]⟩) :: ((nat_lit 6), ⟨(.type "dict"), none, (.dict #[] 0), #[]⟩) :: ((nat_lit 15), ⟨(.type "tuple"), none, (.seq #[] 0), #[]⟩) :: ((nat_lit 17), ⟨(.type "tuple"), none, (.seq #[(.str "k" 190)] 0), #[]⟩) :: ((nat_lit 18), ⟨(.type "tuple"), none, (.seq #[] 0), #[]⟩) :: ((nat_lit 20), ⟨(.type "code"), none, (.fields #[(.str "_wall" 187), (.str "_wall" 188), (.str "/claim/cut.py" 189), (.int 1 0), (.int 1 0), (.int 0 0), (.int 0 0), (.int 3 0), (.ref 15), (.bool true), (.int 181 0), (.ref 16), .none, (.ref 17), (.ref 18), (.ref 19), (.int 191 0), (.int 1 0), (.str "/claim/cut.py" 192)]), #[]⟩) :: ((nat_lit 21), ⟨(.type "function"), none, (.func d0), #[]⟩) :: ((nat_lit 22), ⟨(.type "tuple"), none, (.seq #[] 0), #[]⟩) :: ((nat_lit 24), ⟨(.type "tuple"), none, (.seq #[(.str "mycmp" 199), (.str "K" 200)] 0), #[]⟩) :: ((nat_lit 25), ⟨(.type "tuple"), none, (.seq #[(.str "mycmp" 201)] 0), #[]⟩) :: ((nat_lit 27), ⟨(.type "code"), none, (.fields #[(.str "cmp_to_key" 196), (.str "cmp_to_key" 197), (.str "/claim/cut.py" 198), (.int 5 0), (.int 1 0), (.int 0 0), (.int 0 0), (.int 3 0), (.ref 22), (.bool true), (.int 181 0), (.ref 23), .none, (.ref 24), (.ref 25), (.ref 26), (.int 202 0), (.int 5 0), (.str "/claim/cut.py" 203)]), #[]⟩) :: ((nat_lit 28), ⟨(.type "function"), none, (.func d1), #[]⟩) :: ((nat_lit 29), ⟨(.type "object"), none, .plain, #[]⟩) :: ((nat_lit 30), ⟨(.type "tuple"), none, (.seq #[(.ref 29)] 0), #[]⟩) :: ((nat_lit 31), ⟨(.type "tuple"), none, (.seq #[] 0), #[]⟩) :: ((nat_lit 33), ⟨(.type "tuple"), none, (.seq #[(.str "function" 209), (.str "sequence" 210), (.str "initial" 211), (.str "it" 212), (.str "value" 213), (.str "element" 214)] 0), #[]⟩) :: ((nat_lit 34), ⟨(.type "tuple"), none, (.seq #[] 0), #[]⟩) :: ((nat_lit 36), ⟨(.type "code"), none, (.fields #[(.str "reduce" 206), (.str "reduce" 207), (.str "/claim/cut.py" 208), (.int 31 0), (.int 3 0), (.int 0 0), (.int 0 0), (.int 3 0), (.ref 31), (.bool true), (.int 181 0), (.ref 32), .none, (.ref 33), (.ref 34), (.ref 35), (.int 215 0), (.int 31 0), (.str "/claim/cut.py" 216)]), #[]⟩) :: ((nat_lit 37), ⟨(.type "function"), none, (.func d2), #[]⟩) :: ((nat_lit 38), ⟨(.type "tuple"), none, (.seq #[] 0), #[]⟩) :: ((nat_lit 40), ⟨(.type "tuple"), none, (.seq #[(.str "data" 223), (.str "t" 224)] 0), #[]⟩) :: ((nat_lit 41), ⟨(.type "tuple"), none, (.seq #[] 0), #[]⟩) :: ((nat_lit 43), ⟨(.type "code"), none, (.fields #[(.str "_buffer" 220), (.str "_buffer" 221), (.str "/claim/cut.py" 222), (.int 44 0), (.int 1 0), (.int 0 0), (.int 0 0), (.int 3 0), (.ref 38), (.bool true), (.int 181 0), (.ref 39), .none, (.ref 40), (.ref 41), (.ref 42), (.int 225 0), (.int 44 0), (.str "/claim/cut.py" 226)]), #[]⟩) :: ((nat_lit 44), ⟨(.type "function"), none, (.func d3), #[]⟩) :: ((nat_lit 45), ⟨(.type "tuple"), none, (.seq #[] 0), #[]⟩) :: ((nat_lit 47), ⟨(.type "tuple"), none, (.seq #[(.str "x" 231), (.str "t" 232)] 0), #[]⟩) :: ((nat_lit 48), ⟨(.type "tuple"), none, (.seq #[] 0), #[]⟩) :: ((nat_lit 50), ⟨(.type "code"), none, (.fields #[(.str "_truth" 228), (.str "_truth" 229), (.str "/claim/cut.py" 230), (.int 51 0), (.int 1 0), (.int 0 0), (.int 0 0), (.int 3 0), (.ref 45), (.bool true), (.int 181 0), (.ref 46), .none, (.ref 47), (.ref 48), (.ref 49), (.int 233 0), (.int 51 0), (.str "/claim/cut.py" 234)]), #[]⟩) :: ((nat_lit 51), ⟨(.type "function"), none, (.func d4), #[]⟩) :: ((nat_lit 52), ⟨(.type "dict"), none, (.dict #[⟨(PySem.PyData.keyHash P "newline"), (.str "newline" 238), (.bool true)⟩] 1), #[]⟩) :: ((nat_lit 53), ⟨(.type "tuple"), none, (.seq #[] 0), #[]⟩) :: ((nat_lit 55), ⟨(.type "tuple"), none, (.seq #[(.str "data" 242), (.str "newline" 243), (.str "bin_data" 244), (.str "out" 245), (.str "leftbits" 246), (.str "leftchar" 247), (.str "b" 248)] 0), #[]⟩) :: ((nat_lit 56), ⟨(.type "tuple"), none, (.seq #[] 0), #[]⟩) :: ((nat_lit 58), ⟨(.type "code"), none, (.fields #[(.str "b2a_base64" 239), (.str "b2a_base64" 240), (.str "/claim/cut.py" 241), (.int 57 0), (.int 1 0), (.int 1 0), (.int 1 0), (.int 3 0), (.ref 53), (.bool true), (.int 181 0), (.ref 54), .none, (.ref 55), (.ref 56), (.ref 57), (.int 249 0), (.int 57 0), (.str "/claim/cut.py" 250)]), #[]⟩) :: ((nat_lit 59), ⟨(.type "function"), none, (.func d5), #[]⟩) :: ((nat_lit 60), ⟨(.type "tuple"), none, (.seq #[.none] 0), #[]⟩) :: ((nat_lit 61), ⟨(.type "tuple"), none, (.seq #[] 0), #[]⟩) :: ((nat_lit 63), ⟨(.type "tuple"), none, (.seq #[(.str "s" 257), (.str "altchars" 258), (.str "encoded" 259)] 0), #[]⟩) :: ((nat_lit 64), ⟨(.type "tuple"), none, (.seq #[] 0), #[]⟩) :: ((nat_lit 66), ⟨(.type "code"), none, (.fields #[(.str "b64encode" 254), (.str "b64encode" 255), (.str "/claim/cut.py" 256), (.int 80 0), (.int 2 0), (.int 0 0), (.int 0 0), (.int 3 0), (.ref 61), (.bool true), (.int 181 0), (.ref 62), .none, (.ref 63), (.ref 64), (.ref 65), (.int 260 0), (.int 80 0), (.str "/claim/cut.py" 261)]), #[]⟩) :: ((nat_lit 67), ⟨(.type "function"), none, (.func d6), #[]⟩) :: ((nat_lit 68), ⟨(.type "tuple"), none, (.seq #[] 0), #[]⟩) :: ((nat_lit 70), ⟨(.type "tuple"), none, (.seq #[(.str "s" 266)] 0), #[]⟩) :: ((nat_lit 71), ⟨(.type "tuple"), none, (.seq #[] 0), #[]⟩) :: ((nat_lit 73), ⟨(.type "code"), none, (.fields #[(.str "standard_b64encode" 263), (.str "standard_b64encode" 264), (.str "/claim/cut.py" 265), (.int 86 0), (.int 1 0), (.int 0 0), (.int 0 0), (.int 3 0), (.ref 68), (.bool true), (.int 181 0), (.ref 69), .none, (.ref 70), (.ref 71), (.ref 72), (.int 267 0), (.int 86 0), (.str "/claim/cut.py" 268)]), #[]⟩) :: ((nat_lit 74), ⟨(.type "function"), none, (.func d7), #[]⟩) :: ((nat_lit 75), ⟨(.type "tuple"), none, (.seq #[] 0), #[]⟩) :: ((nat_lit 77), ⟨(.type "tuple"), none, (.seq #[(.str "num" 275), (.str "val" 276), (.str "AP" 277), (.str "mod" 278)] 0), #[]⟩) :: ((nat_lit 78), ⟨(.type "tuple"), none, (.seq #[] 0), #[]⟩) :: ((nat_lit 80), ⟨(.type "code"), none, (.fields #[(.str "Int2AP" 272), (.str "Int2AP" 273), (.str "/claim/cut.py" 274), (.int 89 0), (.int 1 0), (.int 0 0), (.int 0 0), (.int 3 0), (.ref 75), (.bool true), (.int 181 0), (.ref 76), .none, (.ref 77), (.ref 78), (.ref 79), (.int 279 0), (.int 89 0), (.str "/claim/cut.py" 280)]), #[]⟩) :: ((nat_lit 81), ⟨(.type "function"), none, (.func d8), #[]⟩) :: ((nat_lit 82), ⟨(.type "tuple"), none, (.seq #[] 0), #[]⟩) :: ((nat_lit 84), ⟨(.type "tuple"), none, (.seq #[(.str "ends" 287), (.str "low" 288), (.str "width" 289), (.str "sign" 290)] 0), #[]⟩) :: ((nat_lit 85), ⟨(.type "tuple"), none, (.seq #[] 0), #[]⟩) :: ((nat_lit 87), ⟨(.type "code"), none, (.fields #[(.str "_law_narrowed" 284), (.str "_law_narrowed" 285), (.str "/claim/cut.py" 286), (.int 98 0), (.int 4 0), (.int 0 0), (.int 0 0), (.int 3 0), (.ref 82), (.bool true), (.int 181 0), (.ref 83), .none, (.ref 84), (.ref 85), (.ref 86), (.int 291 0), (.int 98 0), (.str "/claim/cut.py" 292)]), #[]⟩) :: ((nat_lit 88), ⟨(.type "function"), none, (.func d9), #[]⟩) :: ((nat_lit 89), ⟨(.type "tuple"), none, (.seq #[] 0), #[]⟩) :: ((nat_lit 91), ⟨(.type "tuple"), none, (.seq #[(.str "base" 297), (.str "room" 298), (.str "low" 299), (.str "width" 300), (.str "size" 301), (.str "unit" 302)] 0), #[]⟩) :: ((nat_lit 92), ⟨(.type "tuple"), none, (.seq #[] 0), #[]⟩) :: ((nat_lit 94), ⟨(.type "code"), none, (.fields #[(.str "_law_shortest" 294), (.str "_law_shortest" 295), (.str "/claim/cut.py" 296), (.int 100 0), (.int 4 0), (.int 0 0), (.int 0 0), (.int 3 0), (.ref 89), (.bool true), (.int 181 0), (.ref 90), .none, (.ref 91), (.ref 92), (.ref 93), (.int 303 0), (.int 100 0), (.str "/claim/cut.py" 304)]), #[]⟩) :: ((nat_lit 95), ⟨(.type "function"), none, (.func d10), #[]⟩) :: ((nat_lit 96), ⟨(.type "tuple"), none, (.seq #[] 0), #[]⟩) :: ((nat_lit 98), ⟨(.type "tuple"), none, (.seq #[(.str "base" 309), (.str "size" 310), (.str "number" 311), (.str "word" 312), (.str "whole" 313)] 0), #[]⟩) :: ((nat_lit 99), ⟨(.type "tuple"), none, (.seq #[] 0), #[]⟩) :: ((nat_lit 101), ⟨(.type "code"), none, (.fields #[(.str "_law_written" 306), (.str "_law_written" 307), (.str "/claim/cut.py" 308), (.int 107 0), (.int 3 0), (.int 0 0), (.int 0 0), (.int 3 0), (.ref 96), (.bool true), (.int 181 0), (.ref 97), .none, (.ref 98), (.ref 99), (.ref 100), (.int 314 0), (.int 107 0), (.str "/claim/cut.py" 315)]), #[]⟩) :: ((nat_lit 102), ⟨(.type "function"), none, (.func d11), #[]⟩) :: ((nat_lit 103), ⟨(.type "tuple"), none, (.seq #[] 0), #[]⟩) :: ((nat_lit 105), ⟨(.type "tuple"), none, (.seq #[(.str "ends" 320), (.str "value" 321), (.str "state" 322), (.str "low" 323), (.str "width" 324), (.str "text" 325), (.str "unit" 326), (.str "sign" 327)] 0), #[]⟩) :: ((nat_lit 106), ⟨(.type "tuple"), none, (.seq #[] 0), #[]⟩) :: ((nat_lit 108), ⟨(.type "code"), none, (.fields #[(.str "_law_next" 317), (.str "_law_next" 318), (.str "/claim/cut.py" 319), (.int 113 0), (.int 3 0), (.int 0 0), (.int 0 0), (.int 3 0), (.ref 103), (.bool true), (.int 181 0), (.ref 104), .none, (.ref 105), (.ref 106), (.ref 107), (.int 328 0), (.int 113 0), (.str "/claim/cut.py" 329)]), #[]⟩) :: ((nat_lit 109), ⟨(.type "function"), none, (.func d12), #[]⟩) :: ((nat_lit 110), ⟨(.type "tuple"), none, (.seq #[] 0), #[]⟩) :: ((nat_lit 112), ⟨(.type "tuple"), none, (.seq #[(.str "places" 334), (.str "ends" 335), (.str "base" 336), (.str "written" 337)] 0), #[]⟩) :: ((nat_lit 113), ⟨(.type "tuple"), none, (.seq #[(.str "places" 338), (.str "ends" 339), (.str "base" 340), (.str "value" 341)] 0), #[]⟩) :: ((nat_lit 115), ⟨(.type "code"), none, (.fields #[(.str "_law_read" 331), (.str "_law_read" 332), (.str "/claim/cut.py" 333), (.int 120 0), (.int 4 0), (.int 0 0), (.int 0 0), (.int 3 0), (.ref 110), (.bool true), (.int 181 0), (.ref 111), .none, (.ref 112), (.ref 113), (.ref 114), (.int 342 0), (.int 120 0), (.str "/claim/cut.py" 343)]), #[]⟩) :: ((nat_lit 116), ⟨(.type "function"), none, (.func d13), #[]⟩) :: ((nat_lit 117), ⟨(.type "tuple"), none, (.seq #[] 0), #[]⟩) :: ((nat_lit 119), ⟨(.type "tuple"), none, (.seq #[(.str "places" 348), (.str "one" 349), (.str "other" 350), (.str "k" 351)] 0), #[]⟩) :: ((nat_lit 120), ⟨(.type "tuple"), none, (.seq #[] 0), #[]⟩) :: ((nat_lit 122), ⟨(.type "code"), none, (.fields #[(.str "_law_gap" 345), (.str "_law_gap" 346), (.str "/claim/cut.py" 347), (.int 123 0), (.int 3 0), (.int 0 0), (.int 0 0), (.int 3 0), (.ref 117), (.bool true), (.int 181 0), (.ref 118), .none, (.ref 119), (.ref 120), (.ref 121), (.int 352 0), (.int 123 0), (.str "/claim/cut.py" 353)]), #[]⟩) :: ((nat_lit 123), ⟨(.type "function"), none, (.func d14), #[]⟩) :: ((nat_lit 124), ⟨(.type "tuple"), none, (.seq #[] 0), #[]⟩) :: ((nat_lit 127), ⟨(.type "code"), none, (.fields #[(.str "law" 355), (.str "law" 356), (.str "/claim/cut.py" 357), (.int 128 0), (.int 1 0), (.int 0 0), (.int 0 0), (.int 3 0), (.ref 124), (.bool true), (.int 181 0), (.ref 125), .none, .none, .none, (.ref 126), (.int 358 0), (.int 128 0), (.str "/claim/cut.py" 359)]), #[]⟩) :: ((nat_lit 128), ⟨(.type "function"), none, (.func d15), #[]⟩) :: [])) _ (by dsimp only [fdOf, nthS, pw, PySem.Challenge.pw_oh0006_01]; exact ⟨rfl⟩) _ (by dsimp only [fdOf, nthS, pw, PySem.Challenge.pw_oh0006_01]; exact ⟨rfl⟩) _ (by dsimp only [fdOf, nthS, pw, PySem.Challenge.pw_oh0006_01]; exact ⟨rfl⟩) _ (by dsimp only [fdOf, nthS, pw, PySem.Challenge.pw_oh0006_01]; exact ⟨rfl⟩) _ (by dsimp only [fdOf, nthS, pw, PySem.Challenge.pw_oh0006_01]; exact ⟨rfl⟩) _ (by dsimp only [fdOf, nthS, pw, PySem.Challenge.pw_oh0006_01]; exact ⟨rfl⟩) _ (by dsimp only [fdOf, nthS, pw, PySem.Challenge.pw_oh0006_01]; exact ⟨rfl⟩) _ (by dsimp only [fdOf, nthS, pw, PySem.Challenge.pw_oh0006_01]; exact ⟨rfl⟩) _ (by dsimp only [fdOf, nthS, pw, PySem.Challenge.pw_oh0006_01]; exact ⟨rfl⟩) _ (by dsimp only [fdOf, nthS, pw, PySem.Challenge.pw_oh0006_01]; exact ⟨rfl⟩) _ (by dsimp only [fdOf, nthS, pw, PySem.Challenge.pw_oh0006_01]; exact ⟨rfl⟩) _ (by dsimp only [fdOf, nthS, pw, PySem.Challenge.pw_oh0006_01]; exact ⟨rfl⟩) _ (by dsimp only [fdOf, nthS, pw, PySem.Challenge.pw_oh0006_01]; exact ⟨rfl⟩) _ (by dsimp only [fdOf, nthS, pw, PySem.Challenge.pw_oh0006_01]; exact ⟨rfl⟩) _ (by dsimp only [fdOf, nthS, pw, PySem.Challenge.pw_oh0006_01]; exact ⟨rfl⟩) _ (by dsimp only [fdOf, nthS, pw, PySem.Challenge.pw_oh0006_01]; exact ⟨rfl⟩)

/-- of the program: the statements that the law and what it reaches stand in -/
noncomputable def viewK : Program := { pw with main := { pw.main with body := (fun (l : List Stmt) (_ : Same [nthS pw.main.body 0, nthS pw.main.body 2, nthS pw.main.body 3, nthS pw.main.body 6, nthS pw.main.body 7, nthS pw.main.body 8, nthS pw.main.body 12, nthS pw.main.body 14, nthS pw.main.body 16, nthS pw.main.body 17, nthS pw.main.body 18, nthS pw.main.body 19, nthS pw.main.body 20, nthS pw.main.body 21, nthS pw.main.body 22] l) => l) _ (by dsimp only [nthS, pw, PySem.Challenge.pw_oh0006_01]; exact ⟨rfl⟩) } }
theorem left_once {p q : Program} {loose : List Str} {Xt : Shared → Bool} {α : Type} {Yf : Shared → α} {Ya : World → α} {N : Nat} {g0 : Bool} {H₀ : Params → Heap} {gs₀ : Array GenState} {d₀ : Drawn} {k₀ : Nat} {m₀ : Nat} {ann : Option Value}
    (open_ : ∀ w : World, (fencedOpening treeTable p w N).map (fun s => (s.heap, s.gens, s.drawn, s.toks)) = some (H₀ w.params, gs₀, d₀, k₀))
    (size : ∀ w : World, ((H₀ w.params).isNs mainGlobals && gs₀.size == 0, (H₀ w.params).objs.size, (H₀ w.params).nsMap mainGlobals "__annotations__") = (true, m₀, ann))
    (run : ∀ (w : World) (os : OsState), (topRun treeTable p w m₀ ann N ⟨H₀ w.params, gs₀, d₀, k₀, os⟩ (topStub p)).map (fun s => ((staticsOk (importedModules p.main.body) (H₀ w.params) s.heap && namesBound p s.heap && gensDone s && laidKept (H₀ w.params) s.heap), openSeen q loose (importedModules p.main.body) Xt g0 s, Yf s)) = some (true, openGood q loose, Ya w)) : LeftO p q loose Xt Yf Ya N g0 := fun w => by
  obtain ⟨⟨h, gs, d, k, os⟩, e, e'⟩ := Option.map_eq_some_iff.mp (open_ w)
  obtain ⟨rfl, rfl, rfl, rfl⟩ : h = H₀ w.params ∧ gs = gs₀ ∧ d = d₀ ∧ k = k₀ := by simpa using e'
  obtain ⟨z1, z2, z3⟩ : _ ∧ _ ∧ _ := by simpa only [Prod.mk.injEq] using size w
  obtain ⟨s₁, r, l⟩ := Option.map_eq_some_iff.mp (run w os)
  have l1 : (staticsOk (importedModules p.main.body) (H₀ w.params) s₁.heap && namesBound p s₁.heap && gensDone s₁ && laidKept (H₀ w.params) s₁.heap) = true := congrArg Prod.fst l
  have t : topFrom treeTable p w N ⟨H₀ w.params, gs, d, k, os⟩ = some s₁ := by
    unfold topFrom
    dsimp only
    rw [z1, z2, z3, r]
    show (match staticsOk (importedModules p.main.body) (H₀ w.params) s₁.heap && namesBound p s₁.heap && gensDone s₁ && laidKept (H₀ w.params) s₁.heap with | true => _ | false => _) = _
    rw [l1]
  unfold openEnds
  rw [e]
  show (topFrom treeTable p w N _).map _ = _
  rw [t]
  exact congrArg some (congrArg Prod.snd l)
noncomputable abbrev hookK : Hook := kmHook heapK [2, 3, 6, 15, 17, 18, 20, 21, 22, 24, 25, 27, 28, 29, 30, 31, 33, 34, 36, 37, 38, 40, 41, 43, 44, 45, 47, 48, 50, 51, 52, 53, 55, 56, 58, 59, 60, 61, 63, 64, 66, 67, 68, 70, 71, 73, 74, 75, 77, 78, 80, 81, 82, 84, 85, 87, 88, 89, 91, 92, 94, 95, 96, 98, 99, 101, 102, 103, 105, 106, 108, 109, 110, 112, 113, 115, 116, 117, 119, 120, 122, 123, 124, 127, 128] (fun _ => by kernel_rfl) [111, 23, 125]
noncomputable abbrev looseK : List Str := ["_initial_missing", "reduce", "b2a_base64", "b64encode"]
noncomputable abbrev XtK : Shared → Bool := fun s => xlAt viewK [] s && recOk (RowW.records PySem.Challenge.rw_oh0006_01.row.toRowW) s
theorem left_q (w : World) (os : OsState) : (Fast.tw14082659384304107361 Fast.tw14364793385576792824 pw w 11 (some (.ref 6)) 1324 ⟨boot_heap w.params, #[], boot_drawn, boot_toks, os⟩ (topStub pw)).map (fun s => ((staticsOk (importedModules pw.main.body) (boot_heap w.params) s.heap && namesBound pw s.heap && gensDone s && laidKept (boot_heap w.params) s.heap), Fast.tw4187177175401517315 viewK looseK (importedModules pw.main.body) XtK true s, hookK.obs s)) = some (true, openGood viewK looseK, hookK.val w) := by kernel_rfl
theorem leftK : LeftO PySem.Challenge.rw_oh0006_01.row.toRowW.1 viewK looseK XtK hookK.obs hookK.val 1324 true :=
  left_once (boot_open (by kernel_rfl) (by kernel_rfl) (fun s => by kernel_rfl)) (m₀ := 11) (ann := some (.ref 6)) (fun w => by kernel_rfl) (fun w os => by
    have h := left_q w os
    rw [← Fast.te14082659384304107361, ← Fast.te14364793385576792824, ← Fast.te4187177175401517315] at h
    exact h)


end
section
local macro_rules | `(tactic| omega) => `(tactic| first | lia | omega +splitDisjunctions)
section
/-- the parts of an expression -/
noncomputable def subX : Expr → List Expr
  | .Call f as _ _ => f :: as
  | .Subscript a b _ => [a, b]
  | .Compare l _ rs _ => l :: rs
  | _ => []
/-- the expression of a statement -/
noncomputable def subS : Stmt → List Expr
  | .Assign _ e _ => [e]
  | .Return (some e) _ => [e]
  | .If e _ _ _ => [e]
  | .Expr e _ => [e]
  | _ => []
/-- the body of a statement -/
noncomputable def bodyS : Stmt → List Stmt
  | .FunctionDef _ _ b _ _ _ _ _ _ _ => b
  | .ClassDef _ _ _ b _ _ _ _ _ _ _ => b
  | .For _ _ b _ _ => b
  | _ => []
noncomputable def atX (i : Nat) (l : List Expr) : Expr := l.getD i (.Constant .none 0 ⟨0, 0, 0, 0⟩)
abbrev P := PySem.Challenge.rw_oh0006_01

/-- the whole heap at the call is the callee's ground -/
theorem enterD {prog : Program} {K : Frag} {w : World} {A : Around} {s : Shared} {R : Result → Shared → Prop} {name qual : Str} {params : Arguments} {body : List Stmt} {scope : Scope} {dV kV doc pm cdv ct oc : Value} {an od : Option Addr} {osl : Array (Option Value)} {f : Addr} {args : Args} {binds : List (Str × Value)} {p : Program} {loose : List Str} {mean : ExcName → Option Value} {mg mb : Str → Option Value}
    (X : K.In s.heap) (T : Top p loose mean mg mb s.heap)
    (ho : K.lookup f = some ⟨oc, od, .func (fnOf name qual params body scope dV kV doc pm an cdv ct), osl⟩) (hcd : codeIn K cdv qual = true) (hroom : A.depth < recursionLimit)
    (hbind : BindsTo s (fnOf name qual params body scope dV kV doc pm an cdv ct) args binds) (hloc : ∀ y ∈ binds, scope.names.lookup y.1 = some .local)
    (h : ∀ L' h₁, Fr s.heap L' h₁ (fun y => binds.reverse.lookup y) → News s.heap L' h₁ [] → 
      wpAny (model prog w) (A.deeper (envOf qual scope L' f cdv)) (execs body (envOf qual scope L' f cdv))
        (fun fl s' => R (.ok (.ret (match fl with | .ret v => v | _ => .none))) s')
        (fun _ _ => False)
        { s with heap := h₁, toks := s.toks + binds.length })
    (hco : scope.isCoroutine = false) (hgen : scope.isGenerator = false) (hk : scope.kind = .function)
    (hcell : ∀ x ∈ scope.names, x.2 ≠ .cell) : codeAny (model prog w) A (.call (.ref f) args) R s := by
  refine codeAny_call_def (fd := fnOf name qual params body scope dV kV doc pm an cdv ct) (body := body) (binds := binds) hroom (X _ _ ho) rfl T.nolimit (codeRec_of X hcd) rfl hbind hcell hloc (fun h₁ hns hk₁ => ?_) hco hgen hk
  exact wpAny_mono (h _ h₁ ⟨hns, hk₁, Nat.le_refl _⟩ News.nil) (fun _ _ y => y) fun _ _ y => y.elim

theorem execs_cut {M : Model} {A : Around} {env : Env} {E : Value → Shared → Prop} {Q : Flow → Shared → Prop} (pre post : List Stmt) {s : Shared}
    (h : wpAny M A (execs pre env) (fun fl s' => match fl with | .next => wpAny M A (execs post env) Q E s' | f => Q f s') E s) : wpAny M A (execs (pre ++ post) env) Q E s := by
  intro Γ p hΓ
  have go : ∀ (pre : List Stmt) (p : Pos) (s : Shared), Sem.wp M Γ (execs pre env) (fun fl _ s' => match fl with | .next => wpAny M A (execs post env) Q E s' | f => Q f s') (fun e _ s' => E e s') p s →
      Sem.wp M Γ (execs (pre ++ post) env) (fun fl _ s' => Q fl s') (fun e _ s' => E e s') p s := by
    intro pre
    induction pre with
    | nil => intro p s h; exact h Γ p hΓ
    | cons st r ih =>
      intro p s h
      rw [List.cons_append]
      have e1 : ∀ (l : List Stmt), execs (st :: l) env = (exec st env >>= fun f => match f with | .next => execs l env | f => pure f) := fun l => by rw [execs] <;> rfl
      rw [e1, Sem.wp_bind'] at h
      rw [e1, Sem.wp_bind']
      refine Sem.wp_mono _ Γ _ (fun a p' s' h' => ?_) (fun _ _ _ h' => h') p s h
      cases a with
      | next => exact ih p' s' h'
      | brk => exact h'
      | cont => exact h'
      | ret v => exact h'
  exact go pre p s (h Γ p hΓ)
/-- a stop for the walk: the flow goes on and the word holds -/
noncomputable def Ends (Mid : Shared → Prop) (fl : Flow) (s' : Shared) : Prop := fl = .next ∧ Mid s'
/-- a stop for the walk at a value -/
noncomputable def Gets {α : Type} (Mid : α → Shared → Prop) (v : α) (s' : Shared) : Prop := Mid v s'
theorem execs_mid {M : Model} {A : Around} {env : Env} {E : Value → Shared → Prop} {Q : Flow → Shared → Prop} {body : List Stmt} (n : Nat) (Mid : Shared → Prop) {s : Shared}
    (h1 : wpAny M A (execs (body.take n) env) (Ends Mid) E s) (h2 : ∀ s', Mid s' → wpAny M A (execs (body.drop n) env) Q E s') : wpAny M A (execs body env) Q E s := by
  have := execs_cut (Q := Q) (body.take n) (body.drop n) (wpAny_mono h1 (fun fl s' h => by obtain ⟨rfl, hm⟩ := h; exact h2 s' hm) fun _ _ e => e)
  rwa [List.take_append_drop] at this
/-- the frame's state: the heap h with the frame L over h₀ and a ledger -/
structure At (s : Shared) (h₀ : Heap) (L : Addr) (m : Str → Option Value) (news : List (Addr × Obj)) (s' : Shared) : Prop where
  ex : ∃ h tk, s' = { s with heap := h, toks := tk } ∧ Fr h₀ L h m ∧ News h₀ L h news
noncomputable def Reads (m : Str → Option Value) : List (Str × Value) → Prop
  | [] => True
  | p :: r => m p.1 = some p.2 ∧ Reads m r
theorem Reads.all {m : Str → Option Value} {ps : List (Str × Value)} (h : Reads m ps) : ∀ p ∈ ps, m p.1 = some p.2 := by
  induction ps with
  | nil => intro p hp; cases hp
  | cons q r ih =>
    intro p hp
    rcases List.mem_cons.mp hp with e | e
    · rw [e]; exact h.1
    · exact ih h.2 p e
theorem kstB_self {m : Str → Option Value} {ps : List (Str × Value)} (h : Reads m ps) : kstB m ps = m := funext fun _ => kstB_eq h.all fun _ => rfl
theorem At.of {s : Shared} {h₀ : Heap} {L : Addr} {m : Str → Option Value} {news : List (Addr × Obj)} {ps : List (Str × Value)} {h : Heap} {tk : Nat} (F : Fr h₀ L h m) (N : News h₀ L h news) (e : Reads m ps) : At s h₀ L (kstB m ps) news { s with heap := h, toks := tk } :=
  ⟨h, tk, rfl, by rw [kstB_self e]; exact F, N⟩
theorem fr_kst {h₀ h : Heap} {L : Addr} {m : Str → Option Value} {ps : List (Str × Value)} (F : Fr h₀ L h m) (e : Reads m ps) : Fr h₀ L h (kstB m ps) := by rw [kstB_self e]; exact F
theorem While_ {prog : Program} {w : World} {A : Around} {env : Env} {Q : Flow → Shared → Prop} {test : Expr} {body : List Stmt} {pos : Pos} {s : Shared} (I : Nat → Shared → Prop) (n : Nat) (hI : I n s)
    (turn : ∀ n s, I n s → wpAny (model prog w) A (isTrue test env (eval test env)) (fun b s₂ =>
      if b = true then wpAny (model prog w) A (execs body env) (fun f s₃ => Ends (fun s₄ => ∃ m, m < n ∧ I m s₄) f s₃) (fun _ _ => False) s₂ else Q .next s₂) (fun _ _ => False) s) :
    wpAny (model prog w) A (exec (.While test body [] pos) env) Q (fun _ _ => False) s := by
  refine wpAny_While (codeAny_whileLoop I (fun n s hn => wpAny_mono (turn n s hn) (fun b s₂ h => ?_) fun _ _ e => e.elim) n hI)
  cases b with
  | false => simp only [Bool.false_eq_true, if_false] at h ⊢; exact wpAny_execs_nil h
  | true =>
    simp only [if_true] at h ⊢
    exact wpAny_mono h (fun f s₃ hf => by obtain ⟨rfl, hm⟩ := hf; exact hm) fun _ _ e => e.elim
/-- around a call: nothing handled -/
noncomputable abbrev Aro (dp un : Nat) (fr : Option (List Env)) (gd : Option (List Code)) : Around := { handled := none, depth := dp, frames := fr, guards := gd, units := un }
/-- the contract of a call that keeps the whole heap -/
noncomputable def Calls (w : World) (A : Around) (s : Shared) (f : Value) (args : List Value) (Post : Value → Heap → Prop) : Prop :=
  ∀ (Q E : Value → Shared → Prop), (∀ v h' tk', s.heap.StaysIn h' → Post v h' → Q v { s with heap := h', toks := tk' }) → wpAny (model P.row.prog w) A (call f args) Q E s
section
variable {w : World} {A : Around} {s : Shared} {f : Value} {args : List Value} {Post : Value → Heap → Prop} {Q E : Value → Shared → Prop} {h₀ h h' : Heap} {L r : Addr} {m : Str → Option Value} {news : List (Addr × Obj)} {o : Obj}
theorem Calls.use (c : Calls w A s f args Post) (F : Fr h₀ L s.heap m) (N : News h₀ L s.heap news)
    (k : ∀ v h' tk', Fr h₀ L h' m → News h₀ L h' news → s.heap.StaysIn h' → Post v h' → Q v { s with heap := h', toks := tk' }) : wpAny (model P.row.prog w) A (call f args) Q E s :=
  c Q E fun v h' tk' st hp => k v h' tk' (F.kept st) (N.grown st) st hp
theorem news_take (F : Fr h₀ L h m) (st : h.StaysIn h') (N : News h₀ L h' news) (hr : h.get? r = none) (ho : h'.get? r = some o) : News h₀ L h' ((r, o) :: news) := by
  intro p hp
  rcases List.mem_cons.mp hp with rfl | hp
  · refine ⟨ho, fun e => ?_, ?_⟩
    · obtain ⟨oL, _, _, hL, _⟩ := F.ns
      rw [← e] at hL
      have : h.get? r = some oL := hL
      rw [hr] at this; cases this
    · cases q : h₀.get? r with
      | none => rfl
      | some x => rw [F.keep _ _ q] at hr; cases hr
  · exact N p hp
theorem news_ne (N : News h₀ L h news) (hr : h.get? r = none) : ∀ p ∈ news, p.1 ≠ r := fun p hp e => by
  have := (N p hp).1; rw [e, hr] at this; cases this
end
theorem stays_refl (h : Heap) : h.StaysIn h := fun _ _ e => e
theorem isList_of {h : Heap} {a : Addr} {its : Array Value} {n : Nat} (e : h.get? a = some (listOf its n)) : h.IsList a its := ⟨_, e, rfl, _, rfl⟩
theorem IsList.stays {h h' : Heap} {a : Addr} {its : Array Value} (x : h.IsList a its) (st : h.StaysIn h') : h'.IsList a its := let ⟨o, ho, r⟩ := x; ⟨o, st _ _ ho, r⟩
theorem slice_m {prog : Program} {w : World} {A : Around} {E : Value → Shared → Prop} {s : Shared} {value slice : PySem.Expr} {b : Array UInt8} {t : Tok} {h₀ : Heap} {L : Addr} {m : PySem.Str → Option Value} {news : List (Addr × Obj)} {l u : Value} {lo hi : Option Int} {Q : Value → Shared → Prop}
    (hF : Fr h₀ L s.heap m) (hN : News h₀ L s.heap news) (hl : IsPart l lo) (hu : IsPart u hi) (hz : b.size ≤ 16777216)
    (h : ∀ h' t' k, Fr h₀ L h' m → News h₀ L h' news → Q (.bytes ((b.toList.drop (lo.elim 0 (clipAt b.size))).take (hi.elim b.size (clipAt b.size) - lo.elim 0 (clipAt b.size))).toArray t') { s with heap := h', toks := k })
    (hs : subscripted slice false (.bytes b t) (.ref s.heap.objs.size) = operate [.ref s.heap.objs.size, .bytes b t] (getItem (.bytes b t) (.ref s.heap.objs.size)) := by with_unfolding_all rfl)
    (ht : ∀ r, letTemporaryGo value (.bytes b t) r = pure () := by intro _; with_unfolding_all rfl) :
    wpAny (model prog w) A (subscriptTail value slice (.bytes b t) (.ref s.heap.objs.size)) Q E { s with heap := s.heap.push { cls := .type "slice", data := .fields #[l, u, .none] } } :=
  KBc.slice_K hF hN rfl hl hu (by rw [KBw.ints_length]; exact hz) (fun h' t' k F N _ => by rw [KBc.picked_eq]; exact h h' t' k F N) hs ht


end
section
/-- a turn's way out -/
noncomputable def LoopOut (Q : Flow → Shared → Prop) (K : Shared → Prop) (f : Flow) (s : Shared) : Prop :=
  match f with
  | .ret v => Q (.ret v) s
  | .brk => Q .next s
  | _ => K s
/-- a stop for the walk: the flow goes on with the word, or leaves -/
noncomputable def EndsQ (Mid : Shared → Prop) (Q : Flow → Shared → Prop) (fl : Flow) (s' : Shared) : Prop :=
  match fl with
  | .next => Mid s'
  | f => Q f s'
theorem execs_midQ {M : Model} {A : Around} {env : Env} {E : Value → Shared → Prop} {Q : Flow → Shared → Prop} {body : List Stmt} (n : Nat) (Mid : Shared → Prop) {s : Shared}
    (h1 : wpAny M A (execs (body.take n) env) (EndsQ Mid Q) E s) (h2 : ∀ s', Mid s' → wpAny M A (execs (body.drop n) env) Q E s') : wpAny M A (execs body env) Q E s := by
  have := execs_cut (Q := Q) (body.take n) (body.drop n) (wpAny_mono h1 (fun fl s' h => by cases fl <;> first | exact h2 s' h | exact h) fun _ _ e => e)
  rwa [List.take_append_drop] at this
section
variable {prog : Program} {w : World} {A : Around} {E : Value → Shared → Prop} {s : Shared} {env : Env} {h₀ : Heap} {L : Addr} {target : Expr} {body : List Stmt} {Q : Flow → Shared → Prop}
theorem fr_wr {h h' : Heap} {I : Addr} {m : Str → Option Value} (F : Fr h₀ L h m) (hI0 : h₀.get? I = none) (hIL : I ≠ L) (k : ∀ b o, b ∉ [I] → h.get? b = some o → h'.get? b = some o) : Fr h₀ L h' m := by
  obtain ⟨oL, a1, a2, hL, a3⟩ := F.ns
  refine ⟨⟨oL, a1, a2, k _ _ (fun q => hIL (List.mem_singleton.mp q).symm) hL, a3⟩, fun b o e => k b o (fun q => ?_) (F.keep b o e), F.above⟩
  rw [List.mem_singleton.mp q, hI0] at e; cases e
theorem news_wr {h h' : Heap} {I : Addr} {news : List (Addr × Obj)} (N : News h₀ L h news) (hNI : ∀ p ∈ news, p.1 ≠ I) (k : ∀ b o, b ∉ [I] → h.get? b = some o → h'.get? b = some o) : News h₀ L h' news :=
  fun p hp => ⟨k _ _ (fun q => hNI p hp (List.mem_singleton.mp q)) (N p hp).1, (N p hp).2⟩
theorem loopW {I : Addr} {fp : List Addr} {n : Nat} {P : Nat → Value → Prop} {St : Nat → Heap → Prop} {m₀ : Str → Option Value} {news : List (Addr × Obj)} (W : Walks prog w A I fp [I] n P St)
    (J : Nat → (Str → Option Value) → List (Addr × Obj) → Prop) (hI0 : h₀.get? I = none) (hIL : I ≠ L) (hst : St 0 s.heap) (F : Fr h₀ L s.heap m₀) (N : News h₀ L s.heap news) (hNI : ∀ p ∈ news, p.1 ≠ I) (hJ : J 0 m₀ news)
    (turn : ∀ i v m₁ news₁ h tk, i < n → P i v → J i m₁ news₁ → St (i + 1) h → Fr h₀ L h m₁ → News h₀ L h news₁ → (∀ p ∈ news₁, p.1 ≠ I) →
      wpAny (model prog w) A (assign target env v) (fun _ s₂ => wpAny (model prog w) A (execs body env) (LoopOut Q fun s₃ => ∃ h' tk' m' nx, s₃ = { s with heap := h', toks := tk' } ∧ St (i + 1) h' ∧ Fr h₀ L h' m' ∧ News h₀ L h' nx ∧ (∀ p ∈ nx, p.1 ≠ I) ∧ J (i + 1) m' nx)
        (fun _ _ => False) s₂) (fun _ _ => False) { s with heap := h, toks := tk })
    (done : ∀ m₁ news₁ h tk, J n m₁ news₁ → Fr h₀ L h m₁ → News h₀ L h news₁ → Q .next { s with heap := h, toks := tk })
    (ht : ∀ v, letOwnedTupleGo target (.ref I) v = pure () := by intro _; rfl) :
    codeAny (model prog w) A (.forLoop target (.ref I) body [] env) (fun r s' => match r with | .ok f => Q f s' | .error e => cameBackBy (model prog w) A env E e s') s := by
  refine codeAny_forLoop (fun k s' => ∃ i h tk m₁ news₁, i ≤ n ∧ k = n - i ∧ s' = { s with heap := h, toks := tk } ∧ St i h ∧ Fr h₀ L h m₁ ∧ News h₀ L h news₁ ∧ (∀ p ∈ news₁, p.1 ≠ I) ∧ J i m₁ news₁) ?_ n
    ⟨0, s.heap, s.toks, m₀, news, Nat.zero_le _, rfl, rfl, hst, F, N, hNI, hJ⟩ ht
  rintro k s' ⟨i, h, tk, m₁, news₁, hin, rfl, rfl, hst', F', N', hNI', hJ'⟩
  by_cases hlt : i < n
  · refine W.item i _ _ _ hlt hst' fun v h' tk' hP hst'' hk => ?_
    have F'' : Fr h₀ L h' m₁ := fr_wr F' hI0 hIL hk
    have N'' : News h₀ L h' news₁ := news_wr N' hNI' hk
    refine wpAny_mono (turn i v m₁ news₁ h' tk' hlt hP hJ' hst'' F'' N'' hNI') (fun _ s₂ h₂ => wpAny_mono h₂ (fun f s₃ h₃ => ?_) fun _ _ e => e.elim) fun _ _ e => e.elim
    cases f with
    | next => obtain ⟨h3, tk3, m3, nx, e3, a1, a2, a3, a4, a5⟩ := h₃; exact ⟨n - (i + 1), Nat.sub_succ_lt_self _ _ hlt, i + 1, h3, tk3, m3, nx, hlt, rfl, e3, a1, a2, a3, a4, a5⟩
    | cont => obtain ⟨h3, tk3, m3, nx, e3, a1, a2, a3, a4, a5⟩ := h₃; exact ⟨n - (i + 1), Nat.sub_succ_lt_self _ _ hlt, i + 1, h3, tk3, m3, nx, hlt, rfl, e3, a1, a2, a3, a4, a5⟩
    | brk => exact h₃
    | ret v => exact h₃
  · have : i = n := by omega
    subst this
    refine W.done _ _ _ hst' fun h' tk' hk => ?_
    exact wpAny_execs_nil (done m₁ news₁ h' tk' hJ' (fr_wr F' hI0 hIL hk) (news_wr N' hNI' hk))

/-- the object of a range's iterator -/
noncomputable abbrev rangeIt (x left : Int) : Obj := { cls := .type "range_iterator", data := .fields #[rawInt x, rawInt left, rawInt 1] }
/-- for over range(n), any target -/
theorem forRange {iter : Expr} {pos : Pos} (Mid : Value → Shared → Prop)
    (hiter : wpAny (model prog w) A (eval iter env) (Gets Mid) (fun _ _ => False) s)
    (hmid : ∀ v s₁, Mid v s₁ → ∃ r n t₀ u₀ v₀ m₀ news, v = .ref r ∧ IsRange s₁.heap r 0 (n : Nat) 1 t₀ u₀ v₀ ∧ n < 1000000 ∧ A.handled = none ∧ Fr h₀ L s₁.heap m₀ ∧ News h₀ L s₁.heap news ∧
      ∃ J : Nat → (Str → Option Value) → List (Addr × Obj) → Prop, J 0 m₀ news ∧
      (∀ i t m₁ news₁ h tk I it, i < n → J i m₁ news₁ → Fr h₀ L h m₁ → News h₀ L h ((I, it) :: news₁) → (∀ p ∈ news₁, p.1 ≠ I) →
        wpAny (model prog w) A (assign target env (.int (i : Nat) t)) (fun _ s₂ => wpAny (model prog w) A (execs body env) (LoopOut Q fun s₃ => ∃ h' tk' m' nx, s₃ = { s₁ with heap := h', toks := tk' } ∧ h'.get? I = some it ∧ Fr h₀ L h' m' ∧ News h₀ L h' nx ∧ (∀ p ∈ nx, p.1 ≠ I) ∧ J (i + 1) m' nx)
          (fun _ _ => False) s₂) (fun _ _ => False) { s₁ with heap := h, toks := tk }) ∧
      (∀ m₁ news₁ h tk, J n m₁ news₁ → Fr h₀ L h m₁ → News h₀ L h news₁ → Q .next { s₁ with heap := h, toks := tk }))
    (ht : ∀ I v, letOwnedTupleGo target (.ref I) v = pure () := by intro _ _; rfl)
    (hs : ∀ x, foldedSetIterable iter env x = pure x := by intro _; rfl) :
    wpAny (model prog w) A (exec (.For target iter body [] pos) env) Q (fun _ _ => False) s := by
  refine wpAny_For (wpAny_mono hiter (fun v s₁ hm => ?_) fun _ _ e => e) hs
  obtain ⟨r, n, t₀, u₀, v₀, m₀, news, rfl, hr, hn, hh, F, N, J, hJ, turn, done⟩ := hmid v s₁ hm
  have hsz : Builtin.Range.rangeSize 0 (n : Int) 1 = (n : Int) := by
    unfold Builtin.Range.rangeSize
    rw [if_pos (by decide)]
    split <;> omega
  refine wpAny_pyIter_range hr (by unfold Builtin.Range.small Builtin.Range.rangeFitsLong; rw [hsz]; simp only [Bool.and_eq_true, Bool.or_eq_true, decide_eq_true_eq, beq_iff_eq, ge_iff_le, gt_iff_lt]; refine ⟨⟨⟨⟨by decide, ?_⟩, by decide⟩, ?_⟩, .inr ?_⟩ <;> (try rw [if_pos (by decide)]) <;> (try simp only [Bool.and_eq_true, decide_eq_true_eq]) <;> omega) ?_
  rw [hsz]
  have W := (Walks.range (prog := prog) (w := w) hh s₁.heap.objs.size 0 1 n)
  have hI0 := next_is_new F
  have hIL : s₁.heap.objs.size ≠ L := Nat.ne_of_gt F.ns.lt
  refine loopW W J hI0 hIL ?_ (F.push _) (fun p hp => ⟨Heap.get?_push_of_some _ (N p hp).1, (N p hp).2⟩) (fun p hp => Nat.ne_of_lt (Heap.lt_size (N p hp).1)) hJ ?_ ?_ (ht _)
  · show IsRangeIter _ _ _ _ _
    simpa using Heap.get?_push_size _ rfl
  · rintro i v m₁ news₁ h tk hin ⟨t, rfl⟩ hJi hst' F' N' hNI
    have e1 : (0 : Int) + (i : Int) * 1 = (i : Nat) := by omega
    rw [e1]
    refine wpAny_mono (turn i t m₁ news₁ h tk s₁.heap.objs.size { cls := .type "range_iterator", dict := none, data := .fields #[rawInt (0 + ((i + 1 : Nat) : Int) * 1), rawInt ((n : Int) - ((i + 1 : Nat) : Int)), rawInt 1], slots := #[] } hin hJi F' (fun p hp => ?_) hNI) (fun _ s₂ h₂ => wpAny_mono h₂ (fun f s₃ h₃ => ?_) fun _ _ e => e) fun _ _ e => e
    · rcases List.mem_cons.mp hp with rfl | hp
      · exact ⟨hst', hIL, hI0⟩
      · exact N' p hp
    · cases f with
      | next => obtain ⟨h3, tk3, m3, nx, e3, a1, a2, a3, a4, a5⟩ := h₃; exact ⟨h3, tk3, m3, nx, e3, a1, a2, a3, a4, a5⟩
      | cont => obtain ⟨h3, tk3, m3, nx, e3, a1, a2, a3, a4, a5⟩ := h₃; exact ⟨h3, tk3, m3, nx, e3, a1, a2, a3, a4, a5⟩
      | brk => exact h₃
      | ret v => exact h₃
  · intro m₁ news₁ h tk hJn F' N'
    exact done m₁ news₁ h tk hJn F' N'
end


end
section
section
variable {prog : Program} {w : World} {A : Around} {s : Shared} {R : Result → Shared → Prop} {p : Program} {loose : List Str} {mean : ExcName → Option Value} {mg mb : Str → Option Value}
/-- a lambda's call: the whole heap is its ground -/
theorem enterL {name qual : Str} {params : Arguments} {body : Expr} {scope : Scope} {cl : List (Str × Addr)} {pm ctv : Value} {c' : Addr} {f : Addr} {args : Args} {binds : List (Str × Value)}
    (T : Top p loose mean mg mb s.heap) (ho : s.heap.get? f = some (kla_obj name qual params body scope cl pm c' ctv)) (hcd : s.heap.CodeRec (.ref c') qual) (hroom : A.depth < recursionLimit)
    (hbind : bindArgs (kla_fn name qual params body scope cl pm (.ref c') ctv) args = pure binds) (hloc : ∀ y ∈ binds, scope.names.lookup y.1 = some .local)
    (h : ∀ L' h₁, Fr s.heap L' h₁ (fun y => binds.reverse.lookup y) → News s.heap L' h₁ [] →
      wpAny (model prog w) (A.deeper (envX qual scope L' f (.ref c') cl)) (eval body (envX qual scope L' f (.ref c') cl)) (fun v s' => R (.ok (.ret v)) s') (fun _ _ => False) { s with heap := h₁, toks := s.toks + binds.length })
    (hco : scope.isCoroutine = false) (hgen : scope.isGenerator = false) (hk : scope.kind = .function)
    (hcell : ∀ x ∈ scope.names, x.2 ≠ .cell) : codeAny (model prog w) A (.call (.ref f) args) R s := by
  refine kla_callFunE hroom ho rfl hco hgen rfl hcd ?_
  rw [hbind]
  refine wpAny_pure (wpAny_newFunctionEnv hcell hloc (fun h₁ hns hsb => ⟨T.nolimit.fresh _ hsb, ?_⟩) hk)
  show codeAny _ _ (.expr body (envX qual scope s.heap.objs.size f (.ref c') cl)) _ _
  have hk₁ : ∀ b o, s.heap.get? b = some o → h₁.get? b = some o := fun b o e => hsb.extBut b o (Nat.ne_of_lt (Heap.lt_size e)) (Heap.get?_push_of_some _ e)
  exact kla_codeExpr (wpAny_mono (h s.heap.objs.size h₁ ⟨hns, hk₁, Nat.le_refl _⟩ News.nil) (fun _ _ x => x) fun _ _ y => y.elim)
/-- a call of a def with cells: the heap without the tables is its ground -/
theorem enterC {K : Frag} {name qual : Str} {params : Arguments} {body : List Stmt} {scope : Scope} {dV kV doc pm cdv ct oc : Value} {an od : Option Addr} {osl : Array (Option Value)} {f : Addr} {args : Args} {binds : List (Str × Value)} (tabs : List (Addr × Obj))
    (htabs : ∀ q ∈ tabs, s.heap.get? q.1 = some q.2)
    (X : K.In s.heap) (T : Top p loose mean mg mb s.heap) (ho : K.lookup f = some ⟨oc, od, .func (fnX name qual params body scope [] dV kV doc pm an cdv ct), osl⟩) (hcd : codeIn K cdv qual = true) (hroom : A.depth < recursionLimit)
    (hbind : BindsTo s (fnX name qual params body scope [] dV kV doc pm an cdv ct) args binds)
    (hkind : ∀ n, ∀ x ∈ binds, scope.names.lookup x.1 = some .local ∨ (scope.names.lookup x.1 = some .cell ∧ ((cellsFrom n scope.names []).lookup x.1).isSome = true))
    (hnd : ((cellsFrom 0 scope.names []).map (·.1)).Nodup)
    (h : ∀ L' h₁ tk cells, Fr (hideAll s.heap (tabs.map (·.1))) L' h₁ (bindL (envOfC qual scope L' f cdv).kindOf binds fun _ => none) → News (hideAll s.heap (tabs.map (·.1))) L' h₁ (cells ++ tabs) →
      CellsAre (bindC (envOfC qual scope L' f cdv).kindOf binds fun _ => none) (cellsFrom (L' + 1) scope.names []) cells → (∀ q ∈ tabs, q.1 < L') →
      wpAny (model prog w) (A.deeper (envOfC qual scope L' f cdv)) (execs body (envOfC qual scope L' f cdv))
        (fun fl s' => R (.ok (.ret (match fl with | .ret v => v | _ => .none))) s') (fun _ _ => False) { s with heap := h₁, toks := tk })
    (hco : scope.isCoroutine = false) (hgen : scope.isGenerator = false) (hk : scope.kind = .function) : codeAny (model prog w) A (.call (.ref f) args) R s := by
  refine codeAny_call_function (fd := fnX name qual params body scope [] dV kV doc pm an cdv ct) hroom (X _ _ ho) rfl hco hgen rfl (codeRec_of X hcd) (hbind _ _ _ _ ?_)
  refine wpAny_newFunctionEnv_cells hk (hkind _) fun env' he s' x => ?_
  subst he
  refine ⟨T.nolimit.keeps x.toInCall.keep, codeAny_func ?_⟩
  obtain ⟨h₁, tk, rfl, _⟩ := x.done
  have hk₁ := x.toInCall.keep
  obtain ⟨cells, NC, Y⟩ := Cl.news (h₀ := s.heap) (Nat.le_refl _) fun n c hm => ⟨x.cell n c (lookup_of_mem_nodup (cellsFrom_names scope.names 0 (s.heap.objs.size + 1) [] [] rfl ▸ hnd) hm), x.above n c hm⟩
  refine wpAny_mono (h s.heap.objs.size h₁ tk cells ⟨x.toInCall.ns, fun b o e => hk₁ b o (of_hideAll _ e), Nat.le_of_eq (hideAll_size _ _)⟩ (fun q hq => ?_) Y (fun q hq => Heap.lt_size (htabs q hq))) (fun fl s' hl => hl) fun _ _ y => y.elim
  rcases List.mem_append.mp hq with hq | hq
  · refine ⟨(NC q hq).1, (NC q hq).2.1, ?_⟩
    cases e : (hideAll s.heap (tabs.map (·.1))).get? q.1 with
    | none => rfl
    | some o => have := of_hideAll _ e; rw [(NC q hq).2.2] at this; cases this
  · exact ⟨hk₁ _ _ (htabs q hq), Nat.ne_of_lt (Heap.lt_size (htabs q hq)), hideAll_none _ (List.mem_map_of_mem hq)⟩
/-- a free name by the cell in the ground -/
theorem nameX_H {M : Model} {E : Value → Shared → Prop} {h₀ : Heap} {L a : Addr} {m : Str → Option Value} {cn : Str} {cs : Scope} {ccd : Value} {cl : List (Str × Addr)} {x : Str} {pos : Pos} {v : Value} {Q : Value → Shared → Prop} {c : Addr} {o : Obj}
    (F : Fr h₀ L s.heap m) (hc : cl.lookup x = some c) (hv : h₀.get? c = some o) (hd : o.data = .cell (some v)) (h : Q v s)
    (hk : cs.kind = .function := by rfl) (hx : (envX cn cs L a ccd cl).kindOf x = some .free := by rfl) (hb : (x == ("__debug__" : Str)) = false := by decide) (hn : (x == ("__classdict__" : Str)) = false := by decide) :
    wpAny M A (eval (.Name x pos) (envX cn cs L a ccd cl)) Q E s := wpAny_Name (wpAny_loadName_free hk hx hc ⟨o, F.keep _ _ hv, hd⟩ h hn) hb
end


end
section
/-- the letters of base 64 -/
noncomputable def alph : List UInt8 := [65, 66, 67, 68, 69, 70, 71, 72, 73, 74, 75, 76, 77, 78, 79, 80, 81, 82, 83, 84, 85, 86, 87, 88, 89, 90, 97, 98, 99, 100, 101, 102, 103, 104, 105, 106, 107, 108, 109, 110, 111, 112, 113, 114, 115, 116, 117, 118, 119, 120, 121, 122, 48, 49, 50, 51, 52, 53, 54, 55, 56, 57, 43, 47]
noncomputable def letter (d : Int) : UInt8 := alph.getD d.toNat 0
noncomputable def raw1 (x : Int) : Int := Builtin.bitAnd (Builtin.bitOr (0 * 2 ^ (8 : Int).toNat) x) 65535
noncomputable def raw2 (x y : Int) : Int := Builtin.bitAnd (Builtin.bitOr (raw1 x * 2 ^ (8 : Int).toNat) y) 65535
noncomputable def raw3 (x y z : Int) : Int := Builtin.bitAnd (Builtin.bitOr (raw2 x y * 2 ^ (8 : Int).toNat) z) 65535
noncomputable def b64raw (x y z : Int) : List Int := [
  ((alph.getD (Builtin.bitAnd ((raw1 x).fdiv (2 ^ (0 + 8 - 6 : Int).toNat)) 63).toNat 0).toNat : Int),
  ((alph.getD (Builtin.bitAnd ((raw2 x y).fdiv (2 ^ (0 + 8 - 6 + 8 - 6 : Int).toNat)) 63).toNat 0).toNat : Int),
  ((alph.getD (Builtin.bitAnd ((raw3 x y z).fdiv (2 ^ (0 + 8 - 6 + 8 - 6 + 8 - 6 : Int).toNat)) 63).toNat 0).toNat : Int),
  ((alph.getD (Builtin.bitAnd ((raw3 x y z).fdiv (2 ^ (0 + 8 - 6 + 8 - 6 + 8 - 6 - 6 : Int).toNat)) 63).toNat 0).toNat : Int)]
theorem or8 {a b : Int} (ha : 0 ≤ a) (h0 : 0 ≤ b) (h1 : b < 256) : Builtin.bitOr (a * 2 ^ (8 : Int).toNat) b = a * 256 + b := by
  obtain ⟨m, rfl⟩ := Int.eq_ofNat_of_zero_le ha
  obtain ⟨n, rfl⟩ := Int.eq_ofNat_of_zero_le h0
  have h2 : n < 2 ^ 8 := by omega
  have e1 : ((m : Int) * 2 ^ (8 : Int).toNat) = ((m * 256 : Nat) : Int) := by
    show (m : Int) * 2 ^ 8 = _
    rw [Int.natCast_mul]; rfl
  rw [e1]
  have e2 : ∀ p q : Nat, Builtin.bitOr (p : Int) (q : Int) = ((p ||| q : Nat) : Int) := by
    intro p q
    unfold Builtin.bitOr Builtin.bitAnd Builtin.bitNot
    have hp : ¬ (-(p : Int) - 1 ≥ 0) := by omega
    have hq : ¬ (-(q : Int) - 1 ≥ 0) := by omega
    have ep : (-(-(p : Int) - 1) - 1).toNat = p := by omega
    have eq : (-(-(q : Int) - 1) - 1).toNat = q := by omega
    simp only [hp, hq, decide_false, ep, eq]
    omega
  rw [e2]
  have e3 := Nat.shiftLeft_add_eq_or_of_lt h2 m
  rw [Nat.shiftLeft_eq] at e3
  have e4 : m * 256 ||| n = m * 256 + n := e3.symm
  rw [e4]; omega
theorem letter_byte (d : Int) : UInt8.ofNat ((((letter d).toNat : Nat) : Int).toNat) = letter d := by
  rw [Int.toNat_natCast]; exact UInt8.ofNat_toNat
theorem dd (x : Int) {b c : Int} (hb : 0 ≤ b) : x / (b * c) = x / b / c := (Int.ediv_ediv_of_nonneg hb).symm
theorem dm (x : Int) {b c : Int} (hc : 0 < c) : x * c / (b * c) = x / b := Int.mul_ediv_mul_of_pos_left x b hc
theorem da (x y : Int) {c : Int} (h0 : 0 ≤ y) (h1 : y < c) : (x * c + y) / c = x := by
  rw [Int.add_comm, Int.add_mul_ediv_right _ _ (by omega), Int.ediv_eq_zero_of_lt h0 h1, Int.zero_add]
theorem i1_ {x r : Int} (h0 : 0 ≤ r) (h1 : r < 65536) : (x * 65536 + r) / 262144 = x / 4 := by
  rw [show (262144 : Int) = 65536 * 4 from rfl, dd _ (by decide), da _ _ h0 h1]
theorem i2_ {x r : Int} (h0 : 0 ≤ r) (h1 : r < 256) : (x * 256 + r) / 4096 = x / 16 := by
  rw [show (4096 : Int) = 256 * 16 from rfl, dd _ (by decide), da _ _ h0 h1]
theorem i4_ (w : Int) : w % 65536 % 64 = w % 64 := Int.emod_emod_of_dvd w (by decide)
theorem i3_ (w : Int) : w % 65536 / 64 % 64 = w / 64 % 64 := by
  have e : w / 64 = w % 65536 / 64 + (16 * (w / 65536)) * 64 := by
    conv => lhs; rw [← Int.emod_add_mul_ediv w 65536]
    rw [show (65536 : Int) * (w / 65536) = (1024 * (w / 65536)) * 64 from by omega, Int.add_mul_ediv_right _ _ (by decide)]
    omega
  rw [e, Int.add_mul_emod_self_right]
theorem b64raw_eq {x y z : Int} (x0 : 0 ≤ x) (x1 : x < 256) (y0 : 0 ≤ y) (y1 : y < 256) (z0 : 0 ≤ z) (z1 : z < 256) :
    byteArr (b64raw x y z) = List.toArray [letter ((x * 65536 + y * 256 + z) / 262144 % 64), letter ((x * 65536 + y * 256 + z) / 4096 % 64), letter ((x * 65536 + y * 256 + z) / 64 % 64), letter ((x * 65536 + y * 256 + z) % 64)] := by
  have r1 : raw1 x = x := by
    unfold raw1; rw [or8 (by omega) x0 x1, bitAnd_m16]; omega
  have r2 : raw2 x y = x * 256 + y := by
    unfold raw2; rw [r1, or8 x0 y0 y1, bitAnd_m16]; omega
  have r3 : raw3 x y z = ((x * 256 + y) * 256 + z) % 65536 := by
    unfold raw3; rw [r2, or8 (by omega) z0 z1, bitAnd_m16]
  unfold b64raw byteArr
  simp only [List.map_cons, List.map_nil, r1, r2, r3, bitAnd_m6]
  have p1 : (2 : Int) ^ (0 + 8 - 6 : Int).toNat = 4 := by decide
  have p2 : (2 : Int) ^ (0 + 8 - 6 + 8 - 6 : Int).toNat = 16 := by decide
  have p3 : (2 : Int) ^ (0 + 8 - 6 + 8 - 6 + 8 - 6 : Int).toNat = 64 := by decide
  have p4 : (2 : Int) ^ (0 + 8 - 6 + 8 - 6 + 8 - 6 - 6 : Int).toNat = 1 := by decide
  rw [p1, p2, p3, p4]
  have f1 : ∀ (a : Int), Int.fdiv a 4 = a / 4 := fun a => Int.fdiv_eq_ediv_of_nonneg a (by decide)
  have f2 : ∀ (a : Int), Int.fdiv a 16 = a / 16 := fun a => Int.fdiv_eq_ediv_of_nonneg a (by decide)
  have f3 : ∀ (a : Int), Int.fdiv a 64 = a / 64 := fun a => Int.fdiv_eq_ediv_of_nonneg a (by decide)
  have f4 : ∀ (a : Int), Int.fdiv a 1 = a := fun a => Int.fdiv_one a
  rw [f1, f2, f3, f4]
  have ew : x * 65536 + y * 256 + z = (x * 256 + y) * 256 + z := by omega
  have ex : x * 65536 + y * 256 + z = x * 65536 + (y * 256 + z) := by omega
  have i1 : x / 4 % 64 = (x * 65536 + y * 256 + z) / 262144 % 64 := by rw [ex, i1_ (by omega) (by omega)]
  have i2 : (x * 256 + y) / 16 % 64 = (x * 65536 + y * 256 + z) / 4096 % 64 := by rw [ew, i2_ z0 z1]
  have i3 : ((x * 256 + y) * 256 + z) % 65536 / 64 % 64 = (x * 65536 + y * 256 + z) / 64 % 64 := by rw [ew, i3_]
  have i4 : ((x * 256 + y) * 256 + z) % 65536 % 64 = (x * 65536 + y * 256 + z) % 64 := by rw [ew, i4_]
  rw [i1, i2, i3, i4]
  have lb := fun d => letter_byte d
  unfold letter at lb ⊢
  show List.toArray [UInt8.ofNat _, UInt8.ofNat _, UInt8.ofNat _, UInt8.ofNat _] = _
  rw [lb, lb, lb, lb]


end
section
section
variable {prog : Program} {w : World} {A : Around} {E : Value → Shared → Prop} {s : Shared}
/-- the byte at a place -/
noncomputable abbrev ByteAt (b : Array UInt8) (i : Nat) (v : Value) : Prop := ∃ c u, b[i]? = some c ∧ v = .int (c.toNat : Int) u
theorem extendB {R : Result → Shared → Prop} (hh : A.handled = none) (b : Array UInt8) (t : Tok) (S : Addr) (res : Value) (c₀ : Nat) (hS : s.heap.get? S = some { cls := .type "list", data := .seq #[] c₀ })
    (hR : ∀ h' tk acc' c', (∀ a o, a ≠ S → s.heap.get? a = some o → h'.get? a = some o) → h'.get? S = some { cls := .type "list", dict := none, data := .seq acc' c', slots := #[] } →
      ItemsOf (ByteAt b) acc' b.size → R (.ok (.ret res)) { s with heap := h', toks := tk }) (hn : b.size ≤ sizeLine) :
    wpAny (model prog w) A.in1 (Builtin.List.listExtendWith (.ref S) (.bytes b t) res)
      (fun fin s' => match fin with | .done f => R (.ok f) s' | .again c' => c'.quiet = true ∧ codeAny (model prog w) A c' R s') (fun e s' => R (.error e) s') s := by
  have hSI : S ≠ s.heap.objs.size := Nat.ne_of_lt (Heap.lt_size hS)
  have hSf : S ∉ [s.heap.objs.size] := fun hm => hSI (List.mem_singleton.mp hm)
  unfold Builtin.List.listExtendWith
  refine wpAny_bind (wpAny_typeOf (T := "bytes") (v := .bytes b t) rfl ?_)
  have h1 : Builtin.List.listSameRef (.ref S) (.bytes b t) = false := rfl
  have h2 : (Value.type "bytes" == Value.type "list") = false := by decide
  have h3 : (Value.type "bytes" == Value.type "tuple") = false := by decide
  simp only [h1, h2, h3, Bool.or_false, Bool.false_eq_true, if_false]
  refine wpAny_bind (KBw.pyIter_bytes ?_)
  refine wpAny_bind (wpAny_holding ?_)
  unfold Builtin.List.listLengthHint
  refine wpAny_bind (wpAny_specialOf (T := "bytes") (v := .bytes b t) rfl FB.slot_bytes_len.lookup ?_)
  wp_delta
  refine wpAny_bind (wpAny_isInstance (T := "bytes") (v := .bytes b t) (b := true) rfl (by rw [isSubtype_type]; kernel_rfl) ?_)
  show wpAny _ _ (typeOf (Value.bytes b t) >>= _) _ _ _
  refine wpAny_bind (wpAny_typeOf (T := "bytes") (v := .bytes b t) rfl ?_)
  refine wpAny_pure ?_
  rw [if_neg (by decide)]
  refine wpAny_pure ⟨plainId_quiet F.plain_extend_loop _, codeAny_extend_loopS (KBw.walks (A := A.in1) hh s.heap.objs.size b t).toS hn _ hSf _ b.size 0 _ _ _ rfl (Nat.zero_le _) ⟨_, Heap.get?_push_size _ rfl, rfl, rfl⟩ (Heap.get?_push_of_some _ hS) (ItemsOf.nil _) fun s' acc' c' hm hS' hacc => ?_⟩
  rw [Moved.eq_with hm]
  refine hR s'.heap s'.toks acc' c' (fun a ob hb e => hm.heap a ob (fun hmem => ?_) (Heap.get?_push_of_some _ e)) hS' hacc
  rcases List.mem_cons.mp hmem with e' | hmem
  · exact hb e'
  · exact absurd (Heap.lt_size e) (by rw [List.mem_singleton.mp hmem]; exact Nat.lt_irrefl _)
theorem initB {R : Result → Shared → Prop} (hh : A.handled = none) (b : Array UInt8) (t : Tok) (S : Addr) (hS : s.heap.get? S = some { cls := .type "list", data := .seq #[] })
    (hR : ∀ h' tk acc' c', (∀ a o, a ≠ S → s.heap.get? a = some o → h'.get? a = some o) → h'.get? S = some { cls := .type "list", dict := none, data := .seq acc' c', slots := #[] } →
      ItemsOf (ByteAt b) acc' b.size → R (.ok (.ret .none)) { s with heap := h', toks := tk }) (hn : b.size ≤ sizeLine) :
    wpAny (model prog w) A.in1 (Builtin.«list.__init__» ⟨[.ref S, .bytes b t], []⟩)
      (fun fin s' => match fin with | .done f => R (.ok f) s' | .again c' => c'.quiet = true ∧ codeAny (model prog w) A c' R s') (fun e s' => R (.error e) s') s := by
  show wpAny _ _ (do let old ← Builtin.List.listItems (.ref S); Builtin.List.listUpdate (.ref S) (fun _ => #[]); letGo old.toList.reverse; Builtin.List.listExtendWith (.ref S) (.bytes b t) .none) _ _ s
  refine wpAny_bind ?_
  unfold Builtin.List.listItems
  refine wpAny_bind (wpAny_seqItems hS rfl (wpAny_pure ?_))
  show wpAny _ _ (updateSeq S (fun _ => #[]) >>= fun _ => letGo (#[] : Array Value).toList.reverse >>= fun _ => Builtin.List.listExtendWith (.ref S) (.bytes b t) .none) _ _ s
  refine wpAny_bind (wpAny_updateSeq hS rfl ?_)
  have hS₂ := Heap.get?_update_self (Obj.mapSeq (fun _ => (#[] : Array Value))) hS rfl
  refine wpAny_bind (wpAny_letGo ?_)
  refine extendB hh b t S .none _ hS₂ (fun h' tk acc' c' hk hS' hacc => ?_) hn
  exact hR h' tk acc' c' (fun a o hb e => hk a o hb ((Heap.get?_update_other _ _ (Ne.symm hb)).trans e)) hS' hacc
theorem listB {Q : Value → Shared → Prop} {b : Array UInt8} {t : Tok} {h₀ : Heap} {L : Addr} {m : Str → Option Value} {news : List (Addr × Obj)} (hh : A.handled = none) (F : Fr h₀ L s.heap m) (N : News h₀ L s.heap news) (hn : b.size ≤ sizeLine)
    (h : ∀ D us c h' tk, Fr h₀ L h' m → News h₀ L h' ((D, listOf (List.toArray us) c) :: news) → (∀ p ∈ news, p.1 < D) → us.length = b.size → (∀ (i : Nat) (v : Value), us[i]? = some v → ByteAt b i v) → Q (.ref D) { s with heap := h', toks := tk }) :
    wpAny (model prog w) A (call (.type "list") [.bytes b t]) Q E s := by
  refine callType_codes (Q₁ := fun obj s₁ => obj = .ref s.heap.objs.size ∧ s₁ = { s with heap := s.heap.push { cls := .type "list", data := .seq #[] } }) PySem.F.called_list (PySem.F.typeCall_list_1 _) PySem.F.entry_list_init
    (code_list_new _ ⟨rfl, rfl⟩) fun obj s₁ h₁ => ?_
  obtain ⟨rfl, rfl⟩ := h₁
  have hS : (s.heap.push { cls := .type "list", data := .seq #[] }).get? s.heap.objs.size = some { cls := .type "list", data := .seq #[] } := Heap.get?_push_size _ rfl
  refine ⟨⟨_, hS, rfl⟩, PySem.F.args_list_init_2 _ _, initB (A := A.in1) hh b t _ hS (fun h' tk acc' c' hk hS' hacc => ?_) hn⟩
  have hk' : ∀ a o, s.heap.get? a = some o → h'.get? a = some o := fun a o e => hk a o (Nat.ne_of_lt (Heap.lt_size e)) (Heap.get?_push_of_some _ e)
  have hD' : h'.get? s.heap.objs.size = some (listOf (List.toArray acc'.toList) c') := by
    rw [Array.toArray_toList]
    exact hS'
  exact ⟨rfl, h _ acc'.toList c' h' tk (F.keeps hk') (news_pushed F N hk' hD' rfl) (fun p hp => Heap.lt_size (N p hp).1) (by rw [Array.length_toList]; exact hacc.1) fun j v hj => hacc.2 j v (by rw [← hj, Array.getElem?_toList])⟩
end


end
section
open PySem.W.X
noncomputable abbrev den : Code → Sem Fin := ZFast.zw11892475500146522536 ZFast.tableZ
theorem den_eq : denote table = den := congr (congrArg (fun x x_1 => x x_1) ZFast.ze11892475500146522536) ZFast.tableZ_eq
/-- the ledger, with the heap's size -/
structure Me (h₀ : Heap) (M k : Nat) (h : Heap) (chg news : List (Addr × Obj)) : Prop where
  mem : Mem h₀ h chg news
  sz : h.objs.size = M + k
/-- one object of the ledger changed -/
inductive Put (a : Addr) (o o' : Obj) : List (Addr × Obj) → List (Addr × Obj) → Prop where
  | head {l} : Put a o o' ((a, o) :: l) ((a, o') :: l)
  | tail {x l l'} : Put a o o' l l' → Put a o o' (x :: l) (x :: l')
theorem Put.idx {a : Addr} {o o' : Obj} {l l' : List (Addr × Obj)} (p : Put a o o' l l') : ∃ i, l[i]? = some (a, o) ∧ l' = l.set i (a, o') := by
  induction p with
  | head => exact ⟨0, rfl, rfl⟩
  | tail _ ih => obtain ⟨i, h1, h2⟩ := ih; exact ⟨i + 1, by simpa using h1, by simp [h2]⟩
section
variable {α : Type} {prog : Program} {w : World} {A : Around} {E : Value → Shared → Prop} {s : Shared} {Q : α → Shared → Prop} {h₀ h : Heap} {chg news news' : List (Addr × Obj)} {g : Array GenState} {d : Drawn} {t : Nat} {os : OsState}
theorem n_code {c : Code} {R : Result → Shared → Prop} (h : wpAny (model prog w) (A.under c) (den c) (fun fin s' => match fin with | .done f => R (.ok f) s' | .again c' => c'.quiet = true ∧ codeAny (model prog w) A c' R s') (fun e s' => R (.error e) s') s) :
    codeAny (model prog w) A c R s := x_code (by rw [den_eq]; exact h)
theorem n_alloc {M z z' : Nat} {o : Obj} {k : Addr → Sem α} (D : Me h₀ M z h chg news) (hf : o.isFreed = false) (hz : z + 1 = z') (x : ∀ h', Me h₀ M z' h' chg ((M + z, o) :: news) → wpAny (model prog w) A (k (M + z)) Q E ⟨h', g, d, t, os⟩) :
    wpAny (model prog w) A (.alloc o k) Q E ⟨h, g, d, t, os⟩ := by
  subst hz
  refine wpAny_bind (m := alloc o) (f := k) (wpAny_alloc ?_)
  have e := D.sz
  have D' := D.mem.alloc hf
  show wpAny _ _ (k h.objs.size) _ _ _
  rw [e] at D' ⊢
  exact x _ ⟨D', by rw [Heap.size_push, e, Nat.add_assoc]⟩
theorem n_update {a : Addr} {q : Option Value} {f : Obj → Obj} {k : Unit → Sem α} {o o' : Obj} {M z : Nat} (D : Me h₀ M z h chg news) (p : Put a o o' news news') (e : f o = o') (hf : o'.isFreed = false)
    (x : ∀ h', Me h₀ M z h' chg news' → wpAny (model prog w) A (k ()) Q E ⟨h', g, d, t, os⟩) : wpAny (model prog w) A (.update a q f k) Q E ⟨h, g, d, t, os⟩ := by
  obtain ⟨i, hi, rfl⟩ := p.idx
  subst e
  exact wpAny_bind (m := updatePart a q f) (f := k) (wpAny_updatePart (D.mem.at i a o hi) (x _ ⟨D.mem.update hi hf, (Heap.SameBut.update ..).1.trans D.sz⟩))
/-- a namespace: the entries, the last one ahead -/
noncomputable def nsR (l : List DictEntry) (n : Nat) : Obj := { cls := .type "dict", data := .dict l.reverse.toArray n }
theorem Me.recast {M z : Nat} {a : Addr} {o o' : Obj} (D : Me h₀ M z h chg news) (p : Put a o o' news news') (e : o = o') : Me h₀ M z h chg news' := by
  subst e
  have : news' = news := by
    clear D
    induction p with
    | head => rfl
    | tail _ ih => rw [ih]
  rw [this]; exact D
theorem n_putN {a : Addr} {q : Option Value} {name : Str} {hs : Int} {key v : Value} {l : List DictEntry} {n : Nat} {k : Unit → Sem α} {M z : Nat} (D : Me h₀ M z h chg news) (p : Put a (nsR l n) (nsR (⟨hs, key, v⟩ :: l) (n + 1)) news news')
    (e : ZFast.zw15148967442446096172 name hs key v (nsR l n) = nsR (⟨hs, key, v⟩ :: l) (n + 1))
    (x : ∀ h', Me h₀ M z h' chg news' → wpAny (model prog w) A (k ()) Q E ⟨h', g, d, t, os⟩) : wpAny (model prog w) A (.update a q (ZFast.zw15148967442446096172 name hs key v) k) Q E ⟨h, g, d, t, os⟩ :=
  n_update D p e rfl x
theorem n_grow {a c : Addr} {q : Option Value} {f : Obj → Obj} {k : Unit → Sem α} {ps more : Array Value} {M z : Nat} (D : Me h₀ M z h [] news) (ht : h₀.TableAt c a ps) (hn : f (tableObj ps) = tableObj (ps ++ more))
    (x : ∀ h', Me h₀ M z h' [(a, tableObj (ps ++ more))] news → wpAny (model prog w) A (k ()) Q E ⟨h', g, d, t, os⟩) : wpAny (model prog w) A (.update a q f k) Q E ⟨h, g, d, t, os⟩ :=
  wpAny_bind (m := updatePart a q f) (f := k) (wpAny_updatePart (D.mem.keep a _ ht.2 (by rw [show away [] a = true from rfl, Bool.or_true])) (x _ ⟨D.mem.grow ht rfl hn, (Heap.SameBut.update ..).1.trans D.sz⟩))
theorem n_chg {a : Addr} {q : Option Value} {k : Obj → Sem α} {o : Obj} {M z : Nat} (D : Me h₀ M z h [(a, o)] news) (x : wpAny (model prog w) A (k o) Q E ⟨h, g, d, t, os⟩) : wpAny (model prog w) A (.load a q k) Q E ⟨h, g, d, t, os⟩ :=
  x_load (D.mem.ch _ (.head _)).1 x
theorem n_new {a : Addr} {q : Option Value} {k : Obj → Sem α} {o : Obj} {M z : Nat} (D : Me h₀ M z h chg news) (hm : (a, o) ∈ news) (x : wpAny (model prog w) A (k o) Q E ⟨h, g, d, t, os⟩) : wpAny (model prog w) A (.load a q k) Q E ⟨h, g, d, t, os⟩ :=
  x_load (D.mem.nw _ hm).1 x
theorem n_old {K : Frag} {a : Addr} {q : Option Value} {k : Obj → Sem α} {o : Obj} {M z : Nat} (D : Me h₀ M z h chg news) (X : K.In h₀) (ho : K.lookup a = some o) (hw : (hasCls o || away chg a) = true) (x : wpAny (model prog w) A (k o) Q E ⟨h, g, d, t, os⟩) : wpAny (model prog w) A (.load a q k) Q E ⟨h, g, d, t, os⟩ :=
  x_load (D.mem.keep _ _ (X _ _ ho) hw) x
theorem n_oldF {a : Addr} {q : Option Value} {k : Obj → Sem α} {o : Obj} {M z : Nat} (D : Me h₀ M z h chg news) (ho : h₀.get? a = some o) (hw : (hasCls o || away chg a) = true) (x : wpAny (model prog w) A (k o) Q E ⟨h, g, d, t, os⟩) : wpAny (model prog w) A (.load a q k) Q E ⟨h, g, d, t, os⟩ :=
  x_load (D.mem.keep _ _ ho hw) x
theorem n_oldE {a : Addr} {q : Option Value} {k : Obj → Sem α} {o : Obj} {M z : Nat} (D : Me h₀ M z h [] news) (ho : h₀.get? a = some o) (x : wpAny (model prog w) A (k o) Q E ⟨h, g, d, t, os⟩) : wpAny (model prog w) A (.load a q k) Q E ⟨h, g, d, t, os⟩ :=
  x_load (D.mem.keep _ _ ho (by rw [show away [] a = true from rfl, Bool.or_true])) x
theorem n_stack {k : List (Code × Pos) → Sem α} (h : ∀ st, Lies A st → wpAny (model prog w) A (k st) Q E s) : wpAny (model prog w) A (.stack k) Q E s :=
  fun Γ p hΓ => h _ (lies_of hΓ) Γ p hΓ
noncomputable def capN (f : List (Code × Pos) → Nat → Nat → Bool) (st : List (Code × Pos)) (own limit : Nat) : Bool := match Nat.beq limit recursionLimit with | true => false | false => f st own limit
theorem cap_is {f : List (Code × Pos) → Nat → Nat → Bool} {st : List (Code × Pos)} (h : ∀ own, f st own recursionLimit = false) : f st = capN f st := by
  funext own limit
  unfold capN
  cases q : Nat.beq limit recursionLimit with
  | false => rfl
  | true => rw [Nat.eq_of_beq_eq_true q]; exact h own
theorem n_stackE {k : List (Code × Pos) → Sem α} (hd : A.depth < recursionLimit) (hu : A.units < cLine) (h : ∀ st, nearF st = capN nearF st → overF st = capN overF st → warmF st = capN warmF st → roomF st = false → wpAny (model prog w) A (k st) Q E s) : wpAny (model prog w) A (.stack k) Q E s :=
  n_stack fun st l => h st (cap_is fun own => l.near' hd own) (cap_is fun own => l.over hd own) (cap_is fun own => l.warm hd own) (l.room hu)
theorem n_fresh {k : Tok → Sem α} (x : ∀ tk tk', wpAny (model prog w) A (k tk) Q E ⟨h, g, d, tk', os⟩) : wpAny (model prog w) A (.fresh k) Q E ⟨h, g, d, t, os⟩ := x_fresh (x _ _)
theorem n_code' {c : Code} {R : Result → Shared → Prop} (hc : (Nat.ble c.weight 5 && Nat.ble c.cUnits 20) = true)
    (x : ∀ A' : Around, A'.handled = A.handled → A'.depth ≤ A.depth + 5 → A'.units ≤ A.units + 20 → wpAny (model prog w) A' (den c) (postC prog w A R) (postE R) s) : codeAny (model prog w) A c R s := by
  have h1 := Nat.le_of_ble_eq_true (Bool.and_eq_true_iff.mp hc).1
  have h2 := Nat.le_of_ble_eq_true (Bool.and_eq_true_iff.mp hc).2
  refine n_code (wpAny_mono (x (A.under c) rfl ?_ ?_) (fun fin s' h => ?_) fun _ _ h => h)
  · show A.depth + c.weight ≤ _; omega
  · show A.units + c.cUnits ≤ _; omega
  · cases fin <;> exact h
theorem n_call {c : Code} {gd : Bool} {l : List Value} {k : Result → Sem α} {hv : Option Value} (he : A.handled = hv) (hc : (Nat.ble c.weight 5 && Nat.ble c.cUnits 20) = true)
    (x : ∀ A' : Around, A'.handled = hv → A'.depth ≤ A.depth + 5 → A'.units ≤ A.units + 20 → wpAny (model prog w) A' (den c) (postC prog w A (fun r s' => wpAny (model prog w) A (k r) Q E s')) (postE (fun r s' => wpAny (model prog w) A (k r) Q E s')) s) : wpAny (model prog w) A (.call c none gd l k) Q E s :=
  x_call (n_code' (A := A.mark none) hc fun A' h1 => x A' (h1.trans he)) (by intro h; cases h)
theorem n_callE {c c' : Code} {gd : Bool} {l : List Value} {k : Result → Sem α} (e : c = c') (x : codeAny (model prog w) (A.mark none) c' (fun r s' => wpAny (model prog w) A (k r) Q E s') s) : wpAny (model prog w) A (.call c none gd l k) Q E s := by
  subst e; exact x_call x (by intro h; cases h)
theorem n_done {R : Result → Shared → Prop} {fin : Fin} {f : Flow} (e : fin = .done f) (x : R (.ok f) s) : postC prog w A R fin s := by subst e; exact x
theorem n_again {R : Result → Shared → Prop} {fin : Fin} {c : Code} {hv : Option Value} (he : A.handled = hv) (e : fin = .again c) (hq : c.quiet = true) (hc : (Nat.ble c.weight 5 && Nat.ble c.cUnits 20) = true)
    (x : ∀ A' : Around, A'.handled = hv → A'.depth ≤ A.depth + 5 → A'.units ≤ A.units + 20 → wpAny (model prog w) A' (den c) (postC prog w A R) (postE R) s) : postC prog w A R fin s := by subst e; exact ⟨hq, n_code' hc fun A' h1 => x A' (h1.trans he)⟩
theorem n_handled {k : Option Value → Sem α} {v : Option Value} (e : A.handled = v) (h : wpAny (model prog w) A (k v) Q E s) : wpAny (model prog w) A (.handled false k) Q E s := x_handled (by rw [e]; exact h)
theorem n_bind {β : Type} {m : Sem β} {f : β → Sem α} (h : wpAny (model prog w) A m (fun a s' => wpAny (model prog w) A (f a) Q E s') E s) : wpAny (model prog w) A (R.bindR m f) Q E s := by rw [← R.bindR_eq]; exact wpAny_bind h
theorem n_onR {m : Sem α} {f : Value → Sem Unit} (h : wpAny (model prog w) A m Q (fun _ _ => False) s) : wpAny (model prog w) A (R.onRaiseR m f) Q E s := by rw [← R.onRaiseR_eq]; exact wpAny_onRaise (wpAny_mono h (fun _ _ x => x) fun _ _ x => x.elim)
theorem n_both {f t : Sem α} {b : Bool} (h1 : wpAny (model prog w) A t Q E s) (h2 : wpAny (model prog w) A f Q E s) : wpAny (model prog w) A (@Bool.rec (fun _ => Sem α) f t b) Q E s := by cases b; exact h2; exact h1
theorem n_mid {Q' : α → Shared → Prop} {m : Sem α} (h1 : wpAny (model prog w) A m Q' (fun _ _ => False) s) (h2 : ∀ a s', Q' a s' → Q a s') : wpAny (model prog w) A m Q E s := wpAny_mono h1 h2 fun _ _ x => x.elim
theorem n_midv (v : α) {f t : Sem α} {b : Bool} (h1 : wpAny (model prog w) A t (fun a s' => a = v ∧ s' = s) (fun _ _ => False) s) (h2 : wpAny (model prog w) A f (fun a s' => a = v ∧ s' = s) (fun _ _ => False) s) (h : Q v s) : wpAny (model prog w) A (@Bool.rec (fun _ => Sem α) f t b) Q E s := wpAny_mono (n_both h1 h2) (fun _ _ e => by obtain ⟨rfl, rfl⟩ := e; exact h) fun _ _ x => x.elim
theorem n_btt {f t : Sem α} {b : Bool} (e : b = true) (h : wpAny (model prog w) A t Q E s) : wpAny (model prog w) A (@Bool.rec (fun _ => Sem α) f t b) Q E s := by subst e; exact h
theorem n_bff {f t : Sem α} {b : Bool} (e : b = false) (h : wpAny (model prog w) A f Q E s) : wpAny (model prog w) A (@Bool.rec (fun _ => Sem α) f t b) Q E s := by subst e; exact h
theorem or_mid {a b c : Bool} (e : b = true) : ((a || b) || c) = true := by subst e; simp
theorem Me.grown {h' : Heap} {M z M' z' : Nat} (D : Me h₀ M z h chg news) (st : h.StaysIn h') (hs : h'.objs.size = M' + z') (extra : List (Addr × Obj)) (hx : ∀ p ∈ extra, h'.get? p.1 = some p.2 ∧ h.objs.size ≤ p.1) (ho : (extra.map (·.1)).Pairwise (· > ·)) (h0 : h₀.objs.size ≤ h.objs.size) :
    Me h₀ M' z' h' chg (extra ++ news) := by
  refine ⟨⟨fun b o e c => st _ _ (D.mem.keep b o e c), fun p hp => ⟨st _ _ (D.mem.ch p hp).1, (D.mem.ch p hp).2⟩, D.mem.cd, fun p hp => ?_, ?_⟩, hs⟩
  · rcases List.mem_append.mp hp with hp | hp
    · exact ⟨(hx p hp).1, Heap.get?_none_of_le (Nat.le_trans h0 (hx p hp).2)⟩
    · exact ⟨st _ _ (D.mem.nw p hp).1, (D.mem.nw p hp).2⟩
  · rw [List.map_append, List.pairwise_append]
    refine ⟨ho, D.mem.ord, fun a ha b hb => ?_⟩
    obtain ⟨p, hp, rfl⟩ := List.mem_map.mp ha
    obtain ⟨q, hq, rfl⟩ := List.mem_map.mp hb
    exact Nat.lt_of_lt_of_le (Heap.lt_size (D.mem.nw q hq).1) (hx p hp).2
theorem n_againC {c : Code} {R : Result → Shared → Prop} {fin : Fin} (e : fin = .again c) (hq : c.quiet = true) (x : codeAny (model prog w) A c R s) : postC prog w A R fin s := by subst e; exact ⟨hq, x⟩
theorem Me.keepBut {M z : Nat} {a : Addr} {o : Obj} (D : Me h₀ M z h [(a, o)] news) (b : Addr) (ob : Obj) (hb : b ≠ a) (e : h₀.get? b = some ob) : h.get? b = some ob := by
  refine D.mem.keep b ob e ?_
  have hb2 : Nat.beq a b = false := by
    cases q : Nat.beq a b with
    | false => rfl
    | true => exact absurd (Nat.eq_of_beq_eq_true q).symm hb
  have h2 : away [(a, o)] b = true := by
    show ((!(Nat.beq a b)) && true) = true
    rw [hb2]; rfl
  rw [h2, Bool.or_true]
theorem frag_in {K : Frag} {M z : Nat} {a : Addr} {o : Obj} (D : Me h₀ M z h [(a, o)] news) (X : K.In h₀) (hn : K.lookup a = none) : K.In h := fun b ob hb =>
  D.keepBut b ob (fun e => by rw [e] at hb; rw [show K.lookup a = some ob from hb] at hn; cases hn) (X b ob hb)
theorem n_hd {x : Addr × Obj} {l : List (Addr × Obj)} : x ∈ x :: l := List.mem_cons_self
theorem n_tl {x y : Addr × Obj} {l : List (Addr × Obj)} (h : x ∈ l) : x ∈ y :: l := List.mem_cons_of_mem _ h
end


end
section
open PySem.W.X
/-- what the next node is answered by -/
inductive Ins where
  | s | l (i : Nat) | o (i : Nat) | k | h | a | u (i : Nat) | c | p
noncomputable abbrev Kn := Result → Sem PySem.Fin
noncomputable abbrev Ld := List (Addr × Obj)
/-- what a run hands on -/
noncomputable abbrev Pst := Sem PySem.Fin → List Kn → Ld → Nat → Nat → List (Addr × Addr) → Prop
/-- what a run leans on -/
structure SV where
  (prog : Program) (w : World) (K : Frag) (olds chg : Ld) (M : Nat) (h₀ : Heap) (A₀ : Around) (R₀ : Result → Shared → Prop) (g : Array GenState) (d : Drawn) (os : OsState)
noncomputable def ifSome {α : Type} (o : Option α) (f : α → Prop) : Prop := match o with
  | some q => f q
  | none => False
noncomputable def ifTrue (b : Bool) (p : Prop) : Prop := match b with
  | true => p
  | false => False
theorem ifSome_out {α : Type} {o : Option α} {f : α → Prop} (h : ifSome o f) : ∃ q, o = some q ∧ f q := by
  cases o with
  | none => exact h.elim
  | some q => exact ⟨q, rfl, h⟩
theorem ifTrue_out {b : Bool} {p : Prop} (h : ifTrue b p) : b = true ∧ p := by
  cases b with
  | false => exact h.elim
  | true => exact ⟨rfl, h⟩
noncomputable def ifFalse (b : Bool) (p : Prop) : Prop := match b with
  | false => p
  | true => False
theorem ifFalse_out {b : Bool} {p : Prop} (h : ifFalse b p) : b = false ∧ p := by
  cases b with
  | true => exact h.elim
  | false => exact ⟨rfl, h⟩
noncomputable def Sim (V : SV) (Post : Pst) : List Ins → Sem PySem.Fin → List Kn → Ld → Nat → Nat → List (Addr × Addr) → Prop
  | [], t, ks, L, z, tk, eq => Post t ks L z tk eq
  | .s :: r, t, ks, L, z, tk, eq => match t with
    | .rule _ k => Sim V Post r (k ()) ks L z tk eq
    | .at _ k => Sim V Post r (k ()) ks L z tk eq
    | .point _ k => Sim V Post r (k ()) ks L z tk eq
    | .ask k => Sim V Post r (k ⟨V.prog, V.w.params⟩) ks L z tk eq
    | .fresh k => Sim V Post r (k tk) ks L z (tk + 1) eq
    | .handled b k => match b with
      | false => Sim V Post r (k none) ks L z tk eq
      | true => False
    | _ => False
  | .l i :: r, t, ks, L, z, tk, eq => match t with
    | .load a _ k => match L[i]? with
      | some q => Sim V Post r (k q.2) ks L z tk ((a, q.1) :: eq)
      | none => False
    | _ => False
  | .o i :: r, t, ks, L, z, tk, eq => match t with
    | .load a _ k => match V.olds[i]? with
      | some q => Sim V Post r (k q.2) ks L z tk ((a, q.1) :: eq)
      | none => False
    | _ => False
  | .k :: r, t, ks, L, z, tk, eq => match t with
    | .load a _ k => match V.K.lookup a with
      | some ob => match hasCls ob || away V.chg a with
        | true => Sim V Post r (k ob) ks L z tk eq
        | false => False
      | none => False
    | _ => False
  | .h :: r, t, ks, L, z, tk, eq => match t with
    | .load a _ k => match V.chg[0]? with
      | some q => Sim V Post r (k q.2) ks L z tk ((a, q.1) :: eq)
      | none => False
    | _ => False
  | .a :: r, t, ks, L, z, tk, eq => match t with
    | .alloc ob k => match ob.isFreed with
      | false => Sim V Post r (k (V.M + z)) ks ((V.M + z, ob) :: L) (z + 1) tk eq
      | true => False
    | _ => False
  | .u i :: r, t, ks, L, z, tk, eq => match t with
    | .update a _ f k => match L[i]? with
      | some q => match (f q.2).isFreed with
        | false => Sim V Post r (k ()) ks (L.set i (q.1, f q.2)) z tk ((a, q.1) :: eq)
        | true => False
      | none => False
    | _ => False
  | .c :: r, t, ks, L, z, tk, eq => match t with
    | .call c hd _ _ k => match hd with
      | none => match Nat.ble c.weight 5 && Nat.ble c.cUnits 20 with
        | true => Sim V Post r (den c) (k :: ks) L z tk eq
        | false => False
      | some _ => False
    | _ => False
  | .p :: r, t, ks, L, z, tk, eq => match t with
    | .pure fin => match fin with
      | .done f => match ks with
        | k :: ks => Sim V Post r (k (.ok f)) ks L z tk eq
        | [] => False
      | .again c => match c.quiet && (Nat.ble c.weight 5 && Nat.ble c.cUnits 20) with
        | true => Sim V Post r (den c) ks L z tk eq
        | false => False
    | _ => False
/-- the bounds at n calls deep -/
noncomputable def SV.B (V : SV) (n : Nat) (A : Around) : Prop := A.handled = none ∧ A.depth ≤ V.A₀.depth + 5 * n ∧ A.units ≤ V.A₀.units + 20 * n
/-- what a return means -/
noncomputable def SV.ret (V : SV) : List Kn → Result → Shared → Prop
  | [], r, s => V.R₀ r s
  | k :: ks, r, s => ∀ A A₁, V.B (ks.length + 1) A → V.B ks.length A₁ → wpAny (model V.prog V.w) A (k r) (postC V.prog V.w A₁ (V.ret ks)) (postE (V.ret ks)) s
/-- what a tree with its callers means -/
noncomputable def SV.means (V : SV) (ks : List Kn) (t : Sem PySem.Fin) (s : Shared) : Prop :=
  ∀ A A₁, V.B (ks.length + 1) A → V.B ks.length A₁ → wpAny (model V.prog V.w) A t (postC V.prog V.w A₁ (V.ret ks)) (postE (V.ret ks)) s
theorem postC_mono {prog : Program} {w : World} {A : Around} {R R' : Result → Shared → Prop} (h : ∀ r s, R r s → R' r s) {fin : PySem.Fin} {s : Shared} (x : postC prog w A R fin s) : postC prog w A R' fin s := by
  cases fin with
  | done f => exact h _ _ x
  | again c => exact ⟨x.1, codeAny_mono x.2 h⟩
/-- the run's word at its end -/
structure SV.fin (V : SV) (t : Sem PySem.Fin) (ks : List Kn) (L : Ld) (z tk : Nat) (eq : List (Addr × Addr)) : Prop where
  eqs : ∀ e ∈ eq, e.1 = e.2
  mean : ∀ h, Me V.h₀ V.M z h V.chg L → V.means ks t ⟨h, V.g, V.d, tk, V.os⟩
structure SV.Ok (V : SV) : Prop where
  X : V.K.In V.h₀
  O : ∀ q ∈ V.olds, V.h₀.get? q.1 = some q.2 ∧ (hasCls q.2 || away V.chg q.1) = true
noncomputable def OldsP (h₀ : Heap) (chg : Ld) : Ld → Prop
  | [] => True
  | q :: r => (h₀.get? q.1 = some q.2 ∧ (hasCls q.2 || away chg q.1) = true) ∧ OldsP h₀ chg r
theorem OldsP.all {h₀ : Heap} {chg : Ld} : ∀ {l : Ld}, OldsP h₀ chg l → ∀ q ∈ l, h₀.get? q.1 = some q.2 ∧ (hasCls q.2 || away chg q.1) = true
  | [], _, _, hq => (nomatch hq)
  | _ :: _, h, q, hq => by
    rcases List.mem_cons.mp hq with e | e
    · rw [e]; exact h.1
    · exact OldsP.all h.2 q e
theorem put_at {L : Ld} {i : Nat} {q : Addr × Obj} {o' : Obj} (h : L[i]? = some q) : Put q.1 q.2 o' L (L.set i (q.1, o')) := by
  induction L generalizing i with
  | nil => simp at h
  | cons x L ih =>
    cases i with
    | zero =>
      have : x = q := by simpa using h
      subst this
      exact Put.head
    | succ i =>
      have h' : L[i]? = some q := by simpa using h
      exact Put.tail (ih h')
noncomputable def AllEq : List (Addr × Addr) → Prop
  | [] => True
  | e :: r => e.1 = e.2 ∧ AllEq r
theorem AllEq.all {l : List (Addr × Addr)} (h : AllEq l) : ∀ e ∈ l, e.1 = e.2 := by
  induction l with
  | nil => intro p hp; cases hp
  | cons q r ih =>
    intro p hp
    rcases List.mem_cons.mp hp with e | e
    · rw [e]; exact h.1
    · exact ih h.2 p e
theorem fin_clear {V : SV} {t : Sem PySem.Fin} {ks : List Kn} {L : Ld} {z tk : Nat} {eq : List (Addr × Addr)} (e : AllEq eq) (h : V.fin t ks L z tk []) : V.fin t ks L z tk eq := ⟨e.all, h.2⟩
theorem fin_bff {V : SV} {f t : Sem PySem.Fin} {b : Bool} {ks : List Kn} {L : Ld} {z tk : Nat} {eq : List (Addr × Addr)} (e : b = false) (h : V.fin f ks L z tk eq) : V.fin (@Bool.rec (fun _ => Sem PySem.Fin) f t b) ks L z tk eq := by subst e; exact h
theorem fin_btt {V : SV} {f t : Sem PySem.Fin} {b : Bool} {ks : List Kn} {L : Ld} {z tk : Nat} {eq : List (Addr × Addr)} (e : b = true) (h : V.fin t ks L z tk eq) : V.fin (@Bool.rec (fun _ => Sem PySem.Fin) f t b) ks L z tk eq := by subst e; exact h
theorem fin_eq {V : SV} {t t' : Sem PySem.Fin} {ks : List Kn} {L : Ld} {z tk : Nat} {eq : List (Addr × Addr)} (e : t = t') (h : V.fin t' ks L z tk eq) : V.fin t ks L z tk eq := by subst e; exact h
theorem fin_led {V : SV} {t : Sem PySem.Fin} {ks : List Kn} {L L' : Ld} {z tk : Nat} {eq : List (Addr × Addr)} (e : L = L') (h : V.fin t ks L' z tk eq) : V.fin t ks L z tk eq := by subst e; exact h
theorem fin_stack {V : SV} {k : List (Code × Pos) → Sem PySem.Fin} {ks : List Kn} {L : Ld} {z tk : Nat} {eq : List (Addr × Addr)} (hd : V.A₀.depth + 5 * (ks.length + 1) < recursionLimit) (hu : V.A₀.units + 20 * (ks.length + 1) < cLine) (he : ∀ e ∈ eq, e.1 = e.2)
    (h : ∀ st, nearF st = capN nearF st → overF st = capN overF st → warmF st = capN warmF st → roomF st = false → V.fin (k st) ks L z tk eq) : V.fin (.stack k) ks L z tk eq :=
  ⟨he, fun hp D A A₁ b b₁ => n_stackE (by have := b.2.1; omega) (by have := b.2.2; omega) fun st a1 a2 a3 a4 => (h st a1 a2 a3 a4).2 hp D A A₁ b b₁⟩
theorem fin_done {V : SV} {f : Flow} {t : Sem PySem.Fin} {L : Ld} {z tk : Nat} {eq : List (Addr × Addr)} (e : t = .pure (.done f)) (he : AllEq eq) (h : ∀ hp, Me V.h₀ V.M z hp V.chg L → V.R₀ (.ok f) ⟨hp, V.g, V.d, tk, V.os⟩) : V.fin t [] L z tk eq := by
  subst e; exact ⟨he.all, fun hp D A A₁ _ _ => x_pure (h hp D)⟩
/-- a call by a run -/
theorem sim_call {V : SV} {c : Code} {L : Ld} {z tk : Nat} {h : Heap} (hc : (Nat.ble c.weight 5 && Nat.ble c.cUnits 20) = true) (hh : V.A₀.handled = none) (D : Me V.h₀ V.M z h V.chg L) (m : V.fin (den c) [] L z tk []) : codeAny (model V.prog V.w) V.A₀ c V.R₀ ⟨h, V.g, V.d, tk, V.os⟩ :=
  n_code' hc fun A' a1 a2 a3 => m.2 h D A' V.A₀ ⟨a1.trans hh, a2, a3⟩ ⟨hh, Nat.le_add_right _ _, Nat.le_add_right _ _⟩
section
variable {V : SV} (O : V.Ok)
/-- the pairs so far are kept -/
theorem sim_eqs {Post : Pst} : True := trivial
theorem sim_run (O : V.Ok) {Q : Pst} (hQ : ∀ t ks L z tk eq, Q t ks L z tk eq → V.fin t ks L z tk eq) :
    ∀ (ins : List Ins) (t : Sem PySem.Fin) (ks : List Kn) (L : Ld) (z tk : Nat) (eq : List (Addr × Addr)), Sim V Q ins t ks L z tk eq → V.fin t ks L z tk eq := by
  intro ins
  induction ins with
  | nil => intro t ks L z tk eq h; exact hQ _ _ _ _ _ _ h
  | cons i r ih =>
    intro t ks L z tk eq h
    cases i with
    | s =>
      cases t with
      | rule n k => obtain ⟨h1, h2⟩ := ih _ _ _ _ _ _ h; exact ⟨h1, fun hp D A A₁ b b₁ => x_rule (h2 hp D A A₁ b b₁)⟩
      | «at» n k => obtain ⟨h1, h2⟩ := ih _ _ _ _ _ _ h; exact ⟨h1, fun hp D A A₁ b b₁ => x_at (h2 hp D A A₁ b b₁)⟩
      | point n k => obtain ⟨h1, h2⟩ := ih _ _ _ _ _ _ h; exact ⟨h1, fun hp D A A₁ b b₁ => x_point (h2 hp D A A₁ b b₁)⟩
      | ask k => obtain ⟨h1, h2⟩ := ih _ _ _ _ _ _ h; exact ⟨h1, fun hp D A A₁ b b₁ => x_ask (h2 hp D A A₁ b b₁)⟩
      | fresh k => obtain ⟨h1, h2⟩ := ih _ _ _ _ _ _ h; exact ⟨h1, fun hp D A A₁ b b₁ => x_fresh (h2 hp D A A₁ b b₁)⟩
      | handled b k =>
        cases b with
        | false => obtain ⟨h1, h2⟩ := ih _ _ _ _ _ _ h; exact ⟨h1, fun hp D A A₁ b b₁ => n_handled b.1 (h2 hp D A A₁ b b₁)⟩
        | true => exact h.elim
      | _ => exact h.elim
    | l i =>
      cases t with
      | load a q k =>
        obtain ⟨q', e, h⟩ := ifSome_out (Eq.mp (by kernel_rfl) h : ifSome L[i]? fun q => Sim V Q r (k q.2) ks L z tk ((a, q.1) :: eq))
        obtain ⟨h1, h2⟩ := ih _ _ _ _ _ _ h
        have ea : a = q'.1 := h1 (a, q'.1) (.head _)
        refine ⟨fun e he => h1 e (.tail _ he), fun hp D A A₁ b b₁ => x_load ?_ (h2 hp D A A₁ b b₁)⟩
        rw [ea]
        exact (D.mem.nw _ (List.mem_of_getElem? e)).1
      | _ => exact h.elim
    | o i =>
      cases t with
      | load a q k =>
        obtain ⟨q', e, h⟩ := ifSome_out (Eq.mp (by kernel_rfl) h : ifSome V.olds[i]? fun q => Sim V Q r (k q.2) ks L z tk ((a, q.1) :: eq))
        obtain ⟨h1, h2⟩ := ih _ _ _ _ _ _ h
        have ea : a = q'.1 := h1 (a, q'.1) (.head _)
        refine ⟨fun e he => h1 e (.tail _ he), fun hp D A A₁ b b₁ => x_load ?_ (h2 hp D A A₁ b b₁)⟩
        rw [ea]
        have := O.O _ (List.mem_of_getElem? e)
        exact D.mem.keep _ _ this.1 this.2
      | _ => exact h.elim
    | k =>
      cases t with
      | load a q k =>
        obtain ⟨ob, e, h⟩ := ifSome_out (Eq.mp (by kernel_rfl) h : ifSome (V.K.lookup a) fun ob => ifTrue (hasCls ob || away V.chg a) (Sim V Q r (k ob) ks L z tk eq))
        obtain ⟨e2, h⟩ := ifTrue_out h
        obtain ⟨h1, h2⟩ := ih _ _ _ _ _ _ h
        exact ⟨h1, fun hp D A A₁ b b₁ => x_load (D.mem.keep _ _ (O.X _ _ e) e2) (h2 hp D A A₁ b b₁)⟩
      | _ => exact h.elim
    | h =>
      cases t with
      | load a q k =>
        obtain ⟨q', e, h⟩ := ifSome_out (Eq.mp (by kernel_rfl) h : ifSome V.chg[0]? fun q => Sim V Q r (k q.2) ks L z tk ((a, q.1) :: eq))
        obtain ⟨h1, h2⟩ := ih _ _ _ _ _ _ h
        have ea : a = q'.1 := h1 (a, q'.1) (.head _)
        refine ⟨fun e he => h1 e (.tail _ he), fun hp D A A₁ b b₁ => x_load ?_ (h2 hp D A A₁ b b₁)⟩
        rw [ea]
        exact (D.mem.ch _ (List.mem_of_getElem? e)).1
      | _ => exact h.elim
    | a =>
      cases t with
      | alloc ob k =>
        obtain ⟨e, h⟩ := ifFalse_out (Eq.mp (by kernel_rfl) h : ifFalse ob.isFreed (Sim V Q r (k (V.M + z)) ks ((V.M + z, ob) :: L) (z + 1) tk eq))
        obtain ⟨h1, h2⟩ := ih _ _ _ _ _ _ h
        exact ⟨h1, fun hp D A A₁ b b₁ => n_alloc D e rfl fun h' D' => h2 h' D' A A₁ b b₁⟩
      | _ => exact h.elim
    | u i =>
      cases t with
      | update a q f k =>
        obtain ⟨q', e, h⟩ := ifSome_out (Eq.mp (by kernel_rfl) h : ifSome L[i]? fun q => ifFalse (f q.2).isFreed (Sim V Q r (k ()) ks (L.set i (q.1, f q.2)) z tk ((a, q.1) :: eq)))
        obtain ⟨e2, h⟩ := ifFalse_out h
        obtain ⟨h1, h2⟩ := ih _ _ _ _ _ _ h
        have ea : a = q'.1 := h1 (a, q'.1) (.head _)
        subst ea
        exact ⟨fun e he => h1 e (.tail _ he), fun hp D A A₁ b b₁ => n_update D (put_at e) rfl e2 fun h' D' => h2 h' D' A A₁ b b₁⟩
      | _ => exact h.elim
    | c =>
      cases t with
      | call c hd g l k =>
        cases hd with
        | some _ => exact h.elim
        | none =>
          obtain ⟨e, h⟩ := ifTrue_out (Eq.mp (by kernel_rfl) h : ifTrue (Nat.ble c.weight 5 && Nat.ble c.cUnits 20) (Sim V Q r (den c) (k :: ks) L z tk eq))
          obtain ⟨h1, h2⟩ := ih _ _ _ _ _ _ h
          refine ⟨h1, fun hp D A A₁ b b₁ => n_call b.1 e fun A' a1 a2 a3 => ?_⟩
          have bA' : V.B (ks.length + 1 + 1) A' := ⟨a1, by have := b.2.1; omega, by have := b.2.2; omega⟩
          refine wpAny_mono (h2 hp D A' A bA' b) (fun fin s' x => postC_mono (fun r s'' y => y A A₁ b b₁) x) fun e s' x => ?_
          exact x A A₁ b b₁
      | _ => exact h.elim
    | p =>
      cases t with
      | pure fin =>
        cases fin with
        | done f =>
          cases ks with
          | nil => exact h.elim
          | cons k ks =>
            obtain ⟨h1, h2⟩ := ih _ _ _ _ _ _ h
            exact ⟨h1, fun hp D A A₁ b b₁ => x_pure (fun A' A₁' b' b₁' => h2 hp D A' A₁' b' b₁')⟩
        | again c =>
          obtain ⟨e, h⟩ := ifTrue_out (Eq.mp (by kernel_rfl) h : ifTrue (c.quiet && (Nat.ble c.weight 5 && Nat.ble c.cUnits 20)) (Sim V Q r (den c) ks L z tk eq))
          obtain ⟨h1, h2⟩ := ih _ _ _ _ _ _ h
          have e1 := Bool.and_eq_true_iff.mp e
          refine ⟨h1, fun hp D A A₁ b b₁ => x_pure ⟨e1.1, n_code' e1.2 fun A' a1 a2 a3 => h2 hp D A' A₁ ⟨a1.trans b₁.1, by have := b₁.2.1; omega, by have := b₁.2.2; omega⟩ b₁⟩⟩
      | _ => exact h.elim
theorem sim_callO {V : SV} (O : V.Ok) {c : Code} {L : Ld} {z tk : Nat} {h : Heap} (hc : (Nat.ble c.weight 5 && Nat.ble c.cUnits 20) = true) (hh : V.A₀.handled = none) (D : Me V.h₀ V.M z h V.chg L) (m : V.fin (den c) [] L z tk []) : codeAny (model V.prog V.w) V.A₀ c V.R₀ ⟨h, V.g, V.d, tk, V.os⟩ := sim_call hc hh D m
end


end
section
open PySem.W.X
section
open PySem.W.X
noncomputable def nsF (l : List DictEntry) (n : Nat) : Obj := { cls := .type "dict", data := .dict l.toArray n }
theorem filt (a : Addr) (n : String) : W.R.filterR (fun x => x != Value.ref a) (Value.ref a :: [Value.type n]) = [Value.type n] := by
  have h : (Value.ref a != Value.ref a) = false := by simp
  have h2 : (Value.type n != Value.ref a) = true := by simp
  simp [W.R.filterR, h2]
theorem has_self (a : Addr) (n : String) : ZFast.zw3471404346716756564 [Value.ref a, Value.type n] (Value.ref a) = true := by
  rw [← ZFast.ze3471404346716756564]; simp
theorem drop_self (a : Addr) (n : String) : List.drop 1 (List.dropWhile (fun x => x != Value.ref a) [Value.ref a, Value.type n]) = [Value.type n] := by
  have h : (Value.ref a != Value.ref a) = false := by simp
  simp [List.dropWhile]
theorem cond_tt {b : Bool} {c : Value} (e : b = true) : condFn Value b Value.none c = Value.none := by subst e; rfl
theorem refl_beq (x : Addr) : (Value.ref x == Value.ref x) = true := by simp
noncomputable def kCls (ns self ba : Addr) (k k3 : Tok) (more : List (Option Value)) : Obj :=
  { cls := .type "type", data := .cls { name := "K", bases := [.type "object"], mro := [.ref self, .type "object"], ns, qualname := "cmp_to_key.<locals>.K" }, slots := (some (.ref ba) :: none :: some (.str "K" k) :: some (.str "cmp_to_key.<locals>.K" k3) :: more).toArray }
noncomputable def kClsD (ns self ba : Addr) (k k3 : Tok) : Obj :=
  { cls := .type "type", data := .cls { name := "K", bases := [.type "object"], mro := [.ref self, .type "object"], ns, qualname := "cmp_to_key.<locals>.K", hasDict := false, slotNames := ["obj"] },
    slots := #[some (.ref ba), none, some (.str "K" k), some (.str "cmp_to_key.<locals>.K" k3), some (.builtin "object.__new__"), some (.bool false)] }
noncomputable def kDesc (self : Addr) (k : Tok) : Obj := { cls := .type "member_descriptor", data := .fields #[.str "obj" k, .ref self, .builtin "proto.slot", .builtin "proto.slot#set", rawInt 0] }
/-- the toks and hashes of the class's namespace -/
structure KT where
  (k0 k1 k4 k5 k6 k7 k8 k9 k10 k11 k12 k13 k14 k16 k17 : Tok) (i0 i2 i3 i4 i5 i6 i7 i8 i9 i10 i11 i12 i13 : Int) (sl sa : Addr)
noncomputable def kNs (x : KT) (f0 f1 f2 f3 f4 f5 ds : Addr) : Obj :=
  nsF [⟨x.i0, .str "__module__" x.k0, .str "cpy313.functools" x.k1⟩, ⟨x.i2, .str "__firstlineno__" x.k4, .int 7 x.k5⟩, ⟨x.i3, .str "__slots__" x.k6, .ref x.sl⟩, ⟨x.i4, .str "__init__" x.k7, .ref f0⟩, ⟨x.i5, .str "__lt__" x.k8, .ref f1⟩, ⟨x.i6, .str "__gt__" x.k9, .ref f2⟩, ⟨x.i7, .str "__eq__" x.k10, .ref f3⟩, ⟨x.i8, .str "__le__" x.k11, .ref f4⟩, ⟨x.i9, .str "__ge__" x.k12, .ref f5⟩, ⟨x.i10, .str "__hash__" x.k13, .none⟩, ⟨x.i11, .str "__static_attributes__" x.k14, .ref x.sa⟩, ⟨x.i12, .str "obj" x.k16, .ref ds⟩, ⟨x.i13, .str "__doc__" x.k17, .none⟩] 3
noncomputable def innerOf (s : Stmt) : List Stmt := bodyS s
noncomputable def nthIn (l : List Stmt) (i : Nat) : List Stmt := match l.drop i with | s :: _ => innerOf s | [] => []
/-- the statements of the class K -/
noncomputable def kStmts : List Stmt := nthIn (nthIn P.row.prog.main.body 2) 0
noncomputable def fdK (i : Nat) (qual : Str) (cl : List (Str × Addr)) (code ct : Value) : FuncData := match kStmts.drop i with
  | .FunctionDef name params body _ _ _ scope _ _ _ :: _ => { name, qualname := qual, params, body := .stmts body, scope, globals := 3, closure := cl, defaults := .none, kwdefaults := .none, pyModule := .str "law_oh0006_01" 282, code, closureTuple := ct }
  | _ => default
noncomputable abbrev fObj (d : FuncData) : Obj := { cls := .type "function", data := .func d }
noncomputable abbrev cellO (v : Value) : Obj := { cls := .type "cell", data := .cell (some v) }
/-- what cmp_to_key has made -/
structure KA where
  (c ns ds ba cell f0 f1 f2 f3 f4 f5 g0 g1 g3 t1 t3 : Addr) (k k3 k16 q0 q1 q3 : Tok) (x : KT) (o0 o1 o3 : Array Value)
noncomputable abbrev codeO (vs : Array Value) : Obj := { cls := .type "code", data := .fields vs }
noncomputable def KA.led (a : KA) (F : Value) : List (Addr × Obj) :=
  [(a.c, kClsD a.ns a.c a.ba a.k a.k3), (a.ns, kNs a.x a.f0 a.f1 a.f2 a.f3 a.f4 a.f5 a.ds), (a.ds, kDesc a.c a.k16), (a.cell, cellO F),
   (a.f0, fObj (fdK 2 "cmp_to_key.<locals>.K.__init__" [] (.ref a.g0) .none)), (a.f1, fObj (fdK 3 "cmp_to_key.<locals>.K.__lt__" [("mycmp", a.cell)] (.ref a.g1) (.ref a.t1))), (a.f3, fObj (fdK 5 "cmp_to_key.<locals>.K.__eq__" [("mycmp", a.cell)] (.ref a.g3) (.ref a.t3))),
   (a.g0, codeO a.o0), (a.g1, codeO a.o1), (a.g3, codeO a.o3)]
noncomputable def KA.ok (a : KA) : Prop := a.o0[1]? = some (.str "cmp_to_key.<locals>.K.__init__" a.q0) ∧ a.o1[1]? = some (.str "cmp_to_key.<locals>.K.__lt__" a.q1) ∧ a.o3[1]? = some (.str "cmp_to_key.<locals>.K.__eq__" a.q3)
noncomputable def KA.at (a : KA) (F : Value) (h : Heap) : Prop :=
  h.get? a.c = some (kClsD a.ns a.c a.ba a.k a.k3) ∧ h.get? a.ns = some (kNs a.x a.f0 a.f1 a.f2 a.f3 a.f4 a.f5 a.ds) ∧ h.get? a.ds = some (kDesc a.c a.k16) ∧ h.get? a.cell = some (cellO F) ∧
   h.get? a.f0 = some (fObj (fdK 2 "cmp_to_key.<locals>.K.__init__" [] (.ref a.g0) .none)) ∧ h.get? a.f1 = some (fObj (fdK 3 "cmp_to_key.<locals>.K.__lt__" [("mycmp", a.cell)] (.ref a.g1) (.ref a.t1))) ∧ h.get? a.f3 = some (fObj (fdK 5 "cmp_to_key.<locals>.K.__eq__" [("mycmp", a.cell)] (.ref a.g3) (.ref a.t3))) ∧
   h.get? a.g0 = some (codeO a.o0) ∧ h.get? a.g1 = some (codeO a.o1) ∧ h.get? a.g3 = some (codeO a.o3)
noncomputable def KA.new (a : KA) (n : Nat) : Prop := n ≤ a.c ∧ n ≤ a.ns ∧ n ≤ a.ds ∧ n ≤ a.cell ∧ n ≤ a.f0 ∧ n ≤ a.f1 ∧ n ≤ a.f3 ∧ n ≤ a.g0 ∧ n ≤ a.g1 ∧ n ≤ a.g3

theorem SV.ret_chg {V : SV} {c o : Ld} : ∀ ks r s, SV.ret { V with olds := o, chg := c } ks r s = SV.ret V ks r s
  | [], _, _ => rfl
  | k :: ks, r, s => by
    have e : SV.ret { V with olds := o, chg := c } ks = SV.ret V ks := funext fun r => funext fun s => SV.ret_chg ks r s
    unfold SV.ret
    rw [e]
    rfl
theorem SV.means_chg {V : SV} {c o : Ld} {ks : List Kn} {t : Sem PySem.Fin} {s : Shared} (h : SV.means { V with olds := o, chg := c } ks t s) : V.means ks t s := by
  have e : SV.ret { V with olds := o, chg := c } ks = SV.ret V ks := funext fun r => funext fun s => SV.ret_chg ks r s
  unfold SV.means at h ⊢
  rw [e] at h
  exact h
theorem List.set_getElem?_self' {α : Type} {L : List α} {i : Nat} {q : α} (h : L[i]? = some q) : L.set i q = L := by
  refine List.ext_getElem? fun j => ?_
  rw [List.getElem?_set]
  by_cases hj : i = j
  · subst hj
    have hi : i < L.length := by
      by_cases hi : i < L.length
      · exact hi
      · rw [List.getElem?_eq_none (by omega)] at h; cases h
    rw [if_pos rfl, if_pos hi, h]
  · rw [if_neg hj]
theorem fin_obj {V : SV} {t : Sem PySem.Fin} {ks : List Kn} {L : Ld} {z tk : Nat} {q : Addr × Obj} {o' : Obj} (i : Nat) (h : L[i]? = some q) (e : q.2 = o') (x : V.fin t ks (L.set i (q.1, o')) z tk []) : V.fin t ks L z tk [] := by
  subst e
  rwa [List.set_getElem?_self' h] at x
theorem fin_putN {V : SV} {t : Sem PySem.Fin} {ks : List Kn} {L : Ld} {z tk : Nat} {a : Addr} {name : Str} {hs : Int} {key v : Value} {l : List DictEntry} {n : Nat} (i : Nat) (h : L[i]? = some (a, ZFast.zw15148967442446096172 name hs key v (nsR l n)))
    (e : ZFast.zw15148967442446096172 name hs key v (nsR l n) = nsR (⟨hs, key, v⟩ :: l) (n + 1)) (x : V.fin t ks (L.set i (a, nsR (⟨hs, key, v⟩ :: l) (n + 1))) z tk []) : V.fin t ks L z tk [] := fin_obj i h e x
theorem fin_grow {V : SV} {a c : Addr} {q : Option Value} {f : Obj → Obj} {k : Unit → Sem PySem.Fin} {ps more : Array Value} {o : Ld} {ks : List Kn} {L : Ld} {z tk : Nat} (hc : V.chg = []) (ht : V.h₀.TableAt c a ps) (hn : f (tableObj ps) = tableObj (ps ++ more)) (O : V.Ok)
    (ho : ∀ q ∈ o, V.h₀.get? q.1 = some q.2 ∧ (hasCls q.2 || away [(a, tableObj (ps ++ more))] q.1) = true)
    (x : SV.Ok { V with olds := o, chg := [(a, tableObj (ps ++ more))] } → SV.fin { V with olds := o, chg := [(a, tableObj (ps ++ more))] } (k ()) ks L z tk []) : V.fin (.update a q f k) ks L z tk [] := by
  refine ⟨(by intro e he; cases he), fun h D A A₁ b b1 => ?_⟩
  rw [hc] at D
  exact n_grow D ht hn fun h' D' => SV.means_chg ((x ⟨O.X, ho⟩).2 h' D') A A₁ b b1
noncomputable def hsK (w : World) (s : Str) : Int := condFn Int s.cps.isEmpty 0 (ZFast.zw12210062019545310541 (w.params.strHash s.cps))
theorem look_ns {name : Str} {c0 : Value} {d0 : Option Addr} {es : Array DictEntry} {n0 : Nat} {sl0 : Array (Option Value)} {v : Option Value} (hs : StrKeys es) (e : nsFind es name = v) :
    ZFast.zw12049290149238594875 name ⟨c0, d0, .dict es n0, sl0⟩ = Sem.pure v := by
  rw [← ZFast.ze12049290149238594875, nsLook_eq]
  subst e
  simp only [nsLookByArray, nsFind, findBy]
  cases hf : es.find? (·.key.isStr name) with
  | some e => rfl
  | none =>
    have : es.any (·.refKey) = false := by
      rw [Array.any_eq_false']; intro e he; obtain ⟨n, t, h⟩ := hs e he; simp [DictEntry.refKey, h]
    simp only [this, Bool.false_eq_true, if_false]; rfl
theorem cmpToKey : ∀ {w : World} {A : Around} {h : Heap} {g : Array GenState} {d : Drawn} {t : Nat} {os : OsState} {F : Addr} {c0 : Value} {d0 : Option Addr} {es : Array DictEntry} {n0 : Nat} {sl0 sl4 : Array (Option Value)} {Q : Value → Shared → Prop} (X : (heapK w.params).In h) (hT : h.TableAt 27 23 #[]) (h0 : h.get? 0 = some ⟨c0, d0, .dict es n0, sl0⟩) (hes : StrKeys es) (heb : nsFind es "__build_class__" = some (.builtin "__build_class__")) (heo : nsFind es "object" = some (.type "object")) (h4 : h.get? 4 = some ⟨.type "module", some 0, .plain, sl4⟩)
    (hQ : ∀ (a : KA) (h' : Heap) (tk' : Nat) (ps : Array Value), a.ok → (∀ b o, b ≠ 23 → h.get? b = some o → h'.get? b = some o) → h'.get? 23 = some (tableObj ps) → a.at (.ref F) h' → a.new h.objs.size → Q (.ref a.c) ⟨h', g, d, tk', os⟩)
    (hh : A.handled = none) (hdp : A.depth + 150 < recursionLimit) (hu : A.units + 700 < cLine), wpAny (model P.row.prog w) A (call (.ref 28) [.ref F]) Q (fun _ _ => False) ⟨h, g, d, t, os⟩ := by
  k_fill
  intro w A h g d t os F c0 d0 es n0 sl0 sl4 Q X hT h0 hes heb heo h4 hQ hh hdp hu
  obtain ⟨M, hM⟩ : ∃ M, h.objs.size = M + 129 := ⟨h.objs.size - 129, by have q : 128 < h.objs.size := Heap.lt_size (X 128 _ (by k_is)); omega⟩
  have D : Me h M 129 h [] [] := ⟨Mem.start h, hM⟩
  have hM0 : h.objs.size ≤ M + 129 := Nat.le_of_eq hM
  have O : SV.Ok ⟨P.row.prog, w, heapK w.params, [(0, ⟨c0, d0, .dict es n0, sl0⟩), (4, ⟨.type "module", some 0, .plain, sl4⟩), (23, tabObj #[])], [], M, h, A, (fun r s' => match r with | .ok (.ret v) => Q v s' | _ => False), g, d, os⟩ := ⟨X, OldsP.all ⟨⟨h0, by rw [show ∀ a, away [] a = true from fun _ => rfl, Bool.or_true]⟩, ⟨h4, rfl⟩, ⟨hT.2, by rw [show ∀ a, away [] a = true from fun _ => rfl, Bool.or_true]⟩, trivial⟩⟩
  refine wpAny_call (codeAny_mono (sim_call (V := ⟨P.row.prog, w, heapK w.params, [(0, ⟨c0, d0, .dict es n0, sl0⟩), (4, ⟨.type "module", some 0, .plain, sl4⟩), (23, tabObj #[])], [], M, h, A, (fun r s' => match r with | .ok (.ret v) => Q v s' | _ => False), g, d, os⟩) (by kernel_rfl) hh D ?_) ?_)
  · refine sim_run O (Q := SV.fin _) (fun _ _ _ _ _ _ h => h) [.k, .k, .a, .a, .l 0, .u 0] _ _ _ _ _ _ ?_
    (((with_unfolding_all (conv => whnf)); refine fin_clear (by repeat (first | exact trivial | refine ⟨rfl, ?_⟩)) ?_; (conv => arg 2; whnf)))
    refine fin_stack (by show A.depth + 5 * 1 < _; omega) (by show A.units + 20 * 1 < _; omega) (by intro e he; cases he) ?_
    intro st s1 s2 s3 s4
    refine sim_run O (Q := SV.fin _) (fun _ _ _ _ _ _ h => h) [.k] _ _ _ _ _ _ ?_
    (((with_unfolding_all (conv => whnf)); (conv => arg 2; whnf); (with_reducible rename (nearF _ = capN nearF _) => zr1); (with_reducible rename (overF _ = capN overF _) => zr2); (with_reducible rename (warmF _ = capN warmF _) => zr3); (with_reducible rename (roomF _ = false) => zr4); (try rw [zr1]); (conv => arg 2; whnf); (try rw [zr2]); (conv => arg 2; whnf); (try rw [zr3]); (conv => arg 2; whnf); (try rw [zr4])))
    refine sim_run O (Q := SV.fin _) (fun _ _ _ _ _ _ h => h) [.p, .s, .s, .o 0] _ _ _ _ _ _ ?_
    (((with_unfolding_all (conv => whnf)); refine fin_clear (by repeat (first | exact trivial | refine ⟨rfl, ?_⟩)) ?_; (conv => arg 2; dsimp only)))
    rw [look_ns hes ?e]
    case e => with_unfolding_all exact heb
    refine sim_run O (Q := SV.fin _) (fun _ _ _ _ _ _ h => h) [.s, .k, .o 0] _ _ _ _ _ _ ?_
    (((with_unfolding_all (conv => whnf)); refine fin_clear (by repeat (first | exact trivial | refine ⟨rfl, ?_⟩)) ?_; (conv => arg 2; dsimp only)))
    rw [look_ns hes ?e]
    case e => with_unfolding_all exact heo
    refine sim_run O (Q := SV.fin _) (fun _ _ _ _ _ _ h => h) [.s, .a, .s, .s, .c, .p, .c, .p, .a, .p, .p, .c, .l 0, .p, .a, .p, .l 0, .k, .o 2, .s, .s, .s, .s, .a, .a, .s, .s, .a, .o 2] _ _ _ _ _ _ ?_
    (((with_unfolding_all (conv => whnf)); refine fin_clear (by repeat (first | exact trivial | refine ⟨rfl, ?_⟩)) ?_; (conv => arg 2; whnf)))
    refine fin_grow (o := [(0, ⟨c0, d0, .dict es n0, sl0⟩), (4, ⟨.type "module", some 0, .plain, sl4⟩)]) rfl hT rfl O (OldsP.all ⟨⟨h0, Bool.or_true _⟩, ⟨h4, rfl⟩, trivial⟩) ?_
    intro O1
    dsimp only at O1 ⊢
    refine sim_run O1 (Q := SV.fin _) (fun _ _ _ _ _ _ h => h) [.h, .k, .o 1, .k, .a] _ _ _ _ _ _ ?_
    (((with_unfolding_all (conv => whnf)); refine fin_clear (by repeat (first | exact trivial | refine ⟨rfl, ?_⟩)) ?_; (conv => arg 2; whnf)))
    refine fin_stack (by show A.depth + 5 * 1 < _; omega) (by show A.units + 20 * 1 < _; omega) (by intro e he; cases he) ?_
    intro st s1 s2 s3 s4
    refine sim_run O1 (Q := SV.fin _) (fun _ _ _ _ _ _ h => h) [.k] _ _ _ _ _ _ ?_
    (((with_unfolding_all (conv => whnf)); (conv => arg 2; whnf); (with_reducible rename (nearF _ = capN nearF _) => zr1); (with_reducible rename (overF _ = capN overF _) => zr2); (with_reducible rename (warmF _ = capN warmF _) => zr3); (with_reducible rename (roomF _ = false) => zr4); (try rw [zr1]); (conv => arg 2; whnf); (try rw [zr2]); (conv => arg 2; whnf); (try rw [zr3]); (conv => arg 2; whnf); (try rw [zr4])))
    refine fin_obj (q := (_, _)) 4 rfl (o' := nsR [] 0) (by kernel_rfl) ?_
    refine sim_run O1 (Q := SV.fin _) (fun _ _ _ _ _ _ h => h) [.l 4, .l 4, .k, .l 4, .s, .s, .l 4, .u 4] _ _ _ _ _ _ ?_
    (((with_unfolding_all (conv => whnf)); refine fin_clear (by repeat (first | exact trivial | refine ⟨rfl, ?_⟩)) ?_))
    refine fin_putN 4 rfl (by kernel_rfl) ?_
    conv => arg 4; dsimp only [List.set]
    refine sim_run O1 (Q := SV.fin _) (fun _ _ _ _ _ _ h => h) [.s, .l 4, .s, .s, .l 4, .u 4] _ _ _ _ _ _ ?_
    (((with_unfolding_all (conv => whnf)); refine fin_clear (by repeat (first | exact trivial | refine ⟨rfl, ?_⟩)) ?_))
    refine fin_putN 4 rfl (by kernel_rfl) ?_
    conv => arg 4; dsimp only [List.set]
    refine sim_run O1 (Q := SV.fin _) (fun _ _ _ _ _ _ h => h) [.s, .l 4, .s, .s, .l 4, .u 4] _ _ _ _ _ _ ?_
    (((with_unfolding_all (conv => whnf)); refine fin_clear (by repeat (first | exact trivial | refine ⟨rfl, ?_⟩)) ?_))
    refine fin_putN 4 rfl (by kernel_rfl) ?_
    conv => arg 4; dsimp only [List.set]
    refine sim_run O1 (Q := SV.fin _) (fun _ _ _ _ _ _ h => h) [.c, .s, .s, .s, .s, .l 4, .s, .s, .l 4, .u 4] _ _ _ _ _ _ ?_
    (((with_unfolding_all (conv => whnf)); refine fin_clear (by repeat (first | exact trivial | refine ⟨rfl, ?_⟩)) ?_))
    refine fin_obj (q := (_, _)) 4 rfl (o' := nsR [⟨_, _, _⟩, ⟨_, _, _⟩, ⟨_, _, _⟩] 3) (by with_unfolding_all rfl) ?_
    refine sim_run O1 (Q := SV.fin _) (fun _ _ _ _ _ _ h => h) [.s, .s, .s, .s, .a, .s, .s, .l 5, .s, .s, .l 5, .u 5] _ _ _ _ _ _ ?_
    (((with_unfolding_all (conv => whnf)); refine fin_clear (by repeat (first | exact trivial | refine ⟨rfl, ?_⟩)) ?_))
    refine fin_putN 5 rfl (by kernel_rfl) ?_
    conv => arg 4; dsimp only [List.set]
    refine sim_run O1 (Q := SV.fin _) (fun _ _ _ _ _ _ h => h) [.s, .s, .l 2, .l 3, .s, .s, .s, .a, .a, .s, .s, .a, .a, .a, .s, .s, .a, .l 9, .u 9, .l 9, .k, .o 1, .k, .a, .s, .s, .l 12, .s, .s, .l 12] _ _ _ _ _ _ ?_
    (((with_unfolding_all (conv => whnf)); refine fin_clear (by repeat (first | exact trivial | refine ⟨rfl, ?_⟩)) ?_))
    refine sim_run O1 (Q := SV.fin _) (fun _ _ _ _ _ _ h => h) [.u 12] _ _ _ _ _ _ ?_
    (((with_unfolding_all (conv => whnf)); refine fin_clear (by repeat (first | exact trivial | refine ⟨rfl, ?_⟩)) ?_))
    refine fin_putN 12 rfl (by kernel_rfl) ?_
    conv => arg 4; dsimp only [List.set]
    refine sim_run O1 (Q := SV.fin _) (fun _ _ _ _ _ _ h => h) [.s, .s, .a, .l 10, .l 11, .s, .s, .s, .s, .a, .a, .s, .s, .a, .a, .a, .s, .s, .a, .l 17, .u 17, .l 17, .k, .o 1, .k, .a, .s, .s, .l 20, .s] _ _ _ _ _ _ ?_
    (((with_unfolding_all (conv => whnf)); refine fin_clear (by repeat (first | exact trivial | refine ⟨rfl, ?_⟩)) ?_))
    refine sim_run O1 (Q := SV.fin _) (fun _ _ _ _ _ _ h => h) [.s, .l 20, .u 20] _ _ _ _ _ _ ?_
    (((with_unfolding_all (conv => whnf)); refine fin_clear (by repeat (first | exact trivial | refine ⟨rfl, ?_⟩)) ?_))
    refine fin_putN 20 rfl (by kernel_rfl) ?_
    conv => arg 4; dsimp only [List.set]
    refine sim_run O1 (Q := SV.fin _) (fun _ _ _ _ _ _ h => h) [.s, .s, .a, .l 18, .l 19, .s, .s, .s, .s, .a, .a, .s, .s, .a, .a, .a, .s, .s, .a, .l 25, .u 25, .l 25, .k, .o 1, .k, .a, .s, .s, .l 28, .s] _ _ _ _ _ _ ?_
    (((with_unfolding_all (conv => whnf)); refine fin_clear (by repeat (first | exact trivial | refine ⟨rfl, ?_⟩)) ?_))
    refine sim_run O1 (Q := SV.fin _) (fun _ _ _ _ _ _ h => h) [.s, .l 28, .u 28] _ _ _ _ _ _ ?_
    (((with_unfolding_all (conv => whnf)); refine fin_clear (by repeat (first | exact trivial | refine ⟨rfl, ?_⟩)) ?_))
    refine fin_putN 28 rfl (by kernel_rfl) ?_
    conv => arg 4; dsimp only [List.set]
    refine sim_run O1 (Q := SV.fin _) (fun _ _ _ _ _ _ h => h) [.s, .s, .a, .l 26, .l 27, .s, .s, .s, .s, .a, .a, .s, .s, .a, .a, .a, .s, .s, .a, .l 33, .u 33, .l 33, .k, .o 1, .k, .a, .s, .s, .l 36, .s] _ _ _ _ _ _ ?_
    (((with_unfolding_all (conv => whnf)); refine fin_clear (by repeat (first | exact trivial | refine ⟨rfl, ?_⟩)) ?_))
    refine sim_run O1 (Q := SV.fin _) (fun _ _ _ _ _ _ h => h) [.s, .l 36, .u 36] _ _ _ _ _ _ ?_
    (((with_unfolding_all (conv => whnf)); refine fin_clear (by repeat (first | exact trivial | refine ⟨rfl, ?_⟩)) ?_))
    refine fin_putN 36 rfl (by kernel_rfl) ?_
    conv => arg 4; dsimp only [List.set]
    refine sim_run O1 (Q := SV.fin _) (fun _ _ _ _ _ _ h => h) [.s, .s, .a, .l 34, .l 35, .s, .s, .s, .s, .a, .a, .s, .s, .a, .a, .a, .s, .s, .a, .l 41, .u 41, .l 41, .k, .o 1, .k, .a, .s, .s, .l 44, .s] _ _ _ _ _ _ ?_
    (((with_unfolding_all (conv => whnf)); refine fin_clear (by repeat (first | exact trivial | refine ⟨rfl, ?_⟩)) ?_))
    refine sim_run O1 (Q := SV.fin _) (fun _ _ _ _ _ _ h => h) [.s, .l 44, .u 44] _ _ _ _ _ _ ?_
    (((with_unfolding_all (conv => whnf)); refine fin_clear (by repeat (first | exact trivial | refine ⟨rfl, ?_⟩)) ?_))
    refine fin_putN 44 rfl (by kernel_rfl) ?_
    conv => arg 4; dsimp only [List.set]
    refine sim_run O1 (Q := SV.fin _) (fun _ _ _ _ _ _ h => h) [.s, .s, .a, .l 42, .l 43, .s, .s, .s, .s, .a, .a, .s, .s, .a, .a, .a, .s, .s, .a, .l 49, .u 49, .l 49, .k, .o 1, .k, .a, .s, .s, .l 52, .s] _ _ _ _ _ _ ?_
    (((with_unfolding_all (conv => whnf)); refine fin_clear (by repeat (first | exact trivial | refine ⟨rfl, ?_⟩)) ?_))
    refine sim_run O1 (Q := SV.fin _) (fun _ _ _ _ _ _ h => h) [.s, .l 52, .u 52] _ _ _ _ _ _ ?_
    (((with_unfolding_all (conv => whnf)); refine fin_clear (by repeat (first | exact trivial | refine ⟨rfl, ?_⟩)) ?_))
    refine fin_putN 52 rfl (by kernel_rfl) ?_
    conv => arg 4; dsimp only [List.set]
    refine sim_run O1 (Q := SV.fin _) (fun _ _ _ _ _ _ h => h) [.s, .s, .s, .s, .l 52, .s, .s, .l 52, .u 52] _ _ _ _ _ _ ?_
    (((with_unfolding_all (conv => whnf)); refine fin_clear (by repeat (first | exact trivial | refine ⟨rfl, ?_⟩)) ?_))
    refine fin_putN 52 rfl (by kernel_rfl) ?_
    conv => arg 4; dsimp only [List.set]
    refine sim_run O1 (Q := SV.fin _) (fun _ _ _ _ _ _ h => h) [.s, .p, .s, .a, .l 53, .s, .s, .l 53, .u 53] _ _ _ _ _ _ ?_
    (((with_unfolding_all (conv => whnf)); refine fin_clear (by repeat (first | exact trivial | refine ⟨rfl, ?_⟩)) ?_))
    refine fin_putN 53 rfl (by kernel_rfl) ?_
    conv => arg 4; dsimp only [List.set]
    refine sim_run O1 (Q := SV.fin _) (fun _ _ _ _ _ _ h => h) [.c, .p] _ _ _ _ _ _ ?_
    (((with_unfolding_all (conv => whnf)); refine fin_clear (by repeat (first | exact trivial | refine ⟨rfl, ?_⟩)) ?_))
    refine sim_run O1 (Q := SV.fin _) (fun _ _ _ _ _ _ h => h) [.c, .p, .l 55, .l 53, .l 55, .l 53, .l 53, .s, .l 48, .c, .a, .p, .l 49] _ _ _ _ _ _ ?_
    (((with_unfolding_all (conv => whnf)); refine fin_clear (by repeat (first | exact trivial | refine ⟨rfl, ?_⟩)) ?_))
    conv => arg 2; whnf
    refine fin_btt (or_mid (by kernel_rfl)) ?_
    refine sim_run O1 (Q := SV.fin _) (fun _ _ _ _ _ _ h => h) [.l 49, .l 0, .l 0, .u 0, .l 0, .p, .l 0, .a, .l 0, .l 0, .l 0, .a, .u 0] _ _ _ _ _ _ ?_
    (((with_unfolding_all (conv => whnf)); refine fin_clear (by repeat (first | exact trivial | refine ⟨rfl, ?_⟩)) ?_))
    refine sim_run O1 (Q := SV.fin _) (fun _ _ _ _ _ _ h => h) [.u 0, .u 0, .l 1, .u 1, .l 1, .l 1, .l 1, .l 1, .l 1] _ _ _ _ _ _ ?_
    (((with_unfolding_all (conv => whnf)); refine fin_clear (by repeat (first | exact trivial | refine ⟨rfl, ?_⟩)) ?_))
    conv => arg 2; whnf
    conv => arg 2; arg 27; arg 2; tactic => exact filt _ _
    refine sim_run O1 (Q := SV.fin _) (fun _ _ _ _ _ _ h => h) [.l 0, .u 0, .l 0, .u 0] _ _ _ _ _ _ ?_
    (((with_unfolding_all (conv => whnf)); refine fin_clear (by repeat (first | exact trivial | refine ⟨rfl, ?_⟩)) ?_))
    refine fin_obj (q := (_, _)) 0 rfl (o' := kCls (M + 188) (M + 189) (M + 131) t (t + 9) [some (.builtin "object.__new__")]) (by kernel_rfl) ?_
    conv => arg 4; dsimp only [List.set]
    refine fin_obj (q := (_, _)) 1 rfl (o' := nsF [⟨hsK w "__module__", .str "__module__" (t + 8), .str "cpy313.functools" (t + 13)⟩, ⟨hsK w "__firstlineno__", .str "__firstlineno__" (t + 12), .int 7 (t + 11)⟩, ⟨hsK w "__slots__", .str "__slots__" (t + 16), .ref (M + 138)⟩, ⟨hsK w "__init__", .str "__init__" (t + 24), .ref (M + 145)⟩, ⟨hsK w "__lt__", .str "__lt__" (t + 33), .ref (M + 153)⟩, ⟨hsK w "__gt__", .str "__gt__" (t + 42), .ref (M + 161)⟩, ⟨hsK w "__eq__", .str "__eq__" (t + 51), .ref (M + 169)⟩, ⟨hsK w "__le__", .str "__le__" (t + 60), .ref (M + 177)⟩, ⟨hsK w "__ge__", .str "__ge__" (t + 69), .ref (M + 185)⟩, ⟨hsK w "__hash__", .str "__hash__" (t + 70), .none⟩, ⟨hsK w "__static_attributes__", .str "__static_attributes__" (t + 72), .ref (M + 186)⟩] 1) (by kernel_rfl) ?_
    conv => arg 4; dsimp only [List.set]
    refine sim_run O1 (Q := SV.fin _) (fun _ _ _ _ _ _ h => h) [.l 0, .l 0, .l 0, .l 1, .l 1, .s, .a, .l 2, .s, .s, .l 2, .u 2, .l 1, .u 1, .l 1, .u 1, .l 2, .s, .s, .l 2, .u 2, .l 2, .l 2, .l 2, .l 2, .l 52, .l 45, .l 37, .l 29, .l 21, .l 13, .l 5, .l 4, .l 0, .c, .p, .l 1, .c, .p, .a, .p, .l 0, .l 0, .c, .l 0, .p, .l 2, .l 2, .l 2] _ _ _ _ _ _ ?_
    (((with_unfolding_all (conv => whnf)); refine fin_clear (by repeat (first | exact trivial | refine ⟨rfl, ?_⟩)) ?_))
    conv => arg 2; whnf
    conv => arg 2; arg 27; whnf; arg 3; tactic => exact has_self (M + 189) "object"
    refine sim_run O1 (Q := SV.fin _) (fun _ _ _ _ _ _ h => h) [.l 0, .u 0, .l 0, .u 0, .l 0, .u 0, .p, .p, .s, .l 0, .c, .l 0, .p, .l 0, .l 0, .l 0, .k, .l 2] _ _ _ _ _ _ ?_
    (((with_unfolding_all (conv => whnf)); refine fin_clear (by repeat (first | exact trivial | refine ⟨rfl, ?_⟩)) ?_))
    conv => arg 2; whnf
    conv => arg 2; arg 27; arg 4; tactic => exact drop_self (M + 189) "object"
    rw [cond_tt ?e1]
    case e1 => with_unfolding_all exact refl_beq (M + 189)
    refine sim_run O1 (Q := SV.fin _) (fun _ _ _ _ _ _ h => h) [.c, .p, .l 2, .l 2, .a, .p, .p, .c, .l 0, .l 3, .l 3, .l 3, .l 3, .p, .p, .p, .l 3, .l 3, .c, .l 3, .p, .p, .p, .s, .s, .s, .s, .l 63, .u 63, .s, .s, .s, .l 63] _ _ _ _ _ _ ?_
    with_unfolding_all (conv => whnf)
    refine fin_done (f := .ret (.ref (M + 189))) (by kernel_rfl) (by repeat (first | exact trivial | refine ⟨rfl, ?_⟩)) ?_
    intro hp D1
    have hl : ∀ k, 129 ≤ k → h.objs.size ≤ M + k := fun k hk => Nat.le_trans hM0 (Nat.add_le_add_left hk M)
    refine' hQ ⟨M + 189, M + 188, M + 190, M + 131, M + 130, M + 145, M + 153, M + 161, M + 169, M + 177, M + 185, M + 144, M + 152, M + 168, M + 146, M + 162, t, t + 9, t + 73, t + 18, t + 26, t + 44,
      ⟨t + 8, t + 13, t + 12, t + 11, t + 16, t + 24, t + 33, t + 42, t + 51, t + 60, t + 69, t + 70, t + 72, t + 74, t + 75, hsK w "__module__", hsK w "__firstlineno__", hsK w "__slots__", hsK w "__init__", hsK w "__lt__", hsK w "__gt__", hsK w "__eq__", hsK w "__le__", hsK w "__ge__", hsK w "__hash__", hsK w "__static_attributes__", hsK w "obj", hsK w "__doc__", M + 138, M + 186⟩, _, _, _⟩ _ _ _ ?okA ?keepA (D1.mem.ch _ (.head _)).1 ⟨?c1, ?c2, ?c3, ?c4, ?c5, ?c6, ?c7, ?c8, ?c9, ?c10⟩ ⟨hl _ (by decide), hl _ (by decide), hl _ (by decide), hl _ (by decide), hl _ (by decide), hl _ (by decide), hl _ (by decide), hl _ (by decide), hl _ (by decide), hl _ (by decide)⟩
    case c8 => exact (D1.mem.at 48 (M + 144) _ rfl).trans (congrArg some (by with_unfolding_all rfl))
    case c9 => exact (D1.mem.at 40 (M + 152) _ rfl).trans (congrArg some (by with_unfolding_all rfl))
    case c10 => exact (D1.mem.at 24 (M + 168) _ rfl).trans (congrArg some (by with_unfolding_all rfl))
    case c1 => exact (D1.mem.at 3 (M + 189) _ rfl).trans (congrArg some (by kernel_rfl))
    case c2 => exact (D1.mem.at 4 (M + 188) _ rfl).trans (congrArg some (by kernel_rfl))
    case c3 => exact (D1.mem.at 2 (M + 190) _ rfl).trans (congrArg some (by kernel_rfl))
    case c4 => exact (D1.mem.at 62 (M + 130) _ rfl).trans (congrArg some (by kernel_rfl))
    case c5 => exact (D1.mem.at 47 (M + 145) _ rfl).trans (congrArg some (by kernel_rfl))
    case c6 => exact (D1.mem.at 39 (M + 153) _ rfl).trans (congrArg some (by kernel_rfl))
    case c7 => exact (D1.mem.at 23 (M + 169) _ rfl).trans (congrArg some (by kernel_rfl))
    case okA => exact ⟨by kernel_rfl, by kernel_rfl, by kernel_rfl⟩
    case keepA => exact fun b o hb e => D1.keepBut b o hb e
  · intro r s' hr
    cases r with
    | error e => exact hr
    | ok f => cases f <;> exact hr


end
section
open PySem.W.X
theorem arr2 {a : Array Value} {x : Value} (h : a[1]? = some x) : ∃ y r, a = (y :: x :: r).toArray := by
  obtain ⟨l⟩ := a
  match l, h with
  | [], h => simp at h
  | [_], h => simp at h
  | y :: z :: r, h =>
    have : z = x := by simpa using h
    exact ⟨y, r, by rw [this]⟩
/-- an object of the class K -/
noncomputable def kInst (c dd : Addr) (v : Value) : Obj := { cls := .ref c, dict := some dd, slots := #[some v] }
theorem keyCall : ∀ {w : World} {A : Around} {h : Heap} {g : Array GenState} {d : Drawn} {t : Nat} {os : OsState} {a : KA} {F : Value} {v : Addr} {Q : Value → Shared → Prop} (X : (heapK w.params).In h)
    (hat : a.at F h) (hok : a.ok)
    (hQ : ∀ (r dd : Addr) (h' : Heap) (tk' : Nat), h.StaysIn h' → h.objs.size ≤ r → h'.get? r = some (kInst a.c dd (.ref v)) → Q (.ref r) ⟨h', g, d, tk', os⟩)
    (hh : A.handled = none) (hdp : A.depth + 60 < recursionLimit) (hu : A.units + 300 < cLine), wpAny (model P.row.prog w) A (call (.ref a.c) [.ref v]) Q (fun _ _ => False) ⟨h, g, d, t, os⟩ := by
  k_fill
  intro w A h g d t os a F v Q X hat hok hQ hh hdp hu
  obtain ⟨M, hM⟩ : ∃ M, h.objs.size = M + 129 := ⟨h.objs.size - 129, by have q : 128 < h.objs.size := Heap.lt_size (X 128 _ (by k_is)); omega⟩
  have D : Me h M 129 h [] [] := ⟨Mem.start h, hM⟩
  obtain ⟨c, ns, ds, ba, cell, f0, f1, f2, f3, f4, f5, g0, g1, g3, t1, t3, k, k3, k16, q0, q1, q3, x, o0, o1, o3⟩ := a
  obtain ⟨e0, e1, e3⟩ := hok
  obtain ⟨hc, hns, hds, hcell, hf0, hf1, hf3, hg0, hg1, hg3⟩ := hat
  dsimp only at *
  obtain ⟨y0, r0, rfl⟩ := arr2 e0
  have O : SV.Ok ⟨P.row.prog, w, heapK w.params, [(c, kClsD ns c ba k k3), (ns, kNs x f0 f1 f2 f3 f4 f5 ds), (ds, kDesc c k16), (f0, fObj (fdK 2 "cmp_to_key.<locals>.K.__init__" [] (.ref g0) .none)), (g0, codeO (y0 :: .str "cmp_to_key.<locals>.K.__init__" q0 :: r0).toArray)], [], M, h, A, (fun r s' => match r with | .ok (.ret v) => Q v s' | _ => False), g, d, os⟩ := ⟨X, OldsP.all ⟨⟨hc, rfl⟩, ⟨hns, rfl⟩, ⟨hds, rfl⟩, ⟨hf0, rfl⟩, ⟨hg0, rfl⟩, trivial⟩⟩
  refine wpAny_call (codeAny_mono (sim_call (V := ⟨P.row.prog, w, heapK w.params, [(c, kClsD ns c ba k k3), (ns, kNs x f0 f1 f2 f3 f4 f5 ds), (ds, kDesc c k16), (f0, fObj (fdK 2 "cmp_to_key.<locals>.K.__init__" [] (.ref g0) .none)), (g0, codeO (y0 :: .str "cmp_to_key.<locals>.K.__init__" q0 :: r0).toArray)], [], M, h, A, (fun r s' => match r with | .ok (.ret v) => Q v s' | _ => False), g, d, os⟩) (by kernel_rfl) hh D ?_) ?_)
  · refine sim_run O (Q := SV.fin _) (fun _ _ _ _ _ _ h => h) [.o 0, .o 0, .p, .o 0, .p, .o 0, .o 0, .o 0, .c, .o 0, .o 0, .o 0, .o 0, .o 0, .o 0, .o 0, .p, .o 0, .o 0, .o 0, .o 0, .o 0, .o 0, .o 0, .o 0, .o 0, .o 0, .o 1, .o 0, .a, .a, .o 0, .p, .l 0, .o 0] _ _ _ _ _ _ ?_
    (((with_unfolding_all (conv => whnf)); refine fin_clear (by repeat (first | exact trivial | refine ⟨rfl, ?_⟩)) ?_; (conv => arg 2; whnf)))
    refine fin_bff (by with_unfolding_all exact congrArg Bool.not (has_self c "object")) ?_
    refine sim_run O (Q := SV.fin _) (fun _ _ _ _ _ _ h => h) [.l 0, .o 0, .o 0, .o 1, .o 3, .c, .o 3, .o 4, .a, .s, .s, .l 0, .u 0, .s, .s, .l 0, .u 0] _ _ _ _ _ _ ?_
    (((with_unfolding_all (conv => whnf)); refine fin_clear (by repeat (first | exact trivial | refine ⟨rfl, ?_⟩)) ?_; (conv => arg 2; whnf)))
    refine fin_stack (by show A.depth + 5 * 2 < _; omega) (by show A.units + 20 * 2 < _; omega) (by intro e he; cases he) ?_
    intro st s1 s2 s3 s4
    refine sim_run O (Q := SV.fin _) (fun _ _ _ _ _ _ h => h) [.k] _ _ _ _ _ _ ?_
    (((with_unfolding_all (conv => whnf)); (conv => arg 2; whnf); (with_reducible rename (nearF _ = capN nearF _) => zr1); (with_reducible rename (overF _ = capN overF _) => zr2); (with_reducible rename (warmF _ = capN warmF _) => zr3); (with_reducible rename (roomF _ = false) => zr4); (try rw [zr1]); (conv => arg 2; whnf); (try rw [zr2]); (conv => arg 2; whnf); (try rw [zr3]); (conv => arg 2; whnf); (try rw [zr4])))
    refine sim_run O (Q := SV.fin _) (fun _ _ _ _ _ _ h => h) [.p, .s, .s, .s, .l 0, .s, .l 0, .s, .s, .l 1, .o 0, .o 0, .o 1, .c, .l 1, .o 0, .p, .l 1, .o 0, .l 1, .o 0, .o 0, .o 1, .o 2, .s, .o 2, .c, .o 2, .p, .o 2, .o 2, .l 1, .o 0] _ _ _ _ _ _ ?_
    (((with_unfolding_all (conv => whnf)); refine fin_clear (by repeat (first | exact trivial | refine ⟨rfl, ?_⟩)) ?_; (conv => arg 2; whnf)))
    conv => arg 2; arg 27; whnf; arg 3; tactic => with_unfolding_all exact congrArg Bool.not (has_self c "object")
    refine sim_run O (Q := SV.fin _) (fun _ _ _ _ _ _ h => h) [.o 2, .o 2, .s, .p, .o 2, .o 2, .l 1, .o 0, .u 1, .p, .p, .s, .p] _ _ _ _ _ _ ?_
    with_unfolding_all (conv => whnf)
    refine fin_done (f := .ret (.ref (M + 130))) (by kernel_rfl) (by repeat (first | exact trivial | refine ⟨rfl, ?_⟩)) ?_
    intro hp D1
    refine hQ (M + 130) (M + 129) _ _ (fun b o e => D1.mem.keep b o e (by rw [show away [] b = true from rfl, Bool.or_true])) (by rw [hM]; exact Nat.add_le_add_left (by decide) M) ?_
    exact (D1.mem.at 1 (M + 130) _ rfl).trans (congrArg some (by kernel_rfl))
  · intro r s' hr
    cases r with
    | error e => exact hr
    | ok f => cases f <;> exact hr


end
section
open PySem.W.X
/-- what the comparison answers, around depth n and units m -/
noncomputable def CmpOk (w : World) (g : Array GenState) (d : Drawn) (os : OsState) (n m : Nat) (F vx vy : Value) (gp : Int) (h : Heap) : Prop :=
  ∀ (A : Around) (h' : Heap) (tk : Nat) (R : Result → Shared → Prop), A.handled = none → A.depth ≤ n → A.units ≤ m → h.StaysIn h' →
    (∀ h'' tk' u, h'.StaysIn h'' → R (.ok (.ret (.int gp u))) ⟨h'', g, d, tk', os⟩) → codeAny (model P.row.prog w) A (.call F ⟨[vx, vy], []⟩) R ⟨h', g, d, tk, os⟩
theorem both_eq {α : Type} {f t v : α} {b : Bool} (hf : f = v) (ht : t = v) : @Bool.rec (fun _ => α) f t b = v := by subst hf; cases b; rfl; exact ht
theorem keyLt : ∀ {w : World} {A : Around} {h : Heap} {g : Array GenState} {d : Drawn} {t : Nat} {os : OsState} {a : KA} {F : Addr} {x y dx dy vx vy : Addr} {gp : Int} {n m : Nat} {Q : Value → Shared → Prop} (X : (heapK w.params).In h)
    (hat : a.at (.ref F) h) (hok : a.ok) (hx : h.get? x = some (kInst a.c dx (.ref vx))) (hy : h.get? y = some (kInst a.c dy (.ref vy))) {fd : FuncData} (hFo : h.get? F = some (fObj fd)) (hF : CmpOk w g d os n m (.ref F) (.ref vx) (.ref vy) gp h)
    (hQ : ∀ (b : Bool) (h' : Heap) (tk' : Nat), h.StaysIn h' → (b = true ↔ gp < 0) → Q (.bool b) ⟨h', g, d, tk', os⟩)
    (hh : A.handled = none) (hn : A.depth + 60 ≤ n) (hm : A.units + 300 ≤ m) (hdp : A.depth + 60 < recursionLimit) (hu : A.units + 300 < cLine), wpAny (model P.row.prog w) A (call (.ref a.f1) [.ref x, .ref y]) Q (fun _ _ => False) ⟨h, g, d, t, os⟩ := by
  k_fill
  intro w A h g d t os a F x y dx dy vx vy gp n m Q X hat hok hx hy fd hFo hF hQ hh hn hm hdp hu
  obtain ⟨M, hM⟩ : ∃ M, h.objs.size = M + 129 := ⟨h.objs.size - 129, by have q : 128 < h.objs.size := Heap.lt_size (X 128 _ (by k_is)); omega⟩
  have D : Me h M 129 h [] [] := ⟨Mem.start h, hM⟩
  obtain ⟨c, ns, ds, ba, cell, f0, f1, f2, f3, f4, f5, g0, g1, g3, t1, t3, k, k3, k16, q0, q1, q3, xx, o0, o1, o3⟩ := a
  obtain ⟨e0, e1, e3⟩ := hok
  obtain ⟨hc, hns, hds, hcell, hf0, hf1, hf3, hg0, hg1, hg3⟩ := hat
  dsimp only at *
  obtain ⟨y1, r1, rfl⟩ := arr2 e1
  have O : SV.Ok ⟨P.row.prog, w, heapK w.params, [(c, kClsD ns c ba k k3), (ns, kNs xx f0 f1 f2 f3 f4 f5 ds), (ds, kDesc c k16), (f1, fObj (fdK 3 "cmp_to_key.<locals>.K.__lt__" [("mycmp", cell)] (.ref g1) (.ref t1))), (g1, codeO (y1 :: .str "cmp_to_key.<locals>.K.__lt__" q1 :: r1).toArray), (x, kInst c dx (.ref vx)), (y, kInst c dy (.ref vy)), (cell, cellO (.ref F)), (F, fObj fd)], [], M, h, A, (fun r s' => match r with | .ok (.ret v) => Q v s' | _ => False), g, d, os⟩ := ⟨X, OldsP.all ⟨⟨hc, rfl⟩, ⟨hns, rfl⟩, ⟨hds, rfl⟩, ⟨hf1, rfl⟩, ⟨hg1, rfl⟩, ⟨hx, rfl⟩, ⟨hy, rfl⟩, ⟨hcell, rfl⟩, ⟨hFo, rfl⟩, trivial⟩⟩
  refine wpAny_call (codeAny_mono (sim_call (V := ⟨P.row.prog, w, heapK w.params, [(c, kClsD ns c ba k k3), (ns, kNs xx f0 f1 f2 f3 f4 f5 ds), (ds, kDesc c k16), (f1, fObj (fdK 3 "cmp_to_key.<locals>.K.__lt__" [("mycmp", cell)] (.ref g1) (.ref t1))), (g1, codeO (y1 :: .str "cmp_to_key.<locals>.K.__lt__" q1 :: r1).toArray), (x, kInst c dx (.ref vx)), (y, kInst c dy (.ref vy)), (cell, cellO (.ref F)), (F, fObj fd)], [], M, h, A, (fun r s' => match r with | .ok (.ret v) => Q v s' | _ => False), g, d, os⟩) (by kernel_rfl) hh D ?_) ?_)
  · refine sim_run O (Q := SV.fin _) (fun _ _ _ _ _ _ h => h) [.o 3, .o 4, .a, .s, .s, .l 0, .u 0, .s, .s, .l 0, .u 0] _ _ _ _ _ _ ?_
    (((with_unfolding_all (conv => whnf)); refine fin_clear (by repeat (first | exact trivial | refine ⟨rfl, ?_⟩)) ?_; (conv => arg 2; whnf)))
    refine fin_stack (by show A.depth + 5 * 1 < _; omega) (by show A.units + 20 * 1 < _; omega) (by intro e he; cases he) ?_
    intro st s1 s2 s3 s4
    refine sim_run O (Q := SV.fin _) (fun _ _ _ _ _ _ h => h) [.k] _ _ _ _ _ _ ?_
    (((with_unfolding_all (conv => whnf)); (conv => arg 2; whnf); (with_reducible rename (nearF _ = capN nearF _) => zr1); (with_reducible rename (overF _ = capN overF _) => zr2); (with_reducible rename (warmF _ = capN warmF _) => zr3); (with_reducible rename (roomF _ = false) => zr4); (try rw [zr1]); (conv => arg 2; whnf); (try rw [zr2]); (conv => arg 2; whnf); (try rw [zr3]); (conv => arg 2; whnf); (try rw [zr4])))
    refine sim_run O (Q := SV.fin _) (fun _ _ _ _ _ _ h => h) [.p, .s, .s, .s, .o 7, .s, .l 0, .s, .s, .o 5, .o 0, .o 0, .o 1, .c, .o 5, .o 0, .o 0, .o 1, .o 2, .o 2, .s, .o 0, .o 0, .o 1, .c, .o 2, .p, .o 2, .o 2, .o 5, .o 0] _ _ _ _ _ _ ?_
    (((with_unfolding_all (conv => whnf)); refine fin_clear (by repeat (first | exact trivial | refine ⟨rfl, ?_⟩)) ?_; (conv => arg 2; whnf)))
    conv => arg 2; arg 27; whnf; arg 3; tactic => with_unfolding_all exact congrArg Bool.not (has_self c "object")
    refine sim_run O (Q := SV.fin _) (fun _ _ _ _ _ _ h => h) [.o 2, .s, .o 2, .p, .o 2, .o 2, .o 5, .o 0, .o 5, .p, .p, .s, .l 0, .s, .s, .o 6, .o 0, .o 0, .o 1, .c, .o 6, .o 0, .o 0, .o 1, .o 2, .o 2, .s, .o 0, .o 0, .o 1, .c, .o 2, .p, .o 2, .o 2, .o 6, .o 0] _ _ _ _ _ _ ?_
    (((with_unfolding_all (conv => whnf)); refine fin_clear (by repeat (first | exact trivial | refine ⟨rfl, ?_⟩)) ?_; (conv => arg 2; whnf)))
    conv => arg 2; arg 27; whnf; arg 3; tactic => with_unfolding_all exact congrArg Bool.not (has_self c "object")
    refine sim_run O (Q := SV.fin _) (fun _ _ _ _ _ _ h => h) [.o 2, .s, .o 2, .p, .o 2, .o 2, .o 6, .o 0, .o 6, .p, .p, .s, .o 8] _ _ _ _ _ _ ?_
    (((with_unfolding_all (conv => whnf)); refine fin_clear (by repeat (first | exact trivial | refine ⟨rfl, ?_⟩)) ?_; (conv => arg 2; whnf)))
    refine ⟨(by intro e he; cases he), fun hp D1 A1 A2 b1 b2 => ?_⟩
    refine n_callE (c' := .call (.ref F) ⟨[.ref vx, .ref vy], []⟩) (by kernel_rfl) ?_
    refine hF _ _ _ _ b1.1 (by have := b1.2.1; dsimp only [List.length_nil, Around.mark] at this ⊢; omega) (by have := b1.2.2; dsimp only [List.length_nil, Around.mark] at this ⊢; omega) (fun b o e => D1.mem.keep b o e (by rw [show away [] b = true from rfl, Bool.or_true])) ?_
    intro h2 tk2 u2 st2
    show wpAny _ _ _ _ _ _
    have z3 := D1.sz
    have hle : h.objs.size ≤ h2.objs.size := by
      have q2 : M + 129 < h2.objs.size := Heap.lt_size (st2 _ _ (D1.mem.nw (M + 129, _) (.head _)).1)
      omega
    obtain ⟨M2, hM2⟩ : ∃ M2, h2.objs.size = M2 + 129 := ⟨h2.objs.size - 129, by omega⟩
    have D4 := D1.grown (M' := M2) (z' := 129) st2 hM2 [] (by intro p hp; cases hp) (by simp) (by dsimp only at z3 ⊢; omega)
    dsimp only [List.nil_append] at D4
    have O2 : SV.Ok ⟨P.row.prog, w, heapK w.params, [(c, kClsD ns c ba k k3), (ns, kNs xx f0 f1 f2 f3 f4 f5 ds), (ds, kDesc c k16), (f1, fObj (fdK 3 "cmp_to_key.<locals>.K.__lt__" [("mycmp", cell)] (.ref g1) (.ref t1))), (g1, codeO (y1 :: .str "cmp_to_key.<locals>.K.__lt__" q1 :: r1).toArray), (x, kInst c dx (.ref vx)), (y, kInst c dy (.ref vy)), (cell, cellO (.ref F)), (F, fObj fd)], [], M2, h, A, (fun r s' => match r with | .ok (.ret v) => Q v s' | _ => False), g, d, os⟩ := ⟨O.X, O.O⟩
    refine (?fin : SV.fin ⟨P.row.prog, w, heapK w.params, [(c, kClsD ns c ba k k3), (ns, kNs xx f0 f1 f2 f3 f4 f5 ds), (ds, kDesc c k16), (f1, fObj (fdK 3 "cmp_to_key.<locals>.K.__lt__" [("mycmp", cell)] (.ref g1) (.ref t1))), (g1, codeO (y1 :: .str "cmp_to_key.<locals>.K.__lt__" q1 :: r1).toArray), (x, kInst c dx (.ref vx)), (y, kInst c dy (.ref vy)), (cell, cellO (.ref F)), (F, fObj fd)], [], M2, h, A, (fun r s' => match r with | .ok (.ret v) => Q v s' | _ => False), g, d, os⟩ _ [] _ 129 tk2 []).2 h2 D4 A1 A2 b1 b2
    refine sim_run O2 (Q := SV.fin _) (fun _ _ _ _ _ _ h => h) [.s, .s, .s, .s] _ _ _ _ _ _ ?_
    (((with_unfolding_all (conv => whnf)); refine fin_clear (by repeat (first | exact trivial | refine ⟨rfl, ?_⟩)) ?_; (conv => arg 2; whnf)))
    conv => arg 2; (repeat (arg 27; whnf)); tactic => exact both_eq (v := Sem.pure (some (Value.builtin "int.__lt__", [Value.int gp u2]))) (by kernel_rfl) (by kernel_rfl)
    refine sim_run O2 (Q := SV.fin _) (fun _ _ _ _ _ _ h => h) [.c, .p, .p] _ _ _ _ _ _ ?_
    with_unfolding_all (conv => whnf)
    refine fin_done (f := .ret (.bool (@decide (gp < 0) (Z.ltZ gp 0)))) (by kernel_rfl) (by repeat (first | exact trivial | refine ⟨rfl, ?_⟩)) ?_
    intro hp D5
    exact hQ _ _ _ (fun b o e => D5.mem.keep b o e (by rw [show away [] b = true from rfl, Bool.or_true])) (@decide_eq_true_iff _ (Z.ltZ gp 0))
  · intro r s' hr
    cases r with
    | error e => exact hr
    | ok f => cases f <;> exact hr
theorem keyEq : ∀ {w : World} {A : Around} {h : Heap} {g : Array GenState} {d : Drawn} {t : Nat} {os : OsState} {a : KA} {F : Addr} {x y dx dy vx vy : Addr} {gp : Int} {n m : Nat} {Q : Value → Shared → Prop} (X : (heapK w.params).In h)
    (hat : a.at (.ref F) h) (hok : a.ok) (hx : h.get? x = some (kInst a.c dx (.ref vx))) (hy : h.get? y = some (kInst a.c dy (.ref vy))) {fd : FuncData} (hFo : h.get? F = some (fObj fd)) (hF : CmpOk w g d os n m (.ref F) (.ref vx) (.ref vy) gp h)
    (hQ : ∀ (b : Bool) (h' : Heap) (tk' : Nat), h.StaysIn h' → (b = true ↔ gp = 0) → Q (.bool b) ⟨h', g, d, tk', os⟩)
    (hh : A.handled = none) (hn : A.depth + 60 ≤ n) (hm : A.units + 300 ≤ m) (hdp : A.depth + 60 < recursionLimit) (hu : A.units + 300 < cLine), wpAny (model P.row.prog w) A (call (.ref a.f3) [.ref x, .ref y]) Q (fun _ _ => False) ⟨h, g, d, t, os⟩ := by
  k_fill
  intro w A h g d t os a F x y dx dy vx vy gp n m Q X hat hok hx hy fd hFo hF hQ hh hn hm hdp hu
  obtain ⟨M, hM⟩ : ∃ M, h.objs.size = M + 129 := ⟨h.objs.size - 129, by have q : 128 < h.objs.size := Heap.lt_size (X 128 _ (by k_is)); omega⟩
  have D : Me h M 129 h [] [] := ⟨Mem.start h, hM⟩
  obtain ⟨c, ns, ds, ba, cell, f0, f1, f2, f3, f4, f5, g0, g1, g3, t1, t3, k, k3, k16, q0, q1, q3, xx, o0, o1, o3⟩ := a
  obtain ⟨e0, e1, e3⟩ := hok
  obtain ⟨hc, hns, hds, hcell, hf0, hf1, hf3, hg0, hg1, hg3⟩ := hat
  dsimp only at *
  obtain ⟨y1, r1, rfl⟩ := arr2 e3
  have O : SV.Ok ⟨P.row.prog, w, heapK w.params, [(c, kClsD ns c ba k k3), (ns, kNs xx f0 f1 f2 f3 f4 f5 ds), (ds, kDesc c k16), (f3, fObj (fdK 5 "cmp_to_key.<locals>.K.__eq__" [("mycmp", cell)] (.ref g3) (.ref t3))), (g3, codeO (y1 :: .str "cmp_to_key.<locals>.K.__eq__" q3 :: r1).toArray), (x, kInst c dx (.ref vx)), (y, kInst c dy (.ref vy)), (cell, cellO (.ref F)), (F, fObj fd)], [], M, h, A, (fun r s' => match r with | .ok (.ret v) => Q v s' | _ => False), g, d, os⟩ := ⟨X, OldsP.all ⟨⟨hc, rfl⟩, ⟨hns, rfl⟩, ⟨hds, rfl⟩, ⟨hf3, rfl⟩, ⟨hg3, rfl⟩, ⟨hx, rfl⟩, ⟨hy, rfl⟩, ⟨hcell, rfl⟩, ⟨hFo, rfl⟩, trivial⟩⟩
  refine wpAny_call (codeAny_mono (sim_call (V := ⟨P.row.prog, w, heapK w.params, [(c, kClsD ns c ba k k3), (ns, kNs xx f0 f1 f2 f3 f4 f5 ds), (ds, kDesc c k16), (f3, fObj (fdK 5 "cmp_to_key.<locals>.K.__eq__" [("mycmp", cell)] (.ref g3) (.ref t3))), (g3, codeO (y1 :: .str "cmp_to_key.<locals>.K.__eq__" q3 :: r1).toArray), (x, kInst c dx (.ref vx)), (y, kInst c dy (.ref vy)), (cell, cellO (.ref F)), (F, fObj fd)], [], M, h, A, (fun r s' => match r with | .ok (.ret v) => Q v s' | _ => False), g, d, os⟩) (by kernel_rfl) hh D ?_) ?_)
  · refine sim_run O (Q := SV.fin _) (fun _ _ _ _ _ _ h => h) [.o 3, .o 4, .a, .s, .s, .l 0, .u 0, .s, .s, .l 0, .u 0] _ _ _ _ _ _ ?_
    (((with_unfolding_all (conv => whnf)); refine fin_clear (by repeat (first | exact trivial | refine ⟨rfl, ?_⟩)) ?_; (conv => arg 2; whnf)))
    refine fin_stack (by show A.depth + 5 * 1 < _; omega) (by show A.units + 20 * 1 < _; omega) (by intro e he; cases he) ?_
    intro st s1 s2 s3 s4
    refine sim_run O (Q := SV.fin _) (fun _ _ _ _ _ _ h => h) [.k] _ _ _ _ _ _ ?_
    (((with_unfolding_all (conv => whnf)); (conv => arg 2; whnf); (with_reducible rename (nearF _ = capN nearF _) => zr1); (with_reducible rename (overF _ = capN overF _) => zr2); (with_reducible rename (warmF _ = capN warmF _) => zr3); (with_reducible rename (roomF _ = false) => zr4); (try rw [zr1]); (conv => arg 2; whnf); (try rw [zr2]); (conv => arg 2; whnf); (try rw [zr3]); (conv => arg 2; whnf); (try rw [zr4])))
    refine sim_run O (Q := SV.fin _) (fun _ _ _ _ _ _ h => h) [.p, .s, .s, .s, .o 7, .s, .l 0, .s, .s, .o 5, .o 0, .o 0, .o 1, .c, .o 5, .o 0, .o 0, .o 1, .o 2, .o 2, .s, .o 0, .o 0, .o 1, .c, .o 2, .p, .o 2, .o 2, .o 5, .o 0] _ _ _ _ _ _ ?_
    (((with_unfolding_all (conv => whnf)); refine fin_clear (by repeat (first | exact trivial | refine ⟨rfl, ?_⟩)) ?_; (conv => arg 2; whnf)))
    conv => arg 2; arg 27; whnf; arg 3; tactic => with_unfolding_all exact congrArg Bool.not (has_self c "object")
    refine sim_run O (Q := SV.fin _) (fun _ _ _ _ _ _ h => h) [.o 2, .s, .o 2, .p, .o 2, .o 2, .o 5, .o 0, .o 5, .p, .p, .s, .l 0, .s, .s, .o 6, .o 0, .o 0, .o 1, .c, .o 6, .o 0, .o 0, .o 1, .o 2, .o 2, .s, .o 0, .o 0, .o 1, .c, .o 2, .p, .o 2, .o 2, .o 6, .o 0] _ _ _ _ _ _ ?_
    (((with_unfolding_all (conv => whnf)); refine fin_clear (by repeat (first | exact trivial | refine ⟨rfl, ?_⟩)) ?_; (conv => arg 2; whnf)))
    conv => arg 2; arg 27; whnf; arg 3; tactic => with_unfolding_all exact congrArg Bool.not (has_self c "object")
    refine sim_run O (Q := SV.fin _) (fun _ _ _ _ _ _ h => h) [.o 2, .s, .o 2, .p, .o 2, .o 2, .o 6, .o 0, .o 6, .p, .p, .s, .o 8] _ _ _ _ _ _ ?_
    (((with_unfolding_all (conv => whnf)); refine fin_clear (by repeat (first | exact trivial | refine ⟨rfl, ?_⟩)) ?_; (conv => arg 2; whnf)))
    refine ⟨(by intro e he; cases he), fun hp D1 A1 A2 b1 b2 => ?_⟩
    refine n_callE (c' := .call (.ref F) ⟨[.ref vx, .ref vy], []⟩) (by kernel_rfl) ?_
    refine hF _ _ _ _ b1.1 (by have := b1.2.1; dsimp only [List.length_nil, Around.mark] at this ⊢; omega) (by have := b1.2.2; dsimp only [List.length_nil, Around.mark] at this ⊢; omega) (fun b o e => D1.mem.keep b o e (by rw [show away [] b = true from rfl, Bool.or_true])) ?_
    intro h2 tk2 u2 st2
    show wpAny _ _ _ _ _ _
    have z3 := D1.sz
    have hle : h.objs.size ≤ h2.objs.size := by
      have q2 : M + 129 < h2.objs.size := Heap.lt_size (st2 _ _ (D1.mem.nw (M + 129, _) (.head _)).1)
      omega
    obtain ⟨M2, hM2⟩ : ∃ M2, h2.objs.size = M2 + 129 := ⟨h2.objs.size - 129, by omega⟩
    have D4 := D1.grown (M' := M2) (z' := 129) st2 hM2 [] (by intro p hp; cases hp) (by simp) (by dsimp only at z3 ⊢; omega)
    dsimp only [List.nil_append] at D4
    have O2 : SV.Ok ⟨P.row.prog, w, heapK w.params, [(c, kClsD ns c ba k k3), (ns, kNs xx f0 f1 f2 f3 f4 f5 ds), (ds, kDesc c k16), (f3, fObj (fdK 5 "cmp_to_key.<locals>.K.__eq__" [("mycmp", cell)] (.ref g3) (.ref t3))), (g3, codeO (y1 :: .str "cmp_to_key.<locals>.K.__eq__" q3 :: r1).toArray), (x, kInst c dx (.ref vx)), (y, kInst c dy (.ref vy)), (cell, cellO (.ref F)), (F, fObj fd)], [], M2, h, A, (fun r s' => match r with | .ok (.ret v) => Q v s' | _ => False), g, d, os⟩ := ⟨O.X, O.O⟩
    refine (?fin : SV.fin ⟨P.row.prog, w, heapK w.params, [(c, kClsD ns c ba k k3), (ns, kNs xx f0 f1 f2 f3 f4 f5 ds), (ds, kDesc c k16), (f3, fObj (fdK 5 "cmp_to_key.<locals>.K.__eq__" [("mycmp", cell)] (.ref g3) (.ref t3))), (g3, codeO (y1 :: .str "cmp_to_key.<locals>.K.__eq__" q3 :: r1).toArray), (x, kInst c dx (.ref vx)), (y, kInst c dy (.ref vy)), (cell, cellO (.ref F)), (F, fObj fd)], [], M2, h, A, (fun r s' => match r with | .ok (.ret v) => Q v s' | _ => False), g, d, os⟩ _ [] _ 129 tk2 []).2 h2 D4 A1 A2 b1 b2
    refine sim_run O2 (Q := SV.fin _) (fun _ _ _ _ _ _ h => h) [.s, .s, .s, .s] _ _ _ _ _ _ ?_
    (((with_unfolding_all (conv => whnf)); refine fin_clear (by repeat (first | exact trivial | refine ⟨rfl, ?_⟩)) ?_; (conv => arg 2; whnf)))
    conv => arg 2; (repeat (arg 27; whnf)); tactic => exact both_eq (v := Sem.pure (some (Value.builtin "int.__eq__", [Value.int gp u2]))) (by kernel_rfl) (by kernel_rfl)
    refine sim_run O2 (Q := SV.fin _) (fun _ _ _ _ _ _ h => h) [.c, .p, .p] _ _ _ _ _ _ ?_
    with_unfolding_all (conv => whnf)
    refine fin_done (f := .ret (.bool (@decide (gp = 0) (Z.eqZ gp 0)))) (by kernel_rfl) (by repeat (first | exact trivial | refine ⟨rfl, ?_⟩)) ?_
    intro hp D5
    exact hQ _ _ _ (fun b o e => D5.mem.keep b o e (by rw [show away [] b = true from rfl, Bool.or_true])) (@decide_eq_true_iff _ (Z.eqZ gp 0))
  · intro r s' hr
    cases r with
    | error e => exact hr
    | ok f => cases f <;> exact hr


end
end
section
/-- the tree with a comparison -/
noncomputable def evT {α : Type} (lt : Nat → Nat → Bool) : KasT α → α
  | .ret a => a
  | .ask i j k => evT lt (k (lt i j))
/-- the asks on the way are below n -/
noncomputable def inT {α : Type} (n : Nat) (lt : Nat → Nat → Bool) : KasT α → Bool
  | .ret _ => true
  | .ask i j k => Nat.blt i n && (Nat.blt j n && inT n lt (k (lt i j)))
/-- places by insertion -/
noncomputable def insAt (lt : Nat → Nat → Bool) (p : Nat) (o : List Nat) : List Nat :=
  let k := (o.filter fun k => !(lt p k)).length
  o.take k ++ p :: o.drop k
noncomputable def insO (lt : Nat → Nat → Bool) : Nat → List Nat
  | 0 => []
  | n + 1 => insAt lt n (insO lt n)
noncomputable def ltV (n : Nat) (v : List Nat) (i j : Nat) : Bool := Nat.blt i n && (Nat.blt j n && Nat.blt (v.getD i 0) (v.getD j 0))
noncomputable def chkT (n : Nat) : KasT (Array Nat) → List (List Nat) → Bool
  | .ret p, ws => ws.all fun w => p.toList == insO (ltV n w) n
  | .ask i j k, ws => ws.isEmpty || (Nat.blt i n && (Nat.blt j n && (chkT n (k true) (ws.filter fun w => ltV n w i j) && chkT n (k false) (ws.filter fun w => !(ltV n w i j)))))
theorem chkT_ok {n : Nat} : ∀ {t : KasT (Array Nat)} {ws : List (List Nat)}, chkT n t ws = true → ∀ w ∈ ws, inT n (ltV n w) t = true ∧ (evT (ltV n w) t).toList = insO (ltV n w) n
  | .ret p, ws, h, w, hw => ⟨rfl, by
      have := List.all_eq_true.mp h w hw
      exact beq_iff_eq.mp this⟩
  | .ask i j k, ws, h, w, hw => by
    rw [chkT] at h
    have hne : ws.isEmpty = false := by cases ws with | nil => cases hw | cons _ _ => rfl
    rw [hne] at h
    simp only [Bool.false_or, Bool.and_eq_true] at h
    obtain ⟨h1, h2, h3, h4⟩ := h
    rw [inT, evT, h1, h2]
    simp only [Bool.true_and]
    cases q : ltV n w i j with
    | true => exact chkT_ok h3 w (List.mem_filter.mpr ⟨hw, q⟩)
    | false => exact chkT_ok h4 w (List.mem_filter.mpr ⟨hw, by rw [q]; rfl⟩)
/-- all vectors below m of a length -/
noncomputable def vecs (m : Nat) : Nat → List (List Nat)
  | 0 => [[]]
  | n + 1 => (List.range m).flatMap fun a => (vecs m n).map fun v => a :: v
theorem mem_vecs {m : Nat} : ∀ {n : Nat} {v : List Nat}, v.length = n → (∀ x ∈ v, x < m) → v ∈ vecs m n
  | 0, v, h, _ => by
    cases v with
    | nil => exact List.mem_singleton.mpr rfl
    | cons _ _ => cases h
  | n + 1, v, h, hx => by
    cases v with
    | nil => cases h
    | cons a v =>
      refine List.mem_flatMap.mpr ⟨a, List.mem_range.mpr (hx a (.head _)), List.mem_map.mpr ⟨v, mem_vecs (by simpa using h) fun x hv => hx x (.tail _ hv), rfl⟩⟩
/-- the ranks that end with the least, the greatest, one between -/
noncomputable def vecW (n : Nat) : List (List Nat) := (List.range n).flatMap fun b => (List.range b).flatMap fun c => (vecs (b + 1) (n - 3)).map fun u => u ++ [0, b, c]
theorem mem_vecW {n : Nat} {u : List Nat} {b c : Nat} (hu : u.length = n - 3) (h1 : ∀ x ∈ u, x ≤ b) (hb : b < n) (hc : c < b) : u ++ [0, b, c] ∈ vecW n :=
  List.mem_flatMap.mpr ⟨b, List.mem_range.mpr hb, List.mem_flatMap.mpr ⟨c, List.mem_range.mpr hc, List.mem_map.mpr ⟨u, mem_vecs hu fun x hx => Nat.lt_succ_of_le (h1 x hx), rfl⟩⟩⟩
/-- each rank is the number of the less ones -/
noncomputable def okW (w : List Nat) : Bool := w.all fun x => Nat.beq x (w.filter fun y => Nat.blt y x).length
noncomputable def vecO (n : Nat) : List (List Nat) := (vecW n).filter okW
theorem mem_vecO {n : Nat} {u : List Nat} {b c : Nat} (hu : u.length = n - 3) (h1 : ∀ x ∈ u, x ≤ b) (hb : b < n) (hc : c < b) (ho : okW (u ++ [0, b, c]) = true) : u ++ [0, b, c] ∈ vecO n :=
  List.mem_filter.mpr ⟨mem_vecW hu h1 hb hc, ho⟩
theorem chk3 : chkT 3 (kas_sort 3) (vecO 3) = true := by decide +kernel
theorem chk4 : chkT 4 (kas_sort 4) (vecO 4) = true := by decide +kernel
theorem chk5 : chkT 5 (kas_sort 5) (vecO 5) = true := by decide +kernel
theorem chk6 : chkT 6 (kas_sort 6) (vecO 6) = true := by decide +kernel
theorem chkAll {n : Nat} (h3 : 3 ≤ n) (h6 : n ≤ 6) : chkT n (kas_sort n) (vecO n) = true := by
  have : n = 3 ∨ n = 4 ∨ n = 5 ∨ n = 6 := by omega
  rcases this with rfl | rfl | rfl | rfl
  · exact chk3
  · exact chk4
  · exact chk5
  · exact chk6
/-- the ranks told by counting -/
noncomputable def cnt (r : List Int) (x : Int) : Nat := (r.filter fun y => decide (y < x)).length
theorem cnt_le {x y : Int} (h : x ≤ y) : ∀ r : List Int, cnt r x ≤ cnt r y
  | [] => Nat.le_refl _
  | z :: r => by
    have ih := cnt_le h r
    unfold cnt at ih ⊢
    by_cases h1 : z < x
    · have h2 : z < y := by omega
      simp only [List.filter_cons, h1, h2, decide_true, if_true, List.length_cons]; omega
    · by_cases h2 : z < y
      · simp only [List.filter_cons, h1, h2, decide_true, decide_false, if_true, Bool.false_eq_true, if_false, List.length_cons]; omega
      · simp only [List.filter_cons, h1, h2, decide_false, Bool.false_eq_true, if_false]; omega
theorem cnt_lt {x y : Int} (h : x < y) : ∀ {r : List Int}, x ∈ r → cnt r x < cnt r y
  | [], hx => by cases hx
  | z :: r, hx => by
    have le := cnt_le (Int.le_of_lt h) r
    rcases List.mem_cons.mp hx with rfl | hx
    · unfold cnt at le ⊢
      have h1 : ¬ x < x := by omega
      simp only [List.filter_cons, h1, h, decide_true, decide_false, if_true, Bool.false_eq_true, if_false, List.length_cons]; omega
    · have ih := cnt_lt h hx
      unfold cnt at ih ⊢
      by_cases h1 : z < x
      · have h2 : z < y := by omega
        simp only [List.filter_cons, h1, h2, decide_true, if_true, List.length_cons]; omega
      · by_cases h2 : z < y
        · simp only [List.filter_cons, h1, h2, decide_true, decide_false, if_true, Bool.false_eq_true, if_false, List.length_cons]; omega
        · simp only [List.filter_cons, h1, h2, decide_false, Bool.false_eq_true, if_false]; omega
theorem cnt_iff {r : List Int} {x y : Int} (hx : x ∈ r) (hy : y ∈ r) : cnt r x < cnt r y ↔ x < y := by
  constructor
  · intro h
    refine Int.not_le.mp fun hle => ?_
    have := cnt_le hle r
    omega
  · intro h; exact cnt_lt h hx
theorem cnt_ok (r : List Int) : okW (r.map (cnt r)) = true := by
  refine List.all_eq_true.mpr fun x hx => ?_
  obtain ⟨a, ha, rfl⟩ := List.mem_map.mp hx
  have e : ((r.map (cnt r)).filter fun y => Nat.blt y (cnt r a)).length = cnt r a := by
    rw [List.filter_map, List.length_map]
    conv => rhs; unfold cnt
    refine congrArg List.length (List.filter_congr fun y hy => ?_)
    have := cnt_iff hy ha
    simp only [Function.comp, Nat.blt]
    by_cases q : y < a
    · rw [decide_eq_true q]; exact Nat.ble_eq_true_of_le (this.mpr q)
    · rw [decide_eq_false q]
      cases q2 : Nat.ble (cnt r y).succ (cnt r a) with
      | false => rfl
      | true => exact absurd (this.mp (Nat.le_of_ble_eq_true q2)) q
  rw [e]
  exact Nat.beq_refl _
theorem cnt_bound {r : List Int} {x : Int} (hx : x ∈ r) : cnt r x < r.length := by
  have h1 : cnt r x < cnt r (x + 1) := cnt_lt (by omega) hx
  have h2 : cnt r (x + 1) ≤ r.length := List.length_filter_le _ _
  omega
/-- the comparison of ranks -/
noncomputable def ltR (r : List Int) (i j : Nat) : Bool := Nat.blt i r.length && (Nat.blt j r.length && decide (r.getD i 0 < r.getD j 0))
theorem ltR_eq (r : List Int) : ltR r = ltV r.length (r.map (cnt r)) := by
  funext i j
  unfold ltR ltV
  cases hi : Nat.blt i r.length with
  | false => rfl
  | true =>
    cases hj : Nat.blt j r.length with
    | false => rfl
    | true =>
      have hi' : i < r.length := Nat.le_of_ble_eq_true hi
      have hj' : j < r.length := Nat.le_of_ble_eq_true hj
      have e1 : r.getD i 0 = r[i] := by simp [hi']
      have e2 : r.getD j 0 = r[j] := by simp [hj']
      have e3 : (r.map (cnt r)).getD i 0 = cnt r r[i] := by simp [hi']
      have e4 : (r.map (cnt r)).getD j 0 = cnt r r[j] := by simp [hj']
      rw [e1, e2, e3, e4]
      simp only [Bool.true_and]
      have := cnt_iff (List.getElem_mem hi') (List.getElem_mem hj')
      cases q : Nat.blt (cnt r r[i]) (cnt r r[j]) with
      | true => exact decide_eq_true (this.mp (Nat.le_of_ble_eq_true q))
      | false =>
        refine decide_eq_false fun hlt => ?_
        have := this.mpr hlt
        have := Nat.ble_eq_true_of_le this
        unfold Nat.blt at q
        rw [this] at q
        cases q
/-- the sort's tree, for ranks that end with the least, the greatest, one between -/
theorem sort_ok {u : List Int} {lo hi mid : Int} (hu : u.length ≤ 3) (h1 : ∀ x ∈ u, lo ≤ x ∧ x ≤ hi) (hlm : lo < mid) (hmh : mid < hi) :
    inT (u.length + 3) (ltR (u ++ [lo, hi, mid])) (kas_sort (u.length + 3)) = true ∧ (evT (ltR (u ++ [lo, hi, mid])) (kas_sort (u.length + 3))).toList = insO (ltR (u ++ [lo, hi, mid])) (u.length + 3) := by
  have hlen : (u ++ [lo, hi, mid]).length = u.length + 3 := by simp
  rw [ltR_eq, hlen]
  have hlo : cnt (u ++ [lo, hi, mid]) lo = 0 := by
    unfold cnt
    rw [List.length_eq_zero_iff, List.filter_eq_nil_iff]
    intro x hx
    rcases List.mem_append.mp hx with hx | hx
    · have := h1 x hx; simp; omega
    · simp only [List.mem_cons, List.not_mem_nil, or_false] at hx
      rcases hx with rfl | rfl | rfl <;> simp <;> omega
  have mlo : lo ∈ u ++ [lo, hi, mid] := by simp
  have mhi : hi ∈ u ++ [lo, hi, mid] := by simp
  have mmi : mid ∈ u ++ [lo, hi, mid] := by simp
  have e : (u ++ [lo, hi, mid]).map (cnt (u ++ [lo, hi, mid])) = u.map (cnt (u ++ [lo, hi, mid])) ++ [0, cnt (u ++ [lo, hi, mid]) hi, cnt (u ++ [lo, hi, mid]) mid] := by
    rw [List.map_append]; simp [hlo]
  have bd : ∀ x ∈ u ++ [lo, hi, mid], cnt (u ++ [lo, hi, mid]) x < u.length + 3 := fun x hx => by have := cnt_bound hx; rwa [hlen] at this
  have c1 : 0 < cnt (u ++ [lo, hi, mid]) mid := by have := (cnt_iff mlo mmi).mpr hlm; omega
  have c2 : cnt (u ++ [lo, hi, mid]) mid < cnt (u ++ [lo, hi, mid]) hi := (cnt_iff mmi mhi).mpr hmh
  refine chkT_ok (chkAll (by omega) (by omega)) _ ?_
  have ho := cnt_ok (u ++ [lo, hi, mid])
  rw [e] at ho ⊢
  refine mem_vecO (by simp) (fun x hx => ?_) (bd _ mhi) c2 ho
  obtain ⟨y, hy, rfl⟩ := List.mem_map.mp hx
  exact cnt_le (h1 y hy).2 _


end
section
section
variable {prog : Program} {w : World} {A : Around} {E : Value → Shared → Prop} {s : Shared} {κ : SortKind} {it : Array Keyed}
theorem kasWp_ev {α : Type} {J : Shared → Prop} {n : Nat} {lt : Nat → Nat → Bool} {Q : α → Shared → Prop}
    (ask : ∀ i j s, i < n → j < n → J s → kas_cmp prog w A κ it i j (fun b s' => b = lt i j ∧ J s') s) :
    ∀ (t : KasT α) (s : Shared), inT n lt t = true → J s → (∀ s', J s' → Q (evT lt t) s') → t.kasWp (kas_cmp prog w A κ it) Q s
  | .ret a, s, _, hJ, hQ => hQ s hJ
  | .ask i j k, s, hi, hJ, hQ => by
    rw [inT] at hi
    simp only [Bool.and_eq_true] at hi
    refine kas_cmp_mono (ask i j s (Nat.blt_eq ▸ hi.1) (Nat.blt_eq ▸ hi.2.1) hJ) fun b s' hb => ?_
    obtain ⟨rfl, hJ'⟩ := hb
    exact kasWp_ev ask (k (lt i j)) s' hi.2.2 hJ' hQ
variable {a kS : Addr} {vs : List Value} {e1 : Nat} {f T : Value} {P : PySem.Fin → Shared → Prop} {lt : Nat → Nat → Bool} {Kobj : Nat → Obj → Prop} {h0 : Heap}
/-- what a key's call gives -/
noncomputable def KeyMade (Kobj : Nat → Obj → Prop) (s : Shared) (i : Nat) (h : Heap) (k : Value) (s' : Shared) : Prop :=
  ∃ x o h' tk', k = .ref x ∧ Kobj i o ∧ s' = { s with heap := h', toks := tk' } ∧ h.StaysIn h' ∧ h.get? x = none ∧ h'.get? x = some o
/-- what a comparison gives -/
noncomputable def LtTold (s : Shared) (c : Bool) (h : Heap) (b : Bool) (s' : Shared) : Prop := b = c ∧ ∃ h' tk', s' = { s with heap := h', toks := tk' } ∧ h.StaysIn h'
theorem upd_other {h : Heap} {a b : Addr} {g : Obj → Obj} (hb : b ≠ a) : (h.update a g).get? b = h.get? b := Heap.get?_update_other _ _ (Ne.symm hb)
theorem sk_rest (hs0 : h0.StaysIn s.heap) (ha0 : h0.get? a = none) (hk0 : h0.get? kS = none) (hka : kS ≠ a) (hkS : s.heap.get? kS = some (seqObj "list" #[] 0)) (hA : s.heap.get? a = some (seqObj "list" #[] e1))
    (h2 : 2 ≤ vs.length) (h64 : vs.length < 64)
    (turn : ∀ i v, vs[i]? = some v → ∀ h tk, h0.StaysIn h → wpAny (model prog w) A (call f [v]) (KeyMade Kobj s i h) (fun _ _ => False) { s with heap := h, toks := tk })
    (ask : ∀ i j x y ox oy, i < vs.length → j < vs.length → ∀ h tk, h0.StaysIn h → Kobj i ox → Kobj j oy → h.get? x = some ox → h.get? y = some oy → wpAny (model prog w) A (keyLt' oneType' (.ref x) (.ref y)) (LtTold s (lt i j) h) (fun _ _ => False) { s with heap := h, toks := tk })
    (hT : ∀ i o x h, Kobj i o → h.get? x = some o → Looks (model prog w) h (typeOf (.ref x)) T) (hT1 : (T != Value.type "tuple") = true) (hT2 : (T == T) = true)
    (hin : inT vs.length lt (kas_sort vs.length) = true) (hlen : (evT lt (kas_sort vs.length)).size ≤ 100)
    (h : ∀ h' tk c, h0.StaysIn h' → h'.get? a = some (seqObj "list" ((evT lt (kas_sort vs.length)).toList.map fun i => vs.getD i Value.none).toArray c) → P (.done (.ret .none)) { s with heap := h', toks := tk }) :
    wpAny (model prog w) A (ksk_rest a f false vs.toArray e1 (.ref kS)) P E s := by
  unfold ksk_rest
  refine wpAny_bind (wpAny_rule ?_)
  rw [List.forIn_toArray]
  refine wpAny_bind (ksk_fold (fun i s' => ∃ h' tk kA e, s' = { s with heap := h', toks := tk } ∧ h0.StaysIn h' ∧ h'.get? a = some (seqObj "list" #[] e1) ∧ h'.get? kS = some (seqObj "list" kA e) ∧ kA.size = i ∧ ∀ j, j < i → ∃ x o, kA[j]? = some (.ref x) ∧ x ≠ kS ∧ x ≠ a ∧ Kobj j o ∧ h'.get? x = some o) vs 0 s
    ⟨s.heap, s.toks, #[], 0, rfl, hs0, hA, hkS, rfl, fun j hj => absurd hj (Nat.not_lt_zero _)⟩ ?step ?done)
  case step =>
    rintro j x s' hx ⟨h', tk, kA, e, rfl, st, ha, hk, hz, hks⟩
    simp only [Nat.zero_add] at hz hks ⊢
    have hj : j < vs.length := (List.getElem?_eq_some_iff.mp hx).1
    refine wpAny_bind (wpAny_attempt (wpAny_mono (turn j x hx h' tk st) (fun v s'' he => ?_) fun _ _ hF => hF.elim))
    obtain ⟨y, o, g, tk2, rfl, hKo, rfl, st2, hy0, hyo⟩ := he
    try dsimp only
    have hk2 := st2 _ _ hk
    have ha2 := st2 _ _ ha
    have hyk : y ≠ kS := fun q => by rw [q, hk] at hy0; cases hy0
    have hya : y ≠ a := fun q => by rw [q, ha] at hy0; cases hy0
    have hc2 := get?_update_seq hk2 (·.push (.ref y))
    refine wpAny_bind (listUpdate_at hk2 rfl ?_ (by rw [sizeLine_eq]; omega) (Nat.le_trans (Nat.le_of_eq (Array.size_push ..)) (by rw [sizeLine_eq]; omega)))
    refine wpAny_pure ⟨rfl, _, _, kA.push (.ref y), _, rfl, fun b o e => ?_, ?_, hc2, by rw [Array.size_push, hz], fun i hi => ?_⟩
    · rw [upd_other (fun q => by rw [q, hk0] at e; cases e)]
      exact st2 _ _ (st _ _ e)
    · rw [upd_other hka.symm]; exact ha2
    · by_cases hij : i < j
      · obtain ⟨x', o', q1, q2, q3, q4, q5⟩ := hks i hij
        refine ⟨x', o', ?_, q2, q3, q4, by rw [upd_other q2]; exact st2 _ _ q5⟩
        rw [Array.getElem?_push, if_neg (by omega)]; exact q1
      · have : i = j := by omega
        subst this
        exact ⟨y, o, by rw [Array.getElem?_push, if_pos hz.symm], hyk, hya, hKo, by rw [upd_other hyk]; exact hyo⟩
  case done =>
    rintro s' ⟨hk, tk, kA, e, rfl, st, ha, hkk, hz, hks⟩
    rw [Nat.zero_add] at hz hks
    try dsimp only
    refine wpAny_bind (listItems_at hkk rfl ?_)
    unfold ksk_end
    try dsimp only
    rw [if_neg (by decide), if_neg (by rw [List.size_toArray]; omega), if_neg (by rw [List.size_toArray]; omega)]
    have hkA : ∀ v ∈ kA.toList, Looks (model prog w) hk (typeOf v) T := fun v hv => by
      obtain ⟨i, hi, rfl⟩ := List.getElem_of_mem hv
      obtain ⟨x, o, q1, q2, q3, q4, q5⟩ := hks i (by rw [← hz, ← Array.length_toList]; exact hi)
      have : kA.toList[i] = .ref x := by
        rw [Array.getElem_toList]
        rw [Array.getElem?_eq_some_iff] at q1
        exact q1.2
      rw [this]
      exact hT i o x hk q4 q5
    refine wpAny_bind ?_
    have hkd := kas_kind (M := model prog w) (A := A) (E := E) (s := { s with heap := hk, toks := tk }) (vs := kA.toList) (T := T) (by rw [Array.length_toList, hz]; exact h2) hkA hT1 hT2 (Q := fun κ s' => κ = oneType' ∧ s' = { s with heap := hk, toks := tk }) ⟨rfl, rfl⟩
    rw [Array.toArray_toList] at hkd
    refine wpAny_mono hkd (fun κ s' hq => ?_) fun _ _ e => e
    obtain ⟨rfl, rfl⟩ := hq
    have hzip : (kA.zip vs.toArray).size = vs.length := by rw [Array.size_zip, hz, List.size_toArray, Nat.min_self]
    have est : SortSt.mk' oneType' (kA.zip vs.toArray) #[] 7 none = kas_st oneType' (kA.zip vs.toArray) (List.toArray (List.range vs.length)) := by
      show _ = SortSt.mk' oneType' ((List.toArray (List.range vs.length)).map (kas_item (kA.zip vs.toArray))) #[] 7 none
      rw [← hzip, kas_range]
    have hitem : ∀ i, i < vs.length → ∃ x o, kas_item (kA.zip vs.toArray) i = (.ref x, vs.getD i Value.none) ∧ Kobj i o ∧ hk.get? x = some o := fun i hi => by
      obtain ⟨x, o, q1, q2, q3, q4, q5⟩ := hks i hi
      refine ⟨x, o, ?_, q4, q5⟩
      unfold kas_item
      rw [Array.getD_eq_getD_getElem?, show (kA.zip vs.toArray)[i]? = some (Value.ref x, vs.getD i Value.none) from Array.getElem?_zip_eq_some.mpr ⟨q1, by rw [List.getElem?_toArray, List.getElem?_eq_getElem hi]; simp [hi]⟩]
      rfl
    have hsnd : ∀ i, (kas_item (kA.zip vs.toArray) i).2 = vs.getD i Value.none := fun i => by
      by_cases hi : i < vs.length
      · obtain ⟨x, o, q, _⟩ := hitem i hi; rw [q]
      · unfold kas_item
        rw [Array.getD_eq_getD_getElem?, Array.getElem?_eq_none (by rw [hzip]; omega)]
        simp [Nat.le_of_not_lt hi]
    have run := kas_runs (prog := prog) (w := w) (A := A) (E := E) (κ := oneType') (it := kA.zip vs.toArray) (s := { s with heap := hk, toks := tk })
      (Q := fun _ st' s' => ∃ h' tk', s' = { s with heap := h', toks := tk' } ∧ hk.StaysIn h' ∧ arrOf st' = (evT lt (kas_sort vs.length)).map (kas_item (kA.zip vs.toArray)) ∧ failedOf st' = none)
      (G := fun p s' => p = evT lt (kas_sort vs.length) ∧ ∃ h' tk', s' = { s with heap := h', toks := tk' } ∧ hk.StaysIn h')
      h2 h64 (fun p' st' s' a1 a2 a3 a4 => by obtain ⟨rfl, h', tk', e1, e2⟩ := a4; exact ⟨h', tk', e1, e2, a2, a3⟩)
      (kasWp_ev (J := fun s' => ∃ h' tk', s' = { s with heap := h', toks := tk' } ∧ hk.StaysIn h') (n := vs.length) (lt := lt) (fun i j s' hi hj hJ => by
        obtain ⟨h', tk', rfl, hst⟩ := hJ
        obtain ⟨x, ox, e1, k1, g1⟩ := hitem i hi
        obtain ⟨y, oy, e2, k2, g2⟩ := hitem j hj
        unfold kas_cmp
        rw [e1, e2]
        refine wpAny_mono (ask i j x y ox oy hi hj h' tk' (fun b o e => hst _ _ (st _ _ e)) k1 k2 (hst _ _ g1) (hst _ _ g2)) (fun b s'' hb => ?_) fun _ _ e => e
        obtain ⟨rfl, h'', tk'', rfl, hst2⟩ := hb
        exact ⟨rfl, h'', tk'', rfl, fun b o e => hst2 _ _ (hst _ _ e)⟩) _ _ hin ⟨_, _, rfl, fun _ _ e => e⟩ fun s' hJ => ⟨rfl, hJ⟩)
    rw [← est] at run
    refine wpAny_bind (wpAny_mono run ?_ fun _ _ e => e)
    rintro ⟨⟨⟩, st'⟩ s' ⟨h', tk', rfl, hst, har, hf⟩
    dsimp only
    unfold ksk_tail
    dsimp only
    have hk3 := hst _ _ hkk
    have ha3 := hst _ _ ha
    have hout : (arrOf st').map (·.2) = ((evT lt (kas_sort vs.length)).toList.map fun i => vs.getD i Value.none).toArray := by
      apply Array.toList_inj.mp
      rw [har, Array.map_map, Array.toList_map]
      exact List.map_congr_left fun i _ => hsnd i
    have hos : (evT lt (kas_sort vs.length)).size ≤ 100 := hlen
    refine wpAny_bind (listUpdate_at hk3 rfl ?_ (by rw [hz, sizeLine_eq]; omega) (Nat.zero_le _))
    refine wpAny_bind (wpAny_letGo ?_)
    have ha4 : (h'.update kS (Obj.mapSeq fun _ => (#[] : Array Value))).get? a = some (seqObj "list" #[] e1) := by rw [upd_other hka.symm]; exact ha3
    refine wpAny_bind (seqEpoch_at ha4 rfl ?_)
    rw [hout, hf]
    refine wpAny_bind (listUpdate_at ha4 rfl ?_ (Nat.zero_le _) (by show ((evT lt (kas_sort vs.length)).toList.map fun i => vs.getD i Value.none).toArray.size ≤ _; rw [List.size_toArray, List.length_map, Array.length_toList, sizeLine_eq]; omega))
    simp only [bne_self_eq_false, Bool.false_eq_true, if_false]
    refine wpAny_pure (h _ _ _ (fun b o e => ?_) (get?_update_seq ha4 _))
    rw [upd_other (fun q => by rw [q, ha0] at e; cases e), upd_other (fun q => by rw [q, hk0] at e; cases e)]
    exact hst _ _ (st _ _ e)
theorem sk_sorted {l q : Addr} {Q : Value → Shared → Prop} (hl : s.heap.IsList l vs.toArray)
    (h2 : 2 ≤ vs.length) (h64 : vs.length < 64)
    (turn : ∀ i v, vs[i]? = some v → ∀ h tk, s.heap.StaysIn h → wpAny (model prog w) A.in1.in1 (call (.ref q) [v]) (KeyMade Kobj s i h) (fun _ _ => False) { s with heap := h, toks := tk })
    (ask : ∀ i j x y ox oy, i < vs.length → j < vs.length → ∀ h tk, s.heap.StaysIn h → Kobj i ox → Kobj j oy → h.get? x = some ox → h.get? y = some oy → wpAny (model prog w) A.in1.in1 (keyLt' oneType' (.ref x) (.ref y)) (LtTold s (lt i j) h) (fun _ _ => False) { s with heap := h, toks := tk })
    (hT : ∀ i o x h, Kobj i o → h.get? x = some o → Looks (model prog w) h (typeOf (.ref x)) T) (hT1 : (T != Value.type "tuple") = true) (hT2 : (T == T) = true)
    (hin : inT vs.length lt (kas_sort vs.length) = true) (hlen : (evT lt (kas_sort vs.length)).size ≤ 100)
    (h : ∀ D h' tk c, s.heap.StaysIn h' → s.heap.get? D = none → h'.get? D = some (seqObj "list" ((evT lt (kas_sort vs.length)).toList.map fun i => vs.getD i Value.none).toArray c) → Q (.ref D) { s with heap := h', toks := tk }) :
    wpAny (model prog w) A (call (.builtin "sorted") [.ref l] [(Str.ofString "key", .ref q)]) Q E s := by
  refine call_function_entry_kw kind_sorted plain_sorted entry_sorted (ksk_s1 _ _) ?_
  unfold Builtin.«sorted»
  refine wpAny_bind (m := checkCount "sorted" 1 1 _) (wpAny_pure ?_)
  refine wpAny_bind (collect_list hl ?_ (by rw [sizeLine_eq]; omega))
  refine wpAny_bind (wpAny_newList ?_ (by rw [sizeLine_eq]; omega))
  have hsz : ((s.heap.push (seqObj "list" #[] 0)).update s.heap.objs.size (Obj.mapSeq (· ++ vs.toArray))).objs.size = s.heap.objs.size + 1 := by
    rw [Heap.size_update, size_push']
  have hoL : (((s.heap.push (seqObj "list" #[] 0)).update s.heap.objs.size (Obj.mapSeq (· ++ vs.toArray))).push (seqObj "list" vs.toArray 0)).get? (s.heap.objs.size + 1) = some (seqObj "list" vs.toArray 0) := by
    rw [← hsz]; exact Heap.get?_push_size _ rfl
  have keep : ∀ b o, s.heap.get? b = some o → (((s.heap.push (seqObj "list" #[] 0)).update s.heap.objs.size (Obj.mapSeq (· ++ vs.toArray))).push (seqObj "list" vs.toArray 0)).get? b = some o := fun b o q => by
    have hlt : b < s.heap.objs.size := Heap.lt_size q
    rw [Heap.get?_push_ne _ _ _ (by rw [hsz]; exact Nat.ne_of_lt (Nat.lt_succ_of_lt hlt)), Heap.get?_update_ne _ _ _ _ (Nat.ne_of_lt hlt), Heap.get?_push_ne _ _ _ (Nat.ne_of_lt hlt)]
    exact q
  show wpAny _ _ _ _ _ { s with heap := ((s.heap.push (seqObj "list" #[] 0)).update s.heap.objs.size (Obj.mapSeq (· ++ vs.toArray))).push (seqObj "list" vs.toArray 0) }
  rw [hsz]
  refine wpAny_bind (wpAny_holding (wpAny_call_entry_kw slot_list_sort ⟨_, hoL, rfl⟩ entry_list_sort ?body (ksk_l1 _ _)))
  case body =>
    show wpAny (model prog w) A.in1.in1 (Builtin.«list.sort» ⟨[.ref (s.heap.objs.size + 1)], [(Str.ofString "key", .ref q)]⟩) _ _ _
    rw [ksk_t1]
    generalize hH : ((s.heap.push (seqObj "list" #[] 0)).update s.heap.objs.size (Obj.mapSeq (· ++ vs.toArray))).push (seqObj "list" vs.toArray 0) = H at hoL keep ⊢
    have hD0 : s.heap.get? (s.heap.objs.size + 1) = none := Heap.get?_none_of_le (Nat.le_succ _)
    generalize hDe : s.heap.objs.size + 1 = D at hoL hD0 ⊢
    obtain ⟨e1, ho1⟩ : ∃ e1, (H.update D (Obj.mapSeq fun _ => (#[] : Array Value))).get? D = some (seqObj "list" #[] e1) := ⟨_, get?_update_seq hoL fun _ => #[]⟩
    have hDl := Heap.lt_size hoL
    have hkS : ((H.update D (Obj.mapSeq fun _ => (#[] : Array Value))).push (seqObj "tuple" vs.toArray 0)).objs.size = H.objs.size + 1 := by rw [size_push', Heap.size_update]
    have hle : s.heap.objs.size + 1 ≤ H.objs.size := by rw [hDe]; exact Nat.le_of_lt hDl
    unfold ksk_tree
    refine wpAny_bind (listItems_at hoL rfl ?_)
    refine wpAny_bind (listUpdate_at hoL rfl ?_ (by rw [List.size_toArray, sizeLine_eq]; omega) (Nat.zero_le _))
    refine wpAny_bind (seqEpoch_at ho1 rfl ?_)
    refine wpAny_bind (wpAny_newTuple ?_ (by show vs.length ≤ _; rw [sizeLine_eq]; omega))
    refine wpAny_bind (wpAny_newList ?_ (Nat.zero_le _))
    refine wpAny_holding ?_
    refine sk_rest (s := { s with heap := ((H.update D (Obj.mapSeq fun _ => (#[] : Array Value))).push (seqObj "tuple" vs.toArray 0)).push (seqObj "list" #[] 0) }) (kS := ((H.update D (Obj.mapSeq fun _ => (#[] : Array Value))).push (seqObj "tuple" vs.toArray 0)).objs.size) (h0 := s.heap) (Kobj := Kobj) (lt := lt) (T := T)
      ?_ hD0 ?_ (by rw [hkS]; exact Nat.ne_of_gt (Nat.lt_succ_of_lt hDl)) (Heap.get?_push_size _ rfl) (Heap.get?_push_of_some _ (Heap.get?_push_of_some _ ho1)) h2 h64 turn ask hT hT1 hT2 hin hlen fun h' tk c hst ho => ⟨_, rfl, ?_⟩
    · intro b o e
      refine Heap.get?_push_of_some _ (Heap.get?_push_of_some _ ?_)
      rw [upd_other (fun q => by rw [q, hD0] at e; cases e)]
      exact keep _ _ e
    · rw [hkS]; exact Heap.get?_none_of_le (Nat.le_trans (Nat.le_trans (Nat.le_succ _) hle) (Nat.le_succ _))
    · exact wpAny_pure ⟨_, rfl, h _ h' tk c hst hD0 ho⟩
end


end
end
section
section
section
local macro_rules | `(tactic| omega) => `(tactic| first | lia | omega +splitDisjunctions)
section
/-- the pure function -/
noncomputable def shortF (b low width : Int) : Nat → Int → Int → Int × Int
  | 0, size, unit => (size, -(Int.fdiv (-low) unit))
  | n + 1, size, unit => if low + width < (-(Int.fdiv (-low) unit) + 1) * unit then shortF b low width n (size + 1) (Int.fdiv unit b) else (size, -(Int.fdiv (-low) unit))
theorem pow_le {b : Int} {n k : Nat} (hb : (b = 16 ∧ k = 5) ∨ (b = 64 ∧ k = 3)) (hn : n ≤ k) : 1 ≤ b ^ n ∧ b ^ n ≤ 1048576 := by
  have h5 : n = 0 ∨ n = 1 ∨ n = 2 ∨ n = 3 ∨ n = 4 ∨ n = 5 := by omega
  rcases hb with ⟨rfl, rfl⟩ | ⟨rfl, rfl⟩ <;> rcases h5 with rfl | rfl | rfl | rfl | rfl | rfl <;> first | omega | decide
theorem pow_fdiv {b : Int} (hb : b ≠ 0) (n : Nat) : Int.fdiv (b ^ (n + 1)) b = b ^ n := by
  rw [Int.pow_succ]; exact Int.mul_fdiv_cancel _ hb
theorem shortest : ∀ {w : World} {p : Program} {loose : List Str} {mean : ExcName → Option Value} {mg mb : Str → Option Value}
   (A : Around) (s : Shared) (Q E : Value → Shared → Prop)
   (base room low width : Int) (k : Nat) (t1 t2 t3 t4 : Tok)
   (X : (heapK w.params).In s.heap) (T : Top p loose mean mg mb s.heap)
   (hbr : (base = 16 ∧ room = 6 ∧ k = 5) ∨ (base = 64 ∧ room = 4 ∧ k = 3)) (hw0 : 1 ≤ width) (hw1 : width < 2 ^ 30) (hl0 : 0 ≤ low) (hl1 : low < 2 ^ 30)
   (hdp : A.depth + 30 < recursionLimit) (hu : A.units + 100 < cLine)
   (hQ : ∀ r h' tk' u v, s.heap.StaysIn h' → s.heap.get? r = none → h'.get? r = some (listOf #[.int (shortF base low width k 1 (base ^ k)).1 u, .int (shortF base low width k 1 (base ^ k)).2 v] 0) → Q (.ref r) { s with heap := h', toks := tk' }),
   wpAny (model P.row.prog w) A (call (.ref 95) [.int base t1, .int room t2, .int low t3, .int width t4]) Q E s := by
  k_with_none
  k_with "assign Tuple" => ((k_here; (with_reducible show wpAny _ _ (assign (Expr.Tuple _ _ _) _ (Value.ref _)) _ _ _); k_dflt (refine' kun_list ?k1 ?k2 ?k3 ?k4 ?k5 ?k6 ?_; (case k1 => k_asm); (case k2 => k_asm); (case k3 => (first | (with_reducible assumption) | exact IsList.stays (by assumption) (Fr.keep (by assumption)) | exact News.isList (by k_asm) (by k_mem))); (case k4 => exact rfl); (case k5 => exact rfl); (case k6 => exact rfl); k_whole); intro h' F' N'; (try k_sweep)))
  k_with "call type:type" => (((with_reducible show wpAny _ _ (call (Value.type "type") [Value.bytes _ _]) _ _ _); refine call_type_of (typeIs_bytes _ _ _) (by decide +kernel) ?_))
  k_with "subscriptTail" => (((with_reducible show wpAny _ _ (subscriptTail _ (Expr.Slice _ _ none _) (Value.bytes _ _) (Value.ref _)) _ _ _); (with_reducible rename Fr _ _ _ _ => F'); (with_reducible rename News _ _ _ _ => N'); (refine slice_m (s := ⟨_, _, _, _, _⟩) F' N' (by constructor) (by constructor) (by first | decide | assumption | omega) ?_); intro h' _ _ F' N'; (try dsimp only [Option.elim])))
  w_top off
  k_fill
  intro w p loose mean mg mb A s Q E base room low width k t1 t2 t3 t4 X T hbr hw0 hw1 hl0 hl1 hdp hu hQ
  have hbb : base = 16 ∨ base = 64 := by omega
  ((refine wpAny_call ?_; k_dflt (refine' enterD ?k1_z68 ?k2_z68 ?k6_z68 ?k7_z68 ?k8_z68 ?k9_z68 ?kB_z68 ?_ ?c2_z68 ?c3_z68 ?c4_z68 ?c5_z68; (case k1_z68 => k_asm); (case k2_z68 => k_asm); (case k6_z68 => k_is); (case k7_z68 => k_is); (case k8_z68 => first | omega | (dsimp only [Aro]; omega)); (case k9_z68 => first | exact BindsTo.of_eq rfl | (refine' binds_K ?bX_z68 ?bd_z68 ?bo_z68 ?bs_z68 ?b1_z68 ?b2_z68; (case bX_z68 => assumption); (case bd_z68 => exact rfl); (case bo_z68 => k_is); (case bs_z68 => exact rfl); (case b1_z68 => exact rfl); (case b2_z68 => exact rfl))); (case c5_z68 => decide); (case kB_z68 => exact locs rfl); (case c2_z68 => exact rfl); (case c3_z68 => exact rfl); (case c4_z68 => exact rfl); k_whole)))
  intro L' h' F' N'
  refine execs_mid 2 (fun s' => ∃ m t u un, un = base ^ k ∧ At s s.heap L' (kstB m [("size", .int 1 t), ("unit", .int un u), ("low", .int low t3), ("width", .int width t4), ("base", .int base t1)]) [] s') ?_ ?_
  · dsimp only [List.take]
    rcases hbr with ⟨rfl, rfl, rfl⟩ | ⟨rfl, rfl, rfl⟩ <;> (
    k_steps
    refine' ⟨rfl, _, _, _, _, ?q, At.of ?F ?N ?e⟩
    case F => assumption
    case N => assumption
    case e => (repeat (first | exact trivial | (refine And.intro ?_ ?_; (k_dflt rfl))))
    case q => decide)
  clear F' N'
  rintro s' ⟨m, t, u, un, rfl, h, tk, rfl, F, N⟩
  dsimp only [kstB] at F
  dsimp only [List.drop]
  refine execs_mid 1 (fun s' => ∃ (m : Str → Option Value) (t u : Tok) (size unit : Int), 1 ≤ unit ∧ unit ≤ 1048576 ∧ shortF base low width k 1 (base ^ k) = (size, -(Int.fdiv (-low) unit)) ∧ At s s.heap L' (kstB m [("size", .int size t), ("unit", .int unit u), ("low", .int low t3)]) [] s') ?_ ?_
  · dsimp only [List.take]
    refine wpAny_execs_cons ?_
    refine While_ (fun n s' => ∃ (m : Str → Option Value) (t u : Tok) (size unit : Int), unit = base ^ n ∧ n ≤ k ∧ size = k + 1 - n ∧ shortF base low width k 1 (base ^ k) = shortF base low width n size unit ∧ At s s.heap L' (kstB m [("size", .int size t), ("unit", .int unit u), ("low", .int low t3), ("width", .int width t4), ("base", .int base t1)]) [] s') k ⟨m, t, u, 1, base ^ k, rfl, Nat.le_refl _, by omega, rfl, h, tk, rfl, F, N⟩ ?_
    clear F N
    rintro n s' ⟨m, t, u, size, unit, hun, hnk, hz2, hsf, h, tk, rfl, F, N⟩
    have hk5 : k ≤ 5 := by omega
    have hun0 : 1 ≤ unit ∧ unit ≤ 1048576 := by rw [hun]; exact pow_le (by omega) hnk
    dsimp only [kstB] at F
    k_steps
    · rename (low + width < _) => hlt
      cases n with
      | zero =>
        exfalso
        rw [hun] at hlt
        simp only [Int.pow_zero, Int.fdiv_one, Int.neg_neg, Int.mul_one] at hlt
        omega
      | succ n =>
        refine' ⟨rfl, n, Nat.lt_succ_self _, _, _, _, _, _, ?q1, ?q2, ?q3, ?q4, At.of ?F ?N ?e⟩
        case F => assumption
        case N => assumption
        case e => (repeat (first | exact trivial | (refine And.intro ?_ ?_; (k_dflt rfl))))
        case q1 => rw [hun]; exact pow_fdiv (by omega) n
        case q2 => omega
        case q3 => omega
        case q4 => rw [hsf, shortF, if_pos hlt]
    · refine' ⟨rfl, _, _, _, size, unit, hun0.1, hun0.2, ?q, At.of ?F ?N ?e⟩
      case F => assumption
      case N => assumption
      case e => (repeat (first | exact trivial | (refine And.intro ?_ ?_; (k_dflt rfl))))
      case q =>
        rename ¬ _ => hlt
        rw [hsf]
        cases n with
        | zero => rfl
        | succ n => rw [shortF, if_neg hlt]
  clear F N
  rintro s' ⟨m, t, u, size, unit, hu1, hu2, hsf, h, tk, rfl, F, N⟩
  dsimp only [kstB] at F
  dsimp only [List.drop]
  rw [hsf] at hQ
  k_steps
  rename Fr _ _ _ _ => F'
  rename News _ _ _ _ => N'
  exact hQ _ _ _ _ _ F'.keep (N' _ (.head _)).2.2 (N' _ (.head _)).1


end
section
/-- what the function of a fold does at one step -/
noncomputable def StepOk (w : World) (s₀ : Shared) (n m : Nat) (f : Value) (vs : List Value) (I : Nat → Value → List (Addr × Obj) → Prop) : Prop :=
  ∀ (i : Nat) (dp ut : Nat) (fr : Option (List Env)) (gd : Option (List Code)) (h : Heap) (tk : Nat) (v x : Value) (os : List (Addr × Obj)), dp ≤ n → ut ≤ m → s₀.heap.StaysIn h → vs[i]? = some x → I i v os → (∀ p ∈ os, h.get? p.1 = some p.2) →
    Calls w (Aro dp ut fr gd) { s₀ with heap := h, toks := tk } f [v, x] fun v' h' => ∃ os', I (i + 1) v' os' ∧ ∀ p ∈ os', h.get? p.1 = none ∧ h'.get? p.1 = some p.2
theorem FnAt.stays {f : Addr} {h h' : Heap} (x : FnAt f h) (st : h.StaysIn h') : FnAt f h' := let ⟨a, b, c, d, e⟩ := x; ⟨a, b, c, d, st _ _ e⟩
theorem iter_list {prog : Program} {w : World} {A : Around} {E : Value → Shared → Prop} {s : Shared} {h₀ : Heap} {L l : Addr} {items : Array Value} {m : Str → Option Value} {news : List (Addr × Obj)} {Q : Value → Shared → Prop} (F : Fr h₀ L s.heap m) (N : News h₀ L s.heap news) (hl : s.heap.IsList l items)
    (h : ∀ (I : Addr) h', Fr h₀ L h' m → News h₀ L h' ((I, { cls := .type "list_iterator", data := .fields #[.ref l, .int 0 0] }) :: news) → (∀ p ∈ news, p.1 < I) → s.heap.get? I = none → Q (.ref I) { s with heap := h' }) :
    wpAny (model prog w) A (call (.builtin "iter") [.ref l]) Q E s := by
  refine call_function_entry (by decide +kernel) (by decide +kernel) kdk_entry_iter (kdk_args_iter _) ?_
  unfold Builtin.«iter»
  refine wpAny_bind (m := someArgs "iter" 1 2 _) (wpAny_of_eq (a := [Value.ref l]) (by first | rfl | kernel_rfl!) ?_)
  show wpAny _ _ (pyIter (.ref l) >>= _) _ _ _
  refine wpAny_bind (wpAny_pyIter_list hl ?_)
  exact wpAny_pure ⟨_, rfl, h _ _ (F.push _) (News.push F N _ rfl) (fun q hq => Heap.lt_size (N q hq).1) (Heap.get?_none_of_le (Nat.le_refl _))⟩
theorem reduceC : ∀ {w : World} {p : Program} {loose : List Str} {mean : ExcName → Option Value} {mg mb : Str → Option Value} (dp ut : Nat) (fr : Option (List Env)) (gd : Option (List Code)) (s : Shared)
   (f : Addr) (ls : Addr) (vs : List Value) (v₀ : Value) (I : Nat → Value → List (Addr × Obj) → Prop) (os₀ : List (Addr × Obj))
   (X : (heapK w.params).In s.heap) (T : Top p loose mean mg mb s.heap) (hl : s.heap.IsList ls vs.toArray) (hv : vs.length < 100000)
   (hi : I 0 v₀ os₀) (hk : ∀ p ∈ os₀, s.heap.get? p.1 = some p.2) (hr : (∃ a o, v₀ = .ref a ∧ a ≠ 29 ∧ s.heap.get? a = some o ∧ o.cls ≠ Value.type "tuple") ∨ ∃ n t, v₀ = .int n t)
   (hfn : FnAt f s.heap) (hf : StepOk w s (dp + 1) (ut + 3) (.ref f) vs I) (hdp : dp + 30 < recursionLimit) (hu : ut + 100 < cLine),
   Calls w (Aro dp ut fr gd) s (.ref 37) [.ref f, .ref ls, v₀] fun v h' => ∃ os, I vs.length v os ∧ ∀ p ∈ os, h'.get? p.1 = some p.2 ∧ (vs ≠ [] → s.heap.get? p.1 = none) := by
  k_with_none
  k_with "assign Tuple" => ((k_here; (with_reducible show wpAny _ _ (assign (Expr.Tuple _ _ _) _ (Value.ref _)) _ _ _); k_dflt (refine' kun_list ?k1 ?k2 ?k3 ?k4 ?k5 ?k6 ?_; (case k1 => k_asm); (case k2 => k_asm); (case k3 => (first | (with_reducible assumption) | exact IsList.stays (by assumption) (Fr.keep (by assumption)) | exact News.isList (by k_asm) (by k_mem))); (case k4 => exact rfl); (case k5 => exact rfl); (case k6 => exact rfl); k_whole); intro h' F' N'; (try k_sweep)))
  k_with "call type:type" => (((with_reducible show wpAny _ _ (call (Value.type "type") [Value.bytes _ _]) _ _ _); refine call_type_of (typeIs_bytes _ _ _) (by decide +kernel) ?_))
  k_with "subscriptTail" => (((with_reducible show wpAny _ _ (subscriptTail _ (Expr.Slice _ _ none _) (Value.bytes _ _) (Value.ref _)) _ _ _); (with_reducible rename Fr _ _ _ _ => F'); (with_reducible rename News _ _ _ _ => N'); (refine slice_m (s := ⟨_, _, _, _, _⟩) F' N' (by constructor) (by constructor) (by first | decide | assumption | omega) ?_); intro h' _ _ F' N'; (try dsimp only [Option.elim])))
  unfold Calls
  w_top off
  k_fill
  intro w p loose mean mg mb dp ut fr gd s f ls vs v₀ I os₀ X T hl hv hi hk hr hfn hf hdp hu Q E hQ
  ((refine wpAny_call ?_; k_dflt (refine' enterD ?k1_z69 ?k2_z69 ?k6_z69 ?k7_z69 ?k8_z69 ?k9_z69 ?kB_z69 ?_ ?c2_z69 ?c3_z69 ?c4_z69 ?c5_z69; (case k1_z69 => k_asm); (case k2_z69 => k_asm); (case k6_z69 => k_is); (case k7_z69 => k_is); (case k8_z69 => first | omega | (dsimp only [Aro]; omega)); (case k9_z69 => first | exact BindsTo.of_eq rfl | (refine' binds_K ?bX_z69 ?bd_z69 ?bo_z69 ?bs_z69 ?b1_z69 ?b2_z69; (case bX_z69 => assumption); (case bd_z69 => exact rfl); (case bo_z69 => k_is); (case bs_z69 => exact rfl); (case b1_z69 => exact rfl); (case b2_z69 => exact rfl))); (case c5_z69 => decide); (case kB_z69 => exact locs rfl); (case c2_z69 => exact rfl); (case c3_z69 => exact rfl); (case c4_z69 => exact rfl); k_whole)))
  intro L' h' F' N'
  dsimp only
  refine execs_mid 2 (fun s' => ∃ (m : Str → Option Value) (r : Addr), At s s.heap L' (kstB m [("it", .ref r), ("value", v₀), ("function", .ref f)]) [(r, { cls := .type "list_iterator", data := .fields #[.ref ls, .int 0 0] })] s') ?_ ?_
  · dsimp only [List.take]
    k_steps
    refine iter_list F' N' (IsList.stays hl F'.keep) ?_
    clear F' N'
    intro r h' F' N' _ _
    k_steps
    have his : ∀ {A : Around} {Q E : Value → Shared → Prop} {s1 : Shared}, s.heap.StaysIn s1.heap → Q (.bool false) s1 → wpAny (model P.row.prog w) A (compareOp CmpOp.Is v₀ (.ref 29)) Q E s1 := by
      intro A Q E s1 st hq
      rcases hr with ⟨a, o, rfl, ha, ho, hc⟩ | ⟨n, t, rfl⟩
      · exact kto_is (st _ _ ho) (st _ _ (X 29 _ (by k_is))) ha hc hq
      · exact wpAny_is_other (by rfl) (by intro x; cases x) hq
    refine his (Fr.keep (by assumption)) ?_
    k_steps
    refine' ⟨rfl, _, _, At.of ?F ?N ?e⟩
    case F => assumption
    case N => assumption
    case e => (repeat (first | exact trivial | (refine And.intro ?_ ?_; (k_dflt rfl))))
  clear F' N'
  rintro s' ⟨m, r, h, tk, rfl, F, N⟩
  dsimp only [kstB] at F
  dsimp only [List.drop]
  refine wpAny_execs_cons ?_
  have hI0 := (N _ (.head _)).2.2
  have hIL := (N _ (.head _)).2.1
  have hio := (N _ (.head _)).1
  have hlr : ls ≠ r := fun q => by
    obtain ⟨o, ho, _⟩ := hl
    rw [q, hI0] at ho; cases ho
  refine wpAny_For ?_ (by intro _; rfl)
  k_steps
  refine wpAny_pyIter_listiter ⟨_, hio, rfl, rfl⟩ ?_
  refine loopW (Walks.list rfl r ls hlr vs.toArray) (fun i m₁ nx => ∃ v os, I i v os ∧ Reads m₁ [("it", .ref r), ("value", v), ("function", .ref f)] ∧ ∀ p ∈ os, (p ∈ nx ∧ s.heap.get? p.1 = none) ∨ (s.heap.get? p.1 = some p.2 ∧ i = 0)) hI0 hIL ?_ F News.nil (fun p hp => (nomatch hp)) ?_ ?_ ?_
  · exact ⟨⟨_, hio, rfl, rfl⟩, IsList.stays hl F.keep⟩
  · exact ⟨v₀, os₀, hi, by (repeat (first | exact trivial | (refine And.intro ?_ ?_; (k_dflt rfl)))), fun p hp => .inr ⟨hk p hp, rfl⟩⟩
  · clear F N hio
    rintro i x m₁ nx h tk hin hx ⟨v, os, hI, hrd, hos⟩ hst F N hne
    have F2 := fr_kst F hrd
    dsimp only [kstB] at F2
    clear F
    have hx' : vs[i]? = some x := by simpa using hx
    obtain ⟨⟨oi, hoi, hci, hdi⟩, _⟩ := hst
    have N3 : News s.heap L' h ((r, oi) :: nx) := fun p hp => by
      rcases List.mem_cons.mp hp with rfl | hp
      · exact ⟨hoi, hIL, hI0⟩
      · exact N p hp
    clear N
    k_steps
    refine callWith_F (FnAt.stays hfn (Fr.keep (by assumption))) ?_
    k_steps
    · exact FnAt.stays hfn (Fr.keep (by assumption))
    rename Fr _ _ _ _ => F3
    rename News _ _ _ _ => N4
    have hat : ∀ p ∈ os, Heap.get? _ p.1 = some p.2 := fun p hp => by
      rcases hos p hp with ⟨a, _⟩ | ⟨a, _⟩
      · exact (N4 p (.tail _ a)).1
      · exact F3.keep _ _ a
    refine Calls.use (hf i _ _ _ _ _ _ v x os (Nat.le_refl _) (Nat.le_refl _) F3.keep hx' hI hat) F3 N4 ?_
    rintro v' h1 tk1 F5 N5 st ⟨os', hI', hos'⟩
    have N6 : News s.heap L' h1 ((r, oi) :: os') := fun p hp => by
      rcases List.mem_cons.mp hp with rfl | hp
      · exact N5 _ (.head _)
      · refine ⟨(hos' p hp).2, fun q => ?_, ?_⟩
        · have := (hos' p hp).1; rw [q] at this
          obtain ⟨oL, _, _, hL, _⟩ := F3.ns
          rw [this] at hL; cases hL
        · cases q : s.heap.get? p.1 with
          | none => rfl
          | some o => have := (hos' p hp).1; rw [F3.keep _ _ q] at this; cases this
    have hne' : ∀ p ∈ os', p.1 ≠ r := fun p hp q => by
      have := (hos' p hp).1; rw [q, (N4 _ (.head _)).1] at this; cases this
    clear F3 N4 N5
    dsimp only
    k_steps
    rename Fr _ _ _ _ => F7
    rename News _ _ _ _ => N7
    refine ⟨_, _, _, os', rfl, ⟨⟨oi, (N7 _ (.head _)).1, hci, hdi⟩, IsList.stays hl F7.keep⟩, F7, fun p hp => N7 p (.tail _ hp), hne', v', os', hI', ?_, fun p hp => .inl ⟨hp, (N7 p (.tail _ hp)).2.2⟩⟩
    (repeat (first | exact trivial | (refine And.intro ?_ ?_; (k_dflt rfl))))
  · clear F N hio
    rintro m₁ nx h tk ⟨v, os, hI, hrd, hos⟩ F N
    have F2 := fr_kst F hrd
    dsimp only [kstB] at F2
    clear F
    dsimp only
    k_steps
    rename Fr _ _ _ _ => F3
    rename News _ _ _ _ => N3
    refine hQ _ _ _ F3.keep ⟨os, by simpa using hI, fun p hp => ?_⟩
    rcases hos p hp with ⟨a, b⟩ | ⟨a, b⟩
    · exact ⟨(N3 p a).1, fun _ => b⟩
    · exact ⟨F3.keep _ _ a, fun q => absurd b (by simpa using q)⟩


end
section
noncomputable abbrev LamT := Arguments × Expr × Scope × Pos
noncomputable def noLam : LamT := (⟨[], [], none, [], [], none, []⟩, .Constant .none 0 ⟨0, 0, 0, 0⟩, ⟨.function, [], false, false, []⟩, ⟨0, 0, 0, 0⟩)
noncomputable def defBody (n : Str) : List Stmt := match P.row.prog.theDef n with | some (_, b, _) => b | none => []
noncomputable def lamX : Expr → LamT
  | .Lambda ps b sc pos => (ps, b, sc, pos)
  | _ => noLam
noncomputable def lamStmt (s : Stmt) : LamT := lamX (atX 1 (subX (atX 0 (subS s))))
noncomputable def nthL (n : Nat) (b : List Stmt) : Stmt := b.getD n (.Pass ⟨0, 0, 0, 0⟩)
noncomputable def forBody (s : Stmt) : List Stmt := bodyS s
/-- told * base + places.get(sign, -1) -/
noncomputable def lamA : LamT := lamStmt (nthL 0 (defBody "_law_read"))
/-- _law_next(ends, value, state) -/
noncomputable def lamB : LamT := lamX (atX 1 (subX (atX 0 (subX (atX 0 (subS (nthL 1 (defBody "_law_read"))))))))
/-- _law_gap(places, one[0], other[0]) -/
noncomputable def lamC : LamT := lamStmt (nthL 9 (defBody "law"))
/-- _law_narrowed(ends, state[0], state[1], sign) -/
noncomputable def lamD : LamT := lamStmt (nthL 0 (forBody (nthL 1 (forBody (nthL 10 (defBody "law"))))))


end
section
theorem narrowed : ∀ {w : World} {p : Program} {loose : List Str} {mean : ExcName → Option Value} {mg mb : Str → Option Value} (A : Around) (s : Shared)
   (le : Addr) (vs : List Value) (es : List Int) (low width sign : Int) (t1 t2 t3 : Tok)
   (X : (heapK w.params).In s.heap) (T : Top p loose mean mg mb s.heap)
   (hl : s.heap.IsList le vs.toArray) (hi : IntsAre vs es) (h5 : es.length = 5) (hs0 : 0 ≤ sign) (hs1 : sign < 4)
   (hw0 : 0 ≤ width) (hw1 : width < 2 ^ 30) (hl0 : 0 ≤ low) (hl1 : low < 2 ^ 30)
   (hdp : A.depth + 30 < recursionLimit) (hu : A.units + 100 < cLine),
   Calls w A s (.ref 88) [.ref le, .int low t1, .int width t2, .int sign t3] fun v h' => ∃ r u1 u2, v = .ref r ∧ s.heap.get? r = none ∧
     h'.get? r = some (listOf #[.int (16 * low + width * es.getD sign.toNat 0) u1, .int (width * (es.getD (sign + 1).toNat 0 - es.getD sign.toNat 0)) u2] 0) := by
  k_with_none
  k_with "assign Tuple" => ((k_here; (with_reducible show wpAny _ _ (assign (Expr.Tuple _ _ _) _ (Value.ref _)) _ _ _); k_dflt (refine' kun_list ?k1 ?k2 ?k3 ?k4 ?k5 ?k6 ?_; (case k1 => k_asm); (case k2 => k_asm); (case k3 => (first | (with_reducible assumption) | exact IsList.stays (by assumption) (Fr.keep (by assumption)) | exact News.isList (by k_asm) (by k_mem))); (case k4 => exact rfl); (case k5 => exact rfl); (case k6 => exact rfl); k_whole); intro h' F' N'; (try k_sweep)))
  k_with "call type:type" => (((with_reducible show wpAny _ _ (call (Value.type "type") [Value.bytes _ _]) _ _ _); refine call_type_of (typeIs_bytes _ _ _) (by decide +kernel) ?_))
  k_with "subscriptTail" => (((with_reducible show wpAny _ _ (subscriptTail _ (Expr.Slice _ _ none _) (Value.bytes _ _) (Value.ref _)) _ _ _); (with_reducible rename Fr _ _ _ _ => F'); (with_reducible rename News _ _ _ _ => N'); (refine slice_m (s := ⟨_, _, _, _, _⟩) F' N' (by constructor) (by constructor) (by first | decide | assumption | omega) ?_); intro h' _ _ F' N'; (try dsimp only [Option.elim])))
  unfold Calls
  w_top off
  k_fill
  intro w p loose mean mg mb A s le vs es low width sign t1 t2 t3 X T hl hi h5 hs0 hs1 hw0 hw1 hl0 hl1 hdp hu Q E hQ
  ((refine wpAny_call ?_; k_dflt (refine' enterD ?k1_z70 ?k2_z70 ?k6_z70 ?k7_z70 ?k8_z70 ?k9_z70 ?kB_z70 ?_ ?c2_z70 ?c3_z70 ?c4_z70 ?c5_z70; (case k1_z70 => k_asm); (case k2_z70 => k_asm); (case k6_z70 => k_is); (case k7_z70 => k_is); (case k8_z70 => first | omega | (dsimp only [Aro]; omega)); (case k9_z70 => first | exact BindsTo.of_eq rfl | (refine' binds_K ?bX_z70 ?bd_z70 ?bo_z70 ?bs_z70 ?b1_z70 ?b2_z70; (case bX_z70 => assumption); (case bd_z70 => exact rfl); (case bo_z70 => k_is); (case bs_z70 => exact rfl); (case b1_z70 => exact rfl); (case b2_z70 => exact rfl))); (case c5_z70 => decide); (case kB_z70 => exact locs rfl); (case c2_z70 => exact rfl); (case c3_z70 => exact rfl); (case c4_z70 => exact rfl); k_whole)))
  intro L' h' F' N'
  dsimp only
  k_steps
  rename Fr _ _ _ _ => F'
  rename News _ _ _ _ => N'
  exact hQ _ _ _ F'.keep ⟨_, _, _, rfl, (N' _ (.head _)).2.2, (N' _ (.head _)).1⟩


end
section
noncomputable def pickF (es : List Int) (value low width unit : Int) : Nat → Int → Int
  | 0, sign => sign
  | n + 1, sign => if (16 * low + width * es.getD (sign + 1).toNat 0) * unit ≤ value then pickF es value low width unit n (sign + 1) else sign
theorem next : ∀ {w : World} {p : Program} {loose : List Str} {mean : ExcName → Option Value} {mg mb : Str → Option Value} (dp ut : Nat) (fr : Option (List Env)) (gd : Option (List Code)) (s : Shared)
   (le ls lt : Addr) (vs vt : List Value) (es ts : List Int) (value low width : Int) (t1 t2 t3 : Tok)
   (X : (heapK w.params).In s.heap) (T : Top p loose mean mg mb s.heap)
   (hl : s.heap.IsList le vs.toArray) (hi : IntsAre vs es) (h5 : es.length = 5) (he : ∀ x ∈ es, 0 ≤ x ∧ x ≤ 16)
   (hls : s.heap.IsList ls #[.int low t2, .int width t3, .ref lt]) (hlt : s.heap.IsList lt vt.toArray) (hit : IntsAre vt ts) (htl : ts.length < 5)
   (hv0 : 0 ≤ value) (hv1 : value < 2 ^ 30) (hw0 : 0 ≤ width) (hw1 : width < 2 ^ 30) (hl0 : 0 ≤ low) (hl1 : low < 2 ^ 30)
   (hdp : dp + 60 < recursionLimit) (hu : ut + 200 < cLine),
   Calls w (Aro dp ut fr gd) s (.ref 109) [.ref le, .int value t1, .ref ls] fun v h' => ∃ r rt u1 u2 c vt', v = .ref r ∧ s.heap.get? r = none ∧ 
     h'.get? r = some (listOf #[.int (16 * low + width * es.getD (pickF es value low width (16 ^ (4 - ts.length)) 3 0).toNat 0) u1, .int (width * (es.getD (pickF es value low width (16 ^ (4 - ts.length)) 3 0 + 1).toNat 0 - es.getD (pickF es value low width (16 ^ (4 - ts.length)) 3 0).toNat 0)) u2, .ref rt] 0) ∧
     s.heap.get? rt = none ∧ h'.get? rt = some (listOf (List.toArray vt') c) ∧ IntsAre vt' (ts ++ [pickF es value low width (16 ^ (4 - ts.length)) 3 0]) := by
  k_with_none
  k_with "assign Tuple" => ((k_here; (with_reducible show wpAny _ _ (assign (Expr.Tuple _ _ _) _ (Value.ref _)) _ _ _); k_dflt (refine' kun_list ?k1 ?k2 ?k3 ?k4 ?k5 ?k6 ?_; (case k1 => k_asm); (case k2 => k_asm); (case k3 => (first | (with_reducible assumption) | exact IsList.stays (by assumption) (Fr.keep (by assumption)) | exact News.isList (by k_asm) (by k_mem))); (case k4 => exact rfl); (case k5 => exact rfl); (case k6 => exact rfl); k_whole); intro h' F' N'; (try k_sweep)))
  k_with "call type:type" => (((with_reducible show wpAny _ _ (call (Value.type "type") [Value.bytes _ _]) _ _ _); refine call_type_of (typeIs_bytes _ _ _) (by decide +kernel) ?_))
  k_with "subscriptTail" => (((with_reducible show wpAny _ _ (subscriptTail _ (Expr.Slice _ _ none _) (Value.bytes _ _) (Value.ref _)) _ _ _); (with_reducible rename Fr _ _ _ _ => F'); (with_reducible rename News _ _ _ _ => N'); (refine slice_m (s := ⟨_, _, _, _, _⟩) F' N' (by constructor) (by constructor) (by first | decide | assumption | omega) ?_); intro h' _ _ F' N'; (try dsimp only [Option.elim])))
  unfold Calls
  w_top off
  k_fill
  intro w p loose mean mg mb dp ut fr gd s le ls lt vs vt es ts value low width t1 t2 t3 X T hl hi h5 he hls hlt hit htl hv0 hv1 hw0 hw1 hl0 hl1 hdp hu Q E hQ
  ((refine wpAny_call ?_; k_dflt (refine' enterD ?k1_z71 ?k2_z71 ?k6_z71 ?k7_z71 ?k8_z71 ?k9_z71 ?kB_z71 ?_ ?c2_z71 ?c3_z71 ?c4_z71 ?c5_z71; (case k1_z71 => k_asm); (case k2_z71 => k_asm); (case k6_z71 => k_is); (case k7_z71 => k_is); (case k8_z71 => first | omega | (dsimp only [Aro]; omega)); (case k9_z71 => first | exact BindsTo.of_eq rfl | (refine' binds_K ?bX_z71 ?bd_z71 ?bo_z71 ?bs_z71 ?b1_z71 ?b2_z71; (case bX_z71 => assumption); (case bd_z71 => exact rfl); (case bo_z71 => k_is); (case bs_z71 => exact rfl); (case b1_z71 => exact rfl); (case b2_z71 => exact rfl))); (case c5_z71 => decide); (case kB_z71 => exact locs rfl); (case c2_z71 => exact rfl); (case c3_z71 => exact rfl); (case c4_z71 => exact rfl); k_whole)))
  intro L' h' F' N'
  refine execs_mid 3 (fun s' => ∃ (m : Str → Option Value) (t u : Tok) (un : Int), un = 16 ^ (4 - ts.length) ∧ At s s.heap L' (kstB m [("sign", .int 0 t), ("unit", .int un u), ("low", .int low t2), ("width", .int width t3), ("text", .ref lt), ("ends", .ref le), ("value", .int value t1)]) [] s') ?_ ?_
  · dsimp only [List.take]
    k_steps
    refine' ⟨rfl, _, _, _, _, ?q, At.of ?F ?N ?e⟩
    case F => assumption
    case N => assumption
    case e => (repeat (first | exact trivial | (refine And.intro ?_ ?_; (k_dflt rfl))))
    case q =>
      have : (4 - (ts.length : Int)).toNat = 4 - ts.length := Int.toNat_sub 4 _
      rw [this]
  clear F' N'
  rintro s' ⟨m, t, u, un, hun, h, tk, rfl, F, N⟩
  dsimp only [kstB] at F
  dsimp only [List.drop]
  have hun1 : 1 ≤ un ∧ un ≤ 65536 := by
    have h4 : ts.length = 0 ∨ ts.length = 1 ∨ ts.length = 2 ∨ ts.length = 3 ∨ ts.length = 4 := by omega
    rw [hun]
    rcases h4 with h4 | h4 | h4 | h4 | h4 <;> rw [h4] <;> decide
  rw [← hun] at hQ
  refine execs_mid 1 (fun s' => ∃ (m : Str → Option Value) (t u : Tok) (sign : Int), 0 ≤ sign ∧ sign ≤ 3 ∧ pickF es value low width un 3 0 = sign ∧ At s s.heap L' (kstB m [("sign", .int sign t), ("unit", .int un u), ("low", .int low t2), ("width", .int width t3), ("text", .ref lt), ("ends", .ref le), ("value", .int value t1)]) [] s') ?_ ?_
  · dsimp only [List.take]
    refine wpAny_execs_cons ?_
    refine While_ (fun n s' => ∃ (m : Str → Option Value) (t u : Tok) (sign : Int), 0 ≤ sign ∧ sign = 3 - n ∧ pickF es value low width un 3 0 = pickF es value low width un n sign ∧ At s s.heap L' (kstB m [("sign", .int sign t), ("unit", .int un u), ("low", .int low t2), ("width", .int width t3), ("text", .ref lt), ("ends", .ref le), ("value", .int value t1)]) [] s') 3 ⟨m, t, u, 0, by omega, by omega, rfl, h, tk, rfl, F, N⟩ ?_
    clear F N
    rintro n s' ⟨m, t, u, sign, hs0, hs1, hpf, h, tk, rfl, F, N⟩
    have hsb : 0 ≤ es.getD (sign + 1).toNat 0 ∧ es.getD (sign + 1).toNat 0 ≤ 16 := by
      by_cases hlt : (sign + 1).toNat < es.length
      · rw [List.getD_eq_getElem?_getD, List.getElem?_eq_getElem hlt]
        exact he _ (List.getElem_mem hlt)
      · rw [List.getD_eq_getElem?_getD, List.getElem?_eq_none (by omega)]
        decide
    dsimp only [kstB] at F
    k_steps
    · rename (_ ≤ value) => hle
      cases n with
      | zero => omega
      | succ n =>
        refine' ⟨rfl, n, Nat.lt_succ_self _, _, _, _, _, ?q1, ?q2, ?q3, At.of ?F ?N ?e⟩
        case F => assumption
        case N => assumption
        case e => (repeat (first | exact trivial | (refine And.intro ?_ ?_; (k_dflt rfl))))
        case q1 => omega
        case q2 => omega
        case q3 => rw [hpf, pickF, if_pos hle]
    · refine' ⟨rfl, _, _, _, sign, hs0, ?q2, ?q3, At.of ?F ?N ?e⟩
      case F => assumption
      case N => assumption
      case e => (repeat (first | exact trivial | (refine And.intro ?_ ?_; (k_dflt rfl))))
      case q2 => omega
      case q3 =>
        rw [hpf]
        cases n with
        | zero => rfl
        | succ n => first | rw [pickF, if_neg (by assumption)] | omega
    · refine' ⟨rfl, _, _, _, sign, hs0, ?q2, ?q3, At.of ?F ?N ?e⟩
      case F => assumption
      case N => assumption
      case e => (repeat (first | exact trivial | (refine And.intro ?_ ?_; (k_dflt rfl))))
      case q2 => omega
      case q3 =>
        rw [hpf]
        cases n with
        | zero => rfl
        | succ n => first | rw [pickF, if_neg (by assumption)] | omega
  clear F N
  rintro s' ⟨m, t, u, sign, hs0, hs3, hpf, h, tk, rfl, F, N⟩
  dsimp only [kstB] at F
  dsimp only [List.drop]
  rw [hpf] at hQ
  k_steps
  refine Calls.use (narrowed (p := p) (loose := loose) (mean := mean) (mg := mg) (mb := mb) _ _ le vs es low width sign _ _ _ (Frag.In.keeps X F.keep) (T.keeps F.keep) (IsList.stays hl F.keep) hi h5 hs0 (by omega) hw0 hw1 hl0 hl1 (by show dp + 1 + 30 < _; omega) (by show ut + 3 + 100 < _; omega)) F N ?_
  rintro v h1 tk1 F1 N1 st ⟨r, u1, u2, rfl, hr, ho⟩
  have N2 := news_take F st N1 hr ho
  clear N1 N F
  dsimp only
  k_steps
  rename Fr _ _ _ _ => F'
  rename News _ _ _ _ => N'
  rename IntsAre _ (ts ++ _) => hI
  exact hQ _ _ _ F'.keep ⟨_, _, _, _, _, _, rfl, (N' _ (.head _)).2.2, (N' _ (.head _)).1, (N' _ (.tail _ (.tail _ (.head _)))).2.2, (N' _ (.tail _ (.tail _ (.head _)))).1, hI⟩


end
section
/-- the letters' number -/
noncomputable def valF (base : Int) (dg : List Int) : Int := dg.foldl (fun a d => a * base + d) 0
/-- one turn of the reading -/
noncomputable def turnF (es : List Int) (value : Int) (st : Int × Int × List Int) : Int × Int × List Int :=
  let sg := pickF es value st.1 st.2.1 (16 ^ (4 - st.2.2.length)) 3 0
  (16 * st.1 + st.2.1 * es.getD sg.toNat 0, st.2.1 * (es.getD (sg + 1).toNat 0 - es.getD sg.toNat 0), st.2.2 ++ [sg])
noncomputable def turnsF (es : List Int) (value : Int) : Nat → Int × Int × List Int
  | 0 => (0, 16, [])
  | n + 1 => turnF es value (turnsF es value n)
noncomputable def readF (es : List Int) (value : Int) : List Int := (turnsF es value 5).2.2
/-- the weights' ends -/
structure EndsOk (es : List Int) : Prop where
  ex : ∃ a b c : Int, es = [0, a, b, c, 16] ∧ 0 < a ∧ a < b ∧ b < c ∧ c < 16
theorem valF_snoc (base : Int) (l : List Int) (d : Int) : valF base (l ++ [d]) = valF base l * base + d := by
  unfold valF; rw [List.foldl_append]; rfl
theorem valF_take {base : Int} {dg : List Int} {i : Nat} (hi : i < dg.length) : valF base (dg.take (i + 1)) = valF base (dg.take i) * base + dg[i] := by
  rw [← valF_snoc, List.take_add_one, List.getElem?_eq_getElem hi]; rfl
theorem valF_bound {base : Int} (hb : 0 < base) : ∀ (n : Nat) (l : List Int), l.length = n → (∀ x ∈ l, 0 ≤ x ∧ x < base) → 0 ≤ valF base l ∧ valF base l < base ^ n
  | 0, l, hl, _ => by
    cases l with
    | nil => exact ⟨Int.le_refl _, by rw [Int.pow_zero]; show (0 : Int) < 1; decide⟩
    | cons _ _ => cases hl
  | n + 1, l, hl, hx => by
    have hne : l ≠ [] := fun q => by rw [q] at hl; cases hl
    have e := List.dropLast_concat_getLast hne
    rw [← e, valF_snoc]
    have h1 := valF_bound hb n l.dropLast (by rw [List.length_dropLast, hl]; rfl) fun x hm => hx x (List.dropLast_subset _ hm)
    have h2 := hx _ (List.getLast_mem hne)
    have h3 : valF base l.dropLast * base ≤ (base ^ n - 1) * base := Int.mul_le_mul_of_nonneg_right (by omega) (Int.le_of_lt hb)
    have h4 : 0 ≤ valF base l.dropLast * base := Int.mul_nonneg h1.1 (Int.le_of_lt hb)
    rw [Int.pow_succ]
    rw [Int.sub_mul] at h3
    omega
theorem pickF_in (es : List Int) (value low width unit : Int) : ∀ (n : Nat) (sign : Int), sign ≤ pickF es value low width unit n sign ∧ pickF es value low width unit n sign ≤ sign + n
  | 0, sign => by unfold pickF; omega
  | n + 1, sign => by
    unfold pickF
    split
    · have := pickF_in es value low width unit n (sign + 1)
      omega
    · omega
theorem ends_at {es : List Int} (he : EndsOk es) {sg : Int} (h0 : 0 ≤ sg) (h3 : sg ≤ 3) : 0 ≤ es.getD sg.toNat 0 ∧ es.getD sg.toNat 0 < es.getD (sg + 1).toNat 0 ∧ es.getD (sg + 1).toNat 0 ≤ 16 := by
  obtain ⟨a, b, c, rfl, h1, h2, h4, h5⟩ := he.ex
  have : sg = 0 ∨ sg = 1 ∨ sg = 2 ∨ sg = 3 := by omega
  rcases this with rfl | rfl | rfl | rfl
  · show 0 ≤ (0 : Int) ∧ (0 : Int) < a ∧ a ≤ 16; omega
  · show 0 ≤ a ∧ a < b ∧ b ≤ 16; omega
  · show 0 ≤ b ∧ b < c ∧ c ≤ 16; omega
  · show 0 ≤ c ∧ c < 16 ∧ (16 : Int) ≤ 16; omega
theorem narrow_in {es : List Int} (he : EndsOk es) {sg low width m : Int} (h0 : 0 ≤ sg) (h3 : sg ≤ 3) (hl : 0 ≤ low) (hw : 0 < width) (hm : low + width ≤ m) :
    0 ≤ 16 * low + width * es.getD sg.toNat 0 ∧ 0 < width * (es.getD (sg + 1).toNat 0 - es.getD sg.toNat 0) ∧ 16 * low + width * es.getD sg.toNat 0 + width * (es.getD (sg + 1).toNat 0 - es.getD sg.toNat 0) ≤ 16 * m := by
  obtain ⟨a1, a2, a3⟩ := ends_at he h0 h3
  have e1 : 0 ≤ width * es.getD sg.toNat 0 := Int.mul_nonneg (Int.le_of_lt hw) a1
  have e2 : 0 < width * (es.getD (sg + 1).toNat 0 - es.getD sg.toNat 0) := Int.mul_pos hw (by omega)
  have e3 : width * es.getD (sg + 1).toNat 0 ≤ width * 16 := Int.mul_le_mul_of_nonneg_left a3 (Int.le_of_lt hw)
  refine ⟨by omega, e2, ?_⟩
  rw [Int.mul_sub]
  omega
theorem turnsF_inv {es : List Int} (he : EndsOk es) (value : Int) : ∀ n : Nat, 0 ≤ (turnsF es value n).1 ∧ 0 < (turnsF es value n).2.1 ∧ (turnsF es value n).1 + (turnsF es value n).2.1 ≤ 16 ^ (n + 1) ∧ (turnsF es value n).2.2.length = n
  | 0 => ⟨by show (0 : Int) ≤ 0; decide, by show (0 : Int) < 16; decide, by show (0 : Int) + 16 ≤ 16 ^ 1; decide, rfl⟩
  | n + 1 => by
    obtain ⟨h1, h2, h3, h4⟩ := turnsF_inv he value n
    rw [turnsF, turnF]
    have hp := pickF_in es value (turnsF es value n).1 (turnsF es value n).2.1 (16 ^ (4 - (turnsF es value n).2.2.length)) 3 0
    dsimp only
    generalize hsg : pickF es value (turnsF es value n).1 (turnsF es value n).2.1 (16 ^ (4 - (turnsF es value n).2.2.length)) 3 0 = sg at hp ⊢
    obtain ⟨a1, a2, a3⟩ := narrow_in he (sg := sg) hp.1 (by omega) h1 h2 h3
    refine ⟨a1, a2, ?_, ?_⟩
    · rw [Int.pow_succ, Int.mul_comm (16 ^ (n + 1)) 16]; exact a3
    · rw [List.length_append, h4]; rfl
theorem pow_le24 {n : Nat} (h : n ≤ 5) : (16 : Int) ^ (n + 1) ≤ 2 ^ 24 := by
  have : n = 0 ∨ n = 1 ∨ n = 2 ∨ n = 3 ∨ n = 4 ∨ n = 5 := by omega
  rcases this with rfl | rfl | rfl | rfl | rfl | rfl <;> decide


end
section
theorem buffer : ∀ {w : World} {p : Program} {loose : List Str} {mean : ExcName → Option Value} {mg mb : Str → Option Value} (dp ut : Nat) (fr : Option (List Env)) (gd : Option (List Code)) (s : Shared)
   (b : Array UInt8) (t1 : Tok)
   (X : (heapK w.params).In s.heap) (T : Top p loose mean mg mb s.heap)
   (hdp : dp + 30 < recursionLimit) (hu : ut + 100 < cLine),
   Calls w (Aro dp ut fr gd) s (.ref 44) [.bytes b t1] fun v h' => v = .bytes b t1 := by
  k_with_none
  k_with "assign Tuple" => ((k_here; (with_reducible show wpAny _ _ (assign (Expr.Tuple _ _ _) _ (Value.ref _)) _ _ _); k_dflt (refine' kun_list ?k1 ?k2 ?k3 ?k4 ?k5 ?k6 ?_; (case k1 => k_asm); (case k2 => k_asm); (case k3 => (first | (with_reducible assumption) | exact IsList.stays (by assumption) (Fr.keep (by assumption)) | exact News.isList (by k_asm) (by k_mem))); (case k4 => exact rfl); (case k5 => exact rfl); (case k6 => exact rfl); k_whole); intro h' F' N'; (try k_sweep)))
  k_with "call type:type" => (((with_reducible show wpAny _ _ (call (Value.type "type") [Value.bytes _ _]) _ _ _); refine call_type_of (typeIs_bytes _ _ _) (by decide +kernel) ?_))
  k_with "subscriptTail" => (((with_reducible show wpAny _ _ (subscriptTail _ (Expr.Slice _ _ none _) (Value.bytes _ _) (Value.ref _)) _ _ _); (with_reducible rename Fr _ _ _ _ => F'); (with_reducible rename News _ _ _ _ => N'); (refine slice_m (s := ⟨_, _, _, _, _⟩) F' N' (by constructor) (by constructor) (by first | decide | assumption | omega) ?_); intro h' _ _ F' N'; (try dsimp only [Option.elim])))
  unfold Calls
  w_top off
  k_fill
  intro w p loose mean mg mb dp ut fr gd s b t1 X T hdp hu Q E hQ
  ((refine wpAny_call ?_; k_dflt (refine' enterD ?k1 ?k2 ?k6 ?k7 ?k8 ?k9 ?kB ?_ ?c2 ?c3 ?c4 ?c5; (case k1 => k_asm); (case k2 => k_asm); (case k6 => k_is); (case k7 => k_is); (case k8 => first | omega | (dsimp only [Aro]; omega)); (case k9 => exact BindsTo.of_eq rfl); (case c5 => decide); (case kB => exact locs rfl); (case c2 => exact rfl); (case c3 => exact rfl); (case c4 => exact rfl); k_whole)))
  intro L' h' F' N'
  dsimp only
  k_steps
  rename Fr _ _ _ _ => F'
  exact hQ _ _ _ F'.keep rfl
theorem truth : ∀ {w : World} {p : Program} {loose : List Str} {mean : ExcName → Option Value} {mg mb : Str → Option Value} (dp ut : Nat) (fr : Option (List Env)) (gd : Option (List Code)) (s : Shared)
   (X : (heapK w.params).In s.heap) (T : Top p loose mean mg mb s.heap)
   (hdp : dp + 30 < recursionLimit) (hu : ut + 100 < cLine),
   Calls w (Aro dp ut fr gd) s (.ref 51) [.bool false] fun v h' => v = .bool false := by
  k_with_none
  k_with "assign Tuple" => ((k_here; (with_reducible show wpAny _ _ (assign (Expr.Tuple _ _ _) _ (Value.ref _)) _ _ _); k_dflt (refine' kun_list ?k1 ?k2 ?k3 ?k4 ?k5 ?k6 ?_; (case k1 => k_asm); (case k2 => k_asm); (case k3 => (first | (with_reducible assumption) | exact IsList.stays (by assumption) (Fr.keep (by assumption)) | exact News.isList (by k_asm) (by k_mem))); (case k4 => exact rfl); (case k5 => exact rfl); (case k6 => exact rfl); k_whole); intro h' F' N'; (try k_sweep)))
  k_with "call type:type" => (((with_reducible show wpAny _ _ (call (Value.type "type") [Value.bytes _ _]) _ _ _); refine call_type_of (typeIs_bytes _ _ _) (by decide +kernel) ?_))
  k_with "subscriptTail" => (((with_reducible show wpAny _ _ (subscriptTail _ (Expr.Slice _ _ none _) (Value.bytes _ _) (Value.ref _)) _ _ _); (with_reducible rename Fr _ _ _ _ => F'); (with_reducible rename News _ _ _ _ => N'); (refine slice_m (s := ⟨_, _, _, _, _⟩) F' N' (by constructor) (by constructor) (by first | decide | assumption | omega) ?_); intro h' _ _ F' N'; (try dsimp only [Option.elim])))
  unfold Calls
  w_top off
  k_fill
  intro w p loose mean mg mb dp ut fr gd s X T hdp hu Q E hQ
  ((refine wpAny_call ?_; k_dflt (refine' enterD ?k1 ?k2 ?k6 ?k7 ?k8 ?k9 ?kB ?_ ?c2 ?c3 ?c4 ?c5; (case k1 => k_asm); (case k2 => k_asm); (case k6 => k_is); (case k7 => k_is); (case k8 => first | omega | (dsimp only [Aro]; omega)); (case k9 => exact BindsTo.of_eq rfl); (case c5 => decide); (case kB => exact locs rfl); (case c2 => exact rfl); (case c3 => exact rfl); (case c4 => exact rfl); k_whole)))
  intro L' h' F' N'
  dsimp only
  k_steps
  rename Fr _ _ _ _ => F'
  exact hQ _ _ _ F'.keep rfl
local macro_rules | `(tactic| walk_at "call ref") => `(tactic| (k_dflt (refine' Calls.use (buffer _ _ _ _ _ _ _ ?X ?T ?d ?u) ?F ?N ?_; (case X => (first | assumption | exact Frag.In.keeps (by assumption) (Fr.keep (by assumption)))); (case T => (first | assumption | exact Top.keeps (by assumption) (Fr.keep (by assumption)))); (case d => (first | omega | (dsimp only [Around.deeper, Around.in1, Aro]; omega))); (case u => (first | omega | (dsimp only [Around.deeper, Around.in1, Aro]; omega))); (case F => k_asm); (case N => k_asm); k_whole); intro v' h' tk' F' N' st' e'; (try subst e'); clear st'; (try k_sweep)))
local macro_rules | `(tactic| walk_at "call ref") => `(tactic| (k_dflt (refine' Calls.use (truth _ _ _ _ _ ?X ?T ?d ?u) ?F ?N ?_; (case X => (first | assumption | exact Frag.In.keeps (by assumption) (Fr.keep (by assumption)))); (case T => (first | assumption | exact Top.keeps (by assumption) (Fr.keep (by assumption)))); (case d => (first | omega | (dsimp only [Around.deeper, Around.in1, Aro]; omega))); (case u => (first | omega | (dsimp only [Around.deeper, Around.in1, Aro]; omega))); (case F => k_asm); (case N => k_asm); k_whole); intro v' h' tk' F' N' st' e'; (try subst e'); clear st'; (try k_sweep)))
local macro_rules | `(tactic| walk_at "pyIter bytes") => `(tactic| ((rename Fr _ _ _ _ => lF'); (rename News _ _ _ _ => lN'); (with_unfolding_all refine iter_bytesUnr (by rfl) lF' lN' (by assumption) ?_); clear lF' lN'; intro i' l1; (try k_lt l1)))
theorem and63 (a : Int) : 0 ≤ Builtin.bitAnd a 63 ∧ Builtin.bitAnd a 63 < 64 := by rw [bitAnd_m6]; omega
local macro_rules | `(tactic| walk_at "subscriptTail") => `(tactic| ((show wpAny _ _ (subscriptTail _ _ (Value.bytes (List.toArray _) _) (Value.int (Builtin.bitAnd _ 63) _)) _ _ _); refine KBy.item_N (by decide) (and63 _).1 (Int.lt_of_lt_of_le (and63 _).2 (by decide)) ?_))
theorem and16 (a : Int) : (Builtin.bitAnd a 65535).natAbs < 2 ^ 64 := by rw [bitAnd_m16]; omega
local macro_rules | `(tactic| walk_at "binaryOp LShift int int") => `(tactic| ((show wpAny _ _ (binaryOp _ (Value.int (Builtin.bitAnd _ 65535) _) (Value.int 8 _)) _ _ _); refine lshift_int_small (by decide) (by decide) (and16 _) ?_))
theorem b2a : ∀ {w : World} {p : Program} {loose : List Str} {mean : ExcName → Option Value} {mg mb : Str → Option Value} (dp ut : Nat) (fr : Option (List Env)) (gd : Option (List Code)) (s : Shared)
   (b : Array UInt8) (x y z : Int) (hb : KBw.bInts b = [x, y, z]) (t1 : Tok)
   (X : (heapK w.params).In s.heap) (T : Top p loose mean mg mb s.heap)
   (hdp : dp + 60 < recursionLimit) (hu : ut + 200 < cLine) (Q E : Value → Shared → Prop)
   (hQ : ∀ v h' tk', s.heap.StaysIn h' → (∃ u, v = .bytes (byteArr (b64raw x y z)) u) → Q v { s with heap := h', toks := tk' }),
   wpAny (model P.row.prog w) (Aro dp ut fr gd) (call (.ref 59) [.bytes b t1] [("newline", .bool false)]) Q E s := by
  k_with_none
  k_with "assign Tuple" => ((k_here; (with_reducible show wpAny _ _ (assign (Expr.Tuple _ _ _) _ (Value.ref _)) _ _ _); k_dflt (refine' kun_list ?k1 ?k2 ?k3 ?k4 ?k5 ?k6 ?_; (case k1 => k_asm); (case k2 => k_asm); (case k3 => (first | (with_reducible assumption) | exact IsList.stays (by assumption) (Fr.keep (by assumption)) | exact News.isList (by k_asm) (by k_mem))); (case k4 => exact rfl); (case k5 => exact rfl); (case k6 => exact rfl); k_whole); intro h' F' N'; (try k_sweep)))
  k_with "call type:type" => (((with_reducible show wpAny _ _ (call (Value.type "type") [Value.bytes _ _]) _ _ _); refine call_type_of (typeIs_bytes _ _ _) (by decide +kernel) ?_))
  k_with "subscriptTail" => (((with_reducible show wpAny _ _ (subscriptTail _ (Expr.Slice _ _ none _) (Value.bytes _ _) (Value.ref _)) _ _ _); (with_reducible rename Fr _ _ _ _ => F'); (with_reducible rename News _ _ _ _ => N'); (refine slice_m (s := ⟨_, _, _, _, _⟩) F' N' (by constructor) (by constructor) (by first | decide | assumption | omega) ?_); intro h' _ _ F' N'; (try dsimp only [Option.elim])))
  w_top off
  k_fill
  intro w p loose mean mg mb dp ut fr gd s b x y z hb t1 X T hdp hu Q E hQ
  ((refine wpAny_call ?_; k_dflt (refine' enterD ?k1 ?k2 ?k6 ?k7 ?k8 ?k9 ?kB ?_ ?c2 ?c3 ?c4 ?c5; (case k1 => k_asm); (case k2 => k_asm); (case k6 => k_is); (case k7 => k_is); (case k8 => first | omega | (dsimp only [Aro]; omega)); (case k9 => exact BindsTo.of_eq rfl); (case c5 => decide); (case kB => exact locs rfl); (case c2 => exact rfl); (case c3 => exact rfl); (case c4 => exact rfl); k_whole)))
  intro L' h' F' N'
  dsimp only
  k_steps
  rename Fr _ _ _ _ => F'
  rename News _ _ _ _ => N'
  have hl := isList_of (N' _ (.head _)).1
  refine KBa.make_K F' N' rfl (vs := [.int _ _, .int _ _, .int _ _, .int _ _]) hl (.cons _ _ (.cons _ _ (.cons _ _ (.cons _ _ .nil)))) ?hr (Nat.le_of_ble_eq_true rfl) ?_
  case hr =>
    intro n hn
    simp only [List.mem_cons, List.not_mem_nil, or_false] at hn
    rcases hn with rfl | rfl | rfl | rfl <;> exact ⟨Int.natCast_nonneg _, Int.ofNat_lt.mpr (UInt8.toNat_lt _)⟩
  intro h1 t2 k F1 N1 _
  exact hQ _ _ _ F1.keep ⟨_, rfl⟩


end
section
noncomputable def apF : Nat → Int → List UInt8 → List UInt8
  | 0, _, val => val
  | k + 1, n, val => if n = 0 then val else apF k (Int.fdiv n 16) (UInt8.ofNat (65 + (Int.fmod n 16).toNat) :: val)
theorem ap_cut (r : Int) (h0 : 0 ≤ r) (h1 : r < 16) : List.take (clipAt (List.toArray ([65, 66, 67, 68, 69, 70, 71, 72, 73, 74, 75, 76, 77, 78, 79, 80] : List UInt8)).size (r + 1) - clipAt (List.toArray ([65, 66, 67, 68, 69, 70, 71, 72, 73, 74, 75, 76, 77, 78, 79, 80] : List UInt8)).size r) (List.drop (clipAt (List.toArray ([65, 66, 67, 68, 69, 70, 71, 72, 73, 74, 75, 76, 77, 78, 79, 80] : List UInt8)).size r) ([65, 66, 67, 68, 69, 70, 71, 72, 73, 74, 75, 76, 77, 78, 79, 80] : List UInt8)) = [UInt8.ofNat (65 + r.toNat)] := by
  have h : r = 0 ∨ r = 1 ∨ r = 2 ∨ r = 3 ∨ r = 4 ∨ r = 5 ∨ r = 6 ∨ r = 7 ∨ r = 8 ∨ r = 9 ∨ r = 10 ∨ r = 11 ∨ r = 12 ∨ r = 13 ∨ r = 14 ∨ r = 15 := by omega
  rcases h with rfl | rfl | rfl | rfl | rfl | rfl | rfl | rfl | rfl | rfl | rfl | rfl | rfl | rfl | rfl | rfl <;> decide
theorem apF_zero : ∀ (n : Nat) (val : List UInt8), apF n 0 val = val
  | 0, _ => rfl
  | n + 1, val => by rw [apF, if_pos rfl]
theorem int2ap : ∀ {w : World} {p : Program} {loose : List Str} {mean : ExcName → Option Value} {mg mb : Str → Option Value} (dp ut : Nat) (fr : Option (List Env)) (gd : Option (List Code)) (s : Shared)
   (num : Int) (t1 : Tok)
   (X : (heapK w.params).In s.heap) (T : Top p loose mean mg mb s.heap)
   (hn0 : num ≤ 0) (hn1 : - 16777216 < num)
   (hdp : dp + 30 < recursionLimit) (hu : ut + 100 < cLine),
   Calls w (Aro dp ut fr gd) s (.ref 81) [.int num t1] fun v h' => ∃ u, v = .bytes (apF 6 (-num) []).toArray u := by
  k_with_none
  k_with "assign Tuple" => ((k_here; (with_reducible show wpAny _ _ (assign (Expr.Tuple _ _ _) _ (Value.ref _)) _ _ _); k_dflt (refine' kun_list ?k1 ?k2 ?k3 ?k4 ?k5 ?k6 ?_; (case k1 => k_asm); (case k2 => k_asm); (case k3 => (first | (with_reducible assumption) | exact IsList.stays (by assumption) (Fr.keep (by assumption)) | exact News.isList (by k_asm) (by k_mem))); (case k4 => exact rfl); (case k5 => exact rfl); (case k6 => exact rfl); k_whole); intro h' F' N'; (try k_sweep)))
  k_with "call type:type" => (((with_reducible show wpAny _ _ (call (Value.type "type") [Value.bytes _ _]) _ _ _); refine call_type_of (typeIs_bytes _ _ _) (by decide +kernel) ?_))
  k_with "subscriptTail" => (((with_reducible show wpAny _ _ (subscriptTail _ (Expr.Slice _ _ none _) (Value.bytes _ _) (Value.ref _)) _ _ _); (with_reducible rename Fr _ _ _ _ => F'); (with_reducible rename News _ _ _ _ => N'); (refine slice_m (s := ⟨_, _, _, _, _⟩) F' N' (by constructor) (by constructor) (by first | decide | assumption | omega) ?_); intro h' _ _ F' N'; (try dsimp only [Option.elim])))
  unfold Calls
  w_top off
  k_fill
  intro w p loose mean mg mb dp ut fr gd s num t1 X T hn0 hn1 hdp hu Q E hQ
  ((refine wpAny_call ?_; k_dflt (refine' enterD ?k1_z72 ?k2_z72 ?k6_z72 ?k7_z72 ?k8_z72 ?k9_z72 ?kB_z72 ?_ ?c2_z72 ?c3_z72 ?c4_z72 ?c5_z72; (case k1_z72 => k_asm); (case k2_z72 => k_asm); (case k6_z72 => k_is); (case k7_z72 => k_is); (case k8_z72 => first | omega | (dsimp only [Aro]; omega)); (case k9_z72 => first | exact BindsTo.of_eq rfl | (refine' binds_K ?bX_z72 ?bd_z72 ?bo_z72 ?bs_z72 ?b1_z72 ?b2_z72; (case bX_z72 => assumption); (case bd_z72 => exact rfl); (case bo_z72 => k_is); (case bs_z72 => exact rfl); (case b1_z72 => exact rfl); (case b2_z72 => exact rfl))); (case c5_z72 => decide); (case kB_z72 => exact locs rfl); (case c2_z72 => exact rfl); (case c3_z72 => exact rfl); (case c4_z72 => exact rfl); k_whole)))
  intro L' h' F' N'
  refine execs_mid 3 (fun s' => ∃ (m : Str → Option Value) (t u v : Tok) (x : Int), x = -num ∧ At s s.heap L' (kstB m [("num", .int x t), ("val", .bytes #[] u), ("AP", .bytes #[65, 66, 67, 68, 69, 70, 71, 72, 73, 74, 75, 76, 77, 78, 79, 80] v)]) [] s') ?_ ?_
  · dsimp only [List.take]
    k_steps
    refine' ⟨rfl, _, _, _, _, _, ?q, At.of ?F ?N ?e⟩
    case F => assumption
    case N => assumption
    case e => (repeat (first | exact trivial | (refine And.intro ?_ ?_; (k_dflt rfl))))
    case q => split <;> omega
  clear F' N'
  rintro s' ⟨m, t, u, v, x, hx, h, tk, rfl, F, N⟩
  dsimp only [kstB] at F
  dsimp only [List.drop]
  refine execs_mid 1 (fun s' => ∃ (m : Str → Option Value) (t : Tok), At s s.heap L' (kstB m [("val", .bytes (apF 6 (-num) []).toArray t)]) [] s') ?_ ?_
  · dsimp only [List.take]
    refine wpAny_execs_cons ?_
    refine While_ (fun n s' => ∃ (m : Str → Option Value) (t u v : Tok) (x : Int) (val : List UInt8), 0 ≤ x ∧ x < 16 ^ n ∧ n ≤ 6 ∧ val.length ≤ 6 - n ∧ apF 6 (-num) [] = apF n x val ∧ At s s.heap L' (kstB m [("num", .int x t), ("val", .bytes val.toArray u), ("AP", .bytes #[65, 66, 67, 68, 69, 70, 71, 72, 73, 74, 75, 76, 77, 78, 79, 80] v)]) [] s') 6 ⟨m, t, u, v, x, [], by omega, by omega, by omega, by simp, by rw [hx], h, tk, rfl, F, N⟩ ?_
    clear F N
    rintro n s' ⟨m, t, u, v, x, val, hx0, hx1, hn6, hvl, hap, h, tk, rfl, F, N⟩
    dsimp only [kstB] at F
    k_steps
    · have hm0 : 0 ≤ Int.fmod x 16 := Int.fmod_nonneg_of_pos x (by omega)
      have hm1 : Int.fmod x 16 < 16 := Int.fmod_lt_of_pos x (by omega)
      have hdm := Int.mul_fdiv_add_fmod x 16
      rw [ap_cut _ hm0 hm1]
      refine KBy.add_bytes (by simp; omega) ?_
      intro t' k'
      rw [List.append_toArray, List.singleton_append]
      k_steps
      cases n with
      | zero =>
        exfalso
        rw [Int.pow_zero] at hx1
        omega
      | succ n =>
        refine' ⟨rfl, n, Nat.lt_succ_self _, _, _, _, _, _, UInt8.ofNat (65 + (Int.fmod x 16).toNat) :: val, ?q1, ?q2, ?q3, ?q4, ?q5, At.of ?F ?N ?e⟩
        case F => assumption
        case N => exact News.nil
        case e => (repeat (first | exact trivial | (refine And.intro ?_ ?_; (k_dflt rfl))))
        case q1 => omega
        case q2 =>
          rw [Int.pow_succ] at hx1
          omega
        case q3 => omega
        case q4 => simp; omega
        case q5 => rw [hap, apF, if_neg (by assumption)]
    · refine' ⟨rfl, _, _, At.of ?F ?N ?e⟩
      case F => assumption
      case N => assumption
      case e =>
        rename x = 0 => hx9
        rw [hap, hx9, apF_zero]
        (repeat (first | exact trivial | (refine And.intro ?_ ?_; (k_dflt rfl))))
  clear F N
  rintro s' ⟨m, t, h, tk, rfl, F, N⟩
  dsimp only [kstB] at F
  dsimp only [List.drop]
  k_steps
  rename Fr _ _ _ _ => F'
  exact hQ _ _ _ F'.keep ⟨_, rfl⟩


end
end
section
theorem b64enc : ∀ {w : World} {p : Program} {loose : List Str} {mean : ExcName → Option Value} {mg mb : Str → Option Value} (dp ut : Nat) (fr : Option (List Env)) (gd : Option (List Code)) (s : Shared)
   (b : Array UInt8) (x y z : Int) (hb : KBw.bInts b = [x, y, z]) (t1 : Tok)
   (X : (heapK w.params).In s.heap) (T : Top p loose mean mg mb s.heap)
   (hdp : dp + 90 < recursionLimit) (hu : ut + 300 < cLine),
   Calls w (Aro dp ut fr gd) s (.ref 67) [.bytes b t1] fun v h' => ∃ u, v = .bytes (byteArr (b64raw x y z)) u := by
  k_with_none
  k_with "assign Tuple" => ((k_here; (with_reducible show wpAny _ _ (assign (Expr.Tuple _ _ _) _ (Value.ref _)) _ _ _); k_dflt (refine' kun_list ?k1 ?k2 ?k3 ?k4 ?k5 ?k6 ?_; (case k1 => k_asm); (case k2 => k_asm); (case k3 => (first | (with_reducible assumption) | exact IsList.stays (by assumption) (Fr.keep (by assumption)) | exact News.isList (by k_asm) (by k_mem))); (case k4 => exact rfl); (case k5 => exact rfl); (case k6 => exact rfl); k_whole); intro h' F' N'; (try k_sweep)))
  k_with "call type:type" => (((with_reducible show wpAny _ _ (call (Value.type "type") [Value.bytes _ _]) _ _ _); refine call_type_of (typeIs_bytes _ _ _) (by decide +kernel) ?_))
  k_with "subscriptTail" => (((with_reducible show wpAny _ _ (subscriptTail _ (Expr.Slice _ _ none _) (Value.bytes _ _) (Value.ref _)) _ _ _); (with_reducible rename Fr _ _ _ _ => F'); (with_reducible rename News _ _ _ _ => N'); (refine slice_m (s := ⟨_, _, _, _, _⟩) F' N' (by constructor) (by constructor) (by first | decide | assumption | omega) ?_); intro h' _ _ F' N'; (try dsimp only [Option.elim])))
  unfold Calls
  w_top off
  k_fill
  intro w p loose mean mg mb dp ut fr gd s b x y z hb t1 X T hdp hu Q E hQ
  ((refine wpAny_call ?_; k_dflt (refine' enterD ?k1_z73 ?k2_z73 ?k6_z73 ?k7_z73 ?k8_z73 ?k9_z73 ?kB_z73 ?_ ?c2_z73 ?c3_z73 ?c4_z73 ?c5_z73; (case k1_z73 => k_asm); (case k2_z73 => k_asm); (case k6_z73 => k_is); (case k7_z73 => k_is); (case k8_z73 => first | omega | (dsimp only [Aro]; omega)); (case k9_z73 => first | exact BindsTo.of_eq rfl | (refine' binds_K ?bX_z73 ?bd_z73 ?bo_z73 ?bs_z73 ?b1_z73 ?b2_z73; (case bX_z73 => assumption); (case bd_z73 => exact rfl); (case bo_z73 => k_is); (case bs_z73 => exact rfl); (case b1_z73 => exact rfl); (case b2_z73 => exact rfl))); (case c5_z73 => decide); (case kB_z73 => exact locs rfl); (case c2_z73 => exact rfl); (case c3_z73 => exact rfl); (case c4_z73 => exact rfl); k_whole)))
  intro L' h' F' N'
  dsimp only
  k_steps
  refine b2a (p := p) (loose := loose) (mean := mean) (mg := mg) (mb := mb) (dp + 1) (ut + 3) _ _ _ b x y z hb t1 (Frag.In.keeps X F'.keep) (T.keeps F'.keep) (by omega) (by omega) _ _ ?_
  rintro v h1 tk1 st ⟨u, rfl⟩
  have F1 := F'.kept st
  have N1 := N'.grown st
  clear F' N'
  dsimp only
  k_steps
  rename Fr _ _ _ _ => F'
  exact hQ _ _ _ F'.keep ⟨_, rfl⟩
theorem b64std : ∀ {w : World} {p : Program} {loose : List Str} {mean : ExcName → Option Value} {mg mb : Str → Option Value} (dp ut : Nat) (fr : Option (List Env)) (gd : Option (List Code)) (s : Shared)
   (b : Array UInt8) (x y z : Int) (hb : KBw.bInts b = [x, y, z]) (t1 : Tok)
   (X : (heapK w.params).In s.heap) (T : Top p loose mean mg mb s.heap)
   (hdp : dp + 120 < recursionLimit) (hu : ut + 400 < cLine),
   Calls w (Aro dp ut fr gd) s (.ref 74) [.bytes b t1] fun v h' => ∃ u, v = .bytes (byteArr (b64raw x y z)) u := by
  k_with_none
  k_with "assign Tuple" => ((k_here; (with_reducible show wpAny _ _ (assign (Expr.Tuple _ _ _) _ (Value.ref _)) _ _ _); k_dflt (refine' kun_list ?k1 ?k2 ?k3 ?k4 ?k5 ?k6 ?_; (case k1 => k_asm); (case k2 => k_asm); (case k3 => (first | (with_reducible assumption) | exact IsList.stays (by assumption) (Fr.keep (by assumption)) | exact News.isList (by k_asm) (by k_mem))); (case k4 => exact rfl); (case k5 => exact rfl); (case k6 => exact rfl); k_whole); intro h' F' N'; (try k_sweep)))
  k_with "call type:type" => (((with_reducible show wpAny _ _ (call (Value.type "type") [Value.bytes _ _]) _ _ _); refine call_type_of (typeIs_bytes _ _ _) (by decide +kernel) ?_))
  k_with "subscriptTail" => (((with_reducible show wpAny _ _ (subscriptTail _ (Expr.Slice _ _ none _) (Value.bytes _ _) (Value.ref _)) _ _ _); (with_reducible rename Fr _ _ _ _ => F'); (with_reducible rename News _ _ _ _ => N'); (refine slice_m (s := ⟨_, _, _, _, _⟩) F' N' (by constructor) (by constructor) (by first | decide | assumption | omega) ?_); intro h' _ _ F' N'; (try dsimp only [Option.elim])))
  unfold Calls
  w_top off
  k_fill
  intro w p loose mean mg mb dp ut fr gd s b x y z hb t1 X T hdp hu Q E hQ
  ((refine wpAny_call ?_; k_dflt (refine' enterD ?k1_z74 ?k2_z74 ?k6_z74 ?k7_z74 ?k8_z74 ?k9_z74 ?kB_z74 ?_ ?c2_z74 ?c3_z74 ?c4_z74 ?c5_z74; (case k1_z74 => k_asm); (case k2_z74 => k_asm); (case k6_z74 => k_is); (case k7_z74 => k_is); (case k8_z74 => first | omega | (dsimp only [Aro]; omega)); (case k9_z74 => first | exact BindsTo.of_eq rfl | (refine' binds_K ?bX_z74 ?bd_z74 ?bo_z74 ?bs_z74 ?b1_z74 ?b2_z74; (case bX_z74 => assumption); (case bd_z74 => exact rfl); (case bo_z74 => k_is); (case bs_z74 => exact rfl); (case b1_z74 => exact rfl); (case b2_z74 => exact rfl))); (case c5_z74 => decide); (case kB_z74 => exact locs rfl); (case c2_z74 => exact rfl); (case c3_z74 => exact rfl); (case c4_z74 => exact rfl); k_whole)))
  intro L' h' F' N'
  dsimp only
  k_steps
  refine Calls.use (b64enc (p := p) (loose := loose) (mean := mean) (mg := mg) (mb := mb) (dp + 1) (ut + 3) _ _ _ b x y z hb t1 (Frag.In.keeps X F'.keep) (T.keeps F'.keep) (by omega) (by omega)) F' N' ?_
  rintro v h1 tk1 F1 N1 st ⟨u, rfl⟩
  exact hQ _ _ _ F1.keep ⟨_, rfl⟩
noncomputable def wr16 (size number : Int) : List UInt8 := List.replicate (size - (apF 6 number []).length).toNat 65 ++ apF 6 number []
theorem written16 : ∀ {w : World} {p : Program} {loose : List Str} {mean : ExcName → Option Value} {mg mb : Str → Option Value} (dp ut : Nat) (fr : Option (List Env)) (gd : Option (List Code)) (s : Shared)
   (size number : Int) (t1 t2 t3 : Tok)
   (X : (heapK w.params).In s.heap) (T : Top p loose mean mg mb s.heap)
   (hs0 : 1 ≤ size) (hs1 : size ≤ 6) (hn0 : 0 ≤ number) (hn1 : number < 16777216) (hlen : (apF 6 number []).length ≤ 6)
   (hdp : dp + 150 < recursionLimit) (hu : ut + 500 < cLine),
   Calls w (Aro dp ut fr gd) s (.ref 102) [.int 16 t1, .int size t2, .int number t3] fun v h' => ∃ u, v = .bytes (wr16 size number).toArray u := by
  k_with_none
  k_with "assign Tuple" => ((k_here; (with_reducible show wpAny _ _ (assign (Expr.Tuple _ _ _) _ (Value.ref _)) _ _ _); k_dflt (refine' kun_list ?k1 ?k2 ?k3 ?k4 ?k5 ?k6 ?_; (case k1 => k_asm); (case k2 => k_asm); (case k3 => (first | (with_reducible assumption) | exact IsList.stays (by assumption) (Fr.keep (by assumption)) | exact News.isList (by k_asm) (by k_mem))); (case k4 => exact rfl); (case k5 => exact rfl); (case k6 => exact rfl); k_whole); intro h' F' N'; (try k_sweep)))
  k_with "call type:type" => (((with_reducible show wpAny _ _ (call (Value.type "type") [Value.bytes _ _]) _ _ _); refine call_type_of (typeIs_bytes _ _ _) (by decide +kernel) ?_))
  k_with "subscriptTail" => (((with_reducible show wpAny _ _ (subscriptTail _ (Expr.Slice _ _ none _) (Value.bytes _ _) (Value.ref _)) _ _ _); (with_reducible rename Fr _ _ _ _ => F'); (with_reducible rename News _ _ _ _ => N'); (refine slice_m (s := ⟨_, _, _, _, _⟩) F' N' (by constructor) (by constructor) (by first | decide | assumption | omega) ?_); intro h' _ _ F' N'; (try dsimp only [Option.elim])))
  unfold Calls
  w_top off
  k_fill
  intro w p loose mean mg mb dp ut fr gd s size number t1 t2 t3 X T hs0 hs1 hn0 hn1 hlen hdp hu Q E hQ
  ((refine wpAny_call ?_; k_dflt (refine' enterD ?k1_z75 ?k2_z75 ?k6_z75 ?k7_z75 ?k8_z75 ?k9_z75 ?kB_z75 ?_ ?c2_z75 ?c3_z75 ?c4_z75 ?c5_z75; (case k1_z75 => k_asm); (case k2_z75 => k_asm); (case k6_z75 => k_is); (case k7_z75 => k_is); (case k8_z75 => first | omega | (dsimp only [Aro]; omega)); (case k9_z75 => first | exact BindsTo.of_eq rfl | (refine' binds_K ?bX_z75 ?bd_z75 ?bo_z75 ?bs_z75 ?b1_z75 ?b2_z75; (case bX_z75 => assumption); (case bd_z75 => exact rfl); (case bo_z75 => k_is); (case bs_z75 => exact rfl); (case b1_z75 => exact rfl); (case b2_z75 => exact rfl))); (case c5_z75 => decide); (case kB_z75 => exact locs rfl); (case c2_z75 => exact rfl); (case c3_z75 => exact rfl); (case c4_z75 => exact rfl); k_whole)))
  intro L' h' F' N'
  dsimp only
  k_steps
  refine Calls.use (int2ap (p := p) (loose := loose) (mean := mean) (mg := mg) (mb := mb) (dp + 1) (ut + 3) _ _ _ (0 - number) _ (Frag.In.keeps X F'.keep) (T.keeps F'.keep) (by omega) (by omega) (by omega) (by omega)) F' N' ?_
  rintro v h1 tk1 F1 N1 st ⟨u, rfl⟩
  have e1 : -(0 - number) = number := by omega
  rw [e1]
  clear F' N' st
  dsimp only
  k_steps
  rw [List.size_toArray]
  refine bytes_mul_any (b := [65]) (by simp) (by omega) (by omega) (by decide) ?_
  intro t' k'
  rw [List.flatten_replicate_singleton]
  k_steps
  refine KBy.add_bytes (by simp only [List.size_toArray, List.length_replicate]; omega) ?_
  intro t2 k2
  rw [List.append_toArray]
  rename Fr _ _ _ _ => F'
  exact hQ _ _ _ F'.keep ⟨_, rfl⟩
/-- the four letters of a whole -/
noncomputable def four (n : Int) : List UInt8 := [letter (n / 262144 % 64), letter (n / 4096 % 64), letter (n / 64 % 64), letter (n % 64)]
noncomputable def wr64 (size number : Int) : List UInt8 := (four (number * 64 ^ (4 - size).toNat)).take size.toNat
theorem bytes_ok {wh : Int} (h0 : 0 ≤ wh) (h1 : wh < 16777216) : (0 ≤ wh / 65536 ∧ wh / 65536 < 256) ∧ (0 ≤ wh / 256 % 256 ∧ wh / 256 % 256 < 256) ∧ (0 ≤ wh % 256 ∧ wh % 256 < 256) :=
  ⟨⟨Int.ediv_nonneg h0 (by decide), Int.ediv_lt_of_lt_mul (by decide) h1⟩, ⟨Int.emod_nonneg _ (by decide), Int.emod_lt_of_pos _ (by decide)⟩, ⟨Int.emod_nonneg _ (by decide), Int.emod_lt_of_pos _ (by decide)⟩⟩
theorem bytes_sum (wh : Int) : wh / 65536 * 65536 + wh / 256 % 256 * 256 + wh % 256 = wh := by
  have a : wh / 65536 = wh / 256 / 256 := (Int.ediv_ediv_of_nonneg (y := 256) (z := 256) (by decide)).symm
  have b := Int.emod_add_mul_ediv (wh / 256) 256
  have c := Int.emod_add_mul_ediv wh 256
  rw [a]; lia
theorem four_ways {x : Int} (h0 : 1 ≤ x) (h1 : x ≤ 4) : x = 1 ∨ x = 2 ∨ x = 3 ∨ x = 4 := by lia
theorem written64 : ∀ {w : World} {p : Program} {loose : List Str} {mean : ExcName → Option Value} {mg mb : Str → Option Value} (dp ut : Nat) (fr : Option (List Env)) (gd : Option (List Code)) (s : Shared)
   (size number : Int) (t1 t2 t3 : Tok)
   (X : (heapK w.params).In s.heap) (T : Top p loose mean mg mb s.heap)
   (hs0 : 1 ≤ size) (hs1 : size ≤ 4) (hn0 : 0 ≤ number) (hn1 : number * 64 ^ (4 - size).toNat < 16777216)
   (hdp : dp + 150 < recursionLimit) (hu : ut + 500 < cLine),
   Calls w (Aro dp ut fr gd) s (.ref 102) [.int 64 t1, .int size t2, .int number t3] fun v h' => ∃ u, v = .bytes (wr64 size number).toArray u := by
  k_with_none
  k_with "assign Tuple" => ((k_here; (with_reducible show wpAny _ _ (assign (Expr.Tuple _ _ _) _ (Value.ref _)) _ _ _); k_dflt (refine' kun_list ?k1 ?k2 ?k3 ?k4 ?k5 ?k6 ?_; (case k1 => k_asm); (case k2 => k_asm); (case k3 => (first | (with_reducible assumption) | exact IsList.stays (by assumption) (Fr.keep (by assumption)) | exact News.isList (by k_asm) (by k_mem))); (case k4 => exact rfl); (case k5 => exact rfl); (case k6 => exact rfl); k_whole); intro h' F' N'; (try k_sweep)))
  k_with "call type:type" => (((with_reducible show wpAny _ _ (call (Value.type "type") [Value.bytes _ _]) _ _ _); refine call_type_of (typeIs_bytes _ _ _) (by decide +kernel) ?_))
  k_with "subscriptTail" => (((with_reducible show wpAny _ _ (subscriptTail _ (Expr.Slice _ _ none _) (Value.bytes _ _) (Value.ref _)) _ _ _); (with_reducible rename Fr _ _ _ _ => F'); (with_reducible rename News _ _ _ _ => N'); (refine slice_m (s := ⟨_, _, _, _, _⟩) F' N' (by constructor) (by constructor) (by first | decide | assumption | omega) ?_); intro h' _ _ F' N'; (try dsimp only [Option.elim])))
  unfold Calls
  w_top off
  k_fill
  intro w p loose mean mg mb dp ut fr gd s size number t1 t2 t3 X T hs0 hs1 hn0 hn1 hdp hu Q E hQ
  have hp0 : (1 : Int) ≤ 64 ^ (4 - size).toNat ∧ (64 : Int) ^ (4 - size).toNat ≤ 262144 := by
    rcases four_ways hs0 hs1 with rfl | rfl | rfl | rfl <;> decide
  have hw0 : 0 ≤ number * 64 ^ (4 - size).toNat := Int.mul_nonneg hn0 (by omega)
  have hn2 : number ≤ number * 64 ^ (4 - size).toNat := by
    have := Int.mul_le_mul_of_nonneg_left hp0.1 hn0
    omega
  ((refine wpAny_call ?_; k_dflt (refine' enterD ?k1_z76 ?k2_z76 ?k6_z76 ?k7_z76 ?k8_z76 ?k9_z76 ?kB_z76 ?_ ?c2_z76 ?c3_z76 ?c4_z76 ?c5_z76; (case k1_z76 => k_asm); (case k2_z76 => k_asm); (case k6_z76 => k_is); (case k7_z76 => k_is); (case k8_z76 => first | omega | (dsimp only [Aro]; omega)); (case k9_z76 => first | exact BindsTo.of_eq rfl | (refine' binds_K ?bX_z76 ?bd_z76 ?bo_z76 ?bs_z76 ?b1_z76 ?b2_z76; (case bX_z76 => assumption); (case bd_z76 => exact rfl); (case bo_z76 => k_is); (case bs_z76 => exact rfl); (case b1_z76 => exact rfl); (case b2_z76 => exact rfl))); (case c5_z76 => decide); (case kB_z76 => exact locs rfl); (case c2_z76 => exact rfl); (case c3_z76 => exact rfl); (case c4_z76 => exact rfl); k_whole)))
  intro L' h' F' N'
  dsimp only
  k_steps
  generalize hwh : number * 64 ^ (4 - size).toNat = wh at *
  rename Fr _ _ _ _ => F'
  rename News _ _ _ _ => N'
  have hl := isList_of (N' _ (.head _)).1
  have hby := bytes_ok hw0 hn1
  have f1 : Int.fdiv wh 65536 = wh / 65536 := Int.fdiv_eq_ediv_of_nonneg wh (by decide)
  have f2 : Int.fdiv wh 256 = wh / 256 := Int.fdiv_eq_ediv_of_nonneg wh (by decide)
  have f3 : Int.fmod (Int.fdiv wh 256) 256 = wh / 256 % 256 := by rw [f2]; exact Int.fmod_eq_emod_of_nonneg _ (by decide)
  have f4 : Int.fmod wh 256 = wh % 256 := Int.fmod_eq_emod_of_nonneg _ (by decide)
  refine KBa.make_K F' N' rfl (vs := [.int _ _, .int _ _, .int _ _]) hl (.cons _ _ (.cons _ _ (.cons _ _ .nil))) ?hr (Nat.le_of_ble_eq_true rfl) ?_
  case hr =>
    intro n hn
    simp only [List.mem_cons, List.not_mem_nil, or_false] at hn
    rcases hn with rfl | rfl | rfl
    · rw [f1]; exact hby.1
    · rw [f3]; exact hby.2.1
    · rw [f4]; exact hby.2.2
  intro h1 tb kb F1 N1 hin
  have hbi := KBa.ints_make hin
  rw [f1, f3, f4] at hbi
  rw [f1, f3, f4]
  clear F' N' hl
  dsimp only
  k_steps
  refine Calls.use (b64std (p := p) (loose := loose) (mean := mean) (mg := mg) (mb := mb) (dp + 1) (ut + 3) _ _ _ _ _ _ _ hbi _ (Frag.In.keeps X F1.keep) (T.keeps F1.keep) (by omega) (by omega)) F1 N1 ?_
  rintro v h2 tk2 F2 N2 st2 ⟨u, rfl⟩
  rw [b64raw_eq hby.1.1 hby.1.2 hby.2.1.1 hby.2.1.2 hby.2.2.1 hby.2.2.2]
  clear F1 N1 st2
  dsimp only
  k_steps
  refine slice_m (s := ⟨_, _, _, _, _⟩) F2 N2 IsPart.none (IsPart.int _ _) (Nat.le_of_ble_eq_true rfl) ?_
  intro h3 t3' k3 F3 N3
  dsimp only [Option.elim, List.drop]
  have ew : wh / 65536 * 65536 + wh / 256 % 256 * 256 + wh % 256 = wh := bytes_sum wh
  rw [ew]
  have ec : clipAt (List.toArray (four wh)).size size = size.toNat := by
    show clipAt 4 size = size.toNat
    rcases four_ways hs0 hs1 with rfl | rfl | rfl | rfl <;> decide
  have hgo : (wr64 size number) = List.take (clipAt (List.toArray (four wh)).size size - 0) (four wh) := by
    rw [ec, Nat.sub_zero]
    unfold wr64
    rw [hwh]
  refine hQ _ _ _ F3.keep ⟨t3', ?_⟩
  rw [hgo]
  rfl


end
section
local macro_rules | `(tactic| omega) => `(tactic| first | lia | omega +splitDisjunctions)
section
/-- the table of the letters' places -/
noncomputable def Places (w : World) (h : Heap) (pl : Addr) : Prop :=
  (pl == sysModules) = false ∧ ∃ kvs, h.DictOf (PySem.intKind P.row.prog w) pl kvs ∧ ∀ i : Nat, i < 64 → ∃ t, valueAt kvs (((alph.getD i 0).toNat : Nat) : Int) = some (.int i t)
theorem Places.stays {w : World} {h h' : Heap} {pl : Addr} (x : Places w h pl) (st : h.StaysIn h') : Places w h' pl :=
  let ⟨a, kvs, b, c⟩ := x; ⟨a, kvs, b.keep st, c⟩
section
variable {w : World} {A : Around} {E : Value → Shared → Prop} {s : Shared} {pl : Addr}
theorem places_method {px : Sem Bool} {Q : Value × List Value → Shared → Prop} (hp : Places w s.heap pl) (h : Q (.builtin "dict.get", [.ref pl]) s) : wpAny (model P.row.prog w) A (getMethod (.ref pl) "get" px) Q E s :=
  let ⟨_, _, hD, _⟩ := hp
  getMethod_builtin hD.typeIs PySem.F.plainAttrs_dict PySem.F.slot_dict_get PySem.F.type_dict_get hD.mapOf.noDict h
theorem places_get {Q : Value → Shared → Prop} {k d : Int} {t : Tok} {dflt : Value} (hp : Places w s.heap pl) (h0 : 0 ≤ d) (h1 : d < 64) (hk : k = ((letter d).toNat : Int))
    (h : ∀ t', Q (.int d t') { s with toks := s.toks + 1 }) : wpAny (model P.row.prog w) A (call (.builtin "dict.get") [.ref pl, .int k t, dflt]) Q E s := by
  obtain ⟨lo, kvs, hD, hv⟩ := hp
  obtain ⟨t', ht'⟩ := hv d.toNat (by omega)
  have e : (d.toNat : Int) = d := by omega
  rw [e] at ht'
  subst hk
  refine call_meetsIn PySem.F.slot_dict_get hD.typeIs PySem.F.entry_dict_get (PySem.F.args_dict_get_3 _ _ _) (meets_dict_get_default (PySem.intKind P.row.prog w) pl (intKind_is _ _ _ _) lo dflt) ⟨_, hD.mapOf, ?_⟩
  have hk' : valueAt kvs ((letter d).toNat : Int) = some (.int d t') := ht'
  rw [hk']
  exact h t'
end
/-- the first unlike digits' difference -/
noncomputable def gapF : List Int → List Int → Int
  | x :: xs, y :: ys => if x = y then gapF xs ys else x - y
  | _, _ => 0
theorem letter_fin : ∀ i j : Fin 64, alph.getD i.1 0 = alph.getD j.1 0 → i = j := by decide +kernel
theorem letter_inj {x y : Int} (x0 : 0 ≤ x) (x1 : x < 64) (y0 : 0 ≤ y) (y1 : y < 64) (h : letter x = letter y) : x = y := by
  have := letter_fin ⟨x.toNat, by omega⟩ ⟨y.toNat, by omega⟩ h
  have := congrArg Fin.val this
  dsimp only at this
  omega
theorem gap : ∀ {w : World} {p : Program} {loose : List Str} {mean : ExcName → Option Value} {mg mb : Str → Option Value} (dp ut : Nat) (fr : Option (List Env)) (gd : Option (List Code)) (s : Shared)
   (pl : Addr) (a b : List Int) (t1 t2 : Tok)
   (X : (heapK w.params).In s.heap) (T : Top p loose mean mg mb s.heap) (hpl : Places w s.heap pl)
   (ha : a.length ≤ 6) (hb : b.length ≤ 6) (ha1 : ∀ x ∈ a, 0 ≤ x ∧ x < 64) (hb1 : ∀ x ∈ b, 0 ≤ x ∧ x < 64)
   (hdp : dp + 30 < recursionLimit) (hu : ut + 100 < cLine),
   Calls w (Aro dp ut fr gd) s (.ref 123) [.ref pl, .bytes (a.map letter).toArray t1, .bytes (b.map letter).toArray t2] fun v h' => ∃ u, v = .int (gapF a b) u := by
  k_with_none
  k_with "assign Tuple" => ((k_here; (with_reducible show wpAny _ _ (assign (Expr.Tuple _ _ _) _ (Value.ref _)) _ _ _); k_dflt (refine' kun_list ?k1 ?k2 ?k3 ?k4 ?k5 ?k6 ?_; (case k1 => k_asm); (case k2 => k_asm); (case k3 => (first | (with_reducible assumption) | exact IsList.stays (by assumption) (Fr.keep (by assumption)) | exact News.isList (by k_asm) (by k_mem))); (case k4 => exact rfl); (case k5 => exact rfl); (case k6 => exact rfl); k_whole); intro h' F' N'; (try k_sweep)))
  k_with "call type:type" => (((with_reducible show wpAny _ _ (call (Value.type "type") [Value.bytes _ _]) _ _ _); refine call_type_of (typeIs_bytes _ _ _) (by decide +kernel) ?_))
  k_with "subscriptTail" => (((with_reducible show wpAny _ _ (subscriptTail _ (Expr.Slice _ _ none _) (Value.bytes _ _) (Value.ref _)) _ _ _); (with_reducible rename Fr _ _ _ _ => F'); (with_reducible rename News _ _ _ _ => N'); (refine slice_m (s := ⟨_, _, _, _, _⟩) F' N' (by constructor) (by constructor) (by first | decide | assumption | omega) ?_); intro h' _ _ F' N'; (try dsimp only [Option.elim])))
  k_with "getMethod ref" => (((with_reducible show wpAny _ _ (getMethod (Value.ref _) (Str.ofString "get") _) _ _ _); refine places_method (Places.stays (by assumption) (Fr.keep (by assumption))) ?_))
  unfold Calls
  w_top off
  k_fill
  intro w p loose mean mg mb dp ut fr gd s pl a b t1 t2 X T hpl ha hb ha1 hb1 hdp hu Q E hQ
  have hka : KBw.bInts (a.map letter).toArray = (a.map letter).map fun c => (c.toNat : Int) := rfl
  have hkb : KBw.bInts (b.map letter).toArray = (b.map letter).map fun c => (c.toNat : Int) := rfl
  have hla : (a.map letter).length = a.length := List.length_map ..
  have hlb : (b.map letter).length = b.length := List.length_map ..
  ((refine wpAny_call ?_; k_dflt (refine' enterD ?k1_z77 ?k2_z77 ?k6_z77 ?k7_z77 ?k8_z77 ?k9_z77 ?kB_z77 ?_ ?c2_z77 ?c3_z77 ?c4_z77 ?c5_z77; (case k1_z77 => k_asm); (case k2_z77 => k_asm); (case k6_z77 => k_is); (case k7_z77 => k_is); (case k8_z77 => first | omega | (dsimp only [Aro]; omega)); (case k9_z77 => first | exact BindsTo.of_eq rfl | (refine' binds_K ?bX_z77 ?bd_z77 ?bo_z77 ?bs_z77 ?b1_z77 ?b2_z77; (case bX_z77 => assumption); (case bd_z77 => exact rfl); (case bo_z77 => k_is); (case bs_z77 => exact rfl); (case b1_z77 => exact rfl); (case b2_z77 => exact rfl))); (case c5_z77 => decide); (case kB_z77 => exact locs rfl); (case c2_z77 => exact rfl); (case c3_z77 => exact rfl); (case c4_z77 => exact rfl); k_whole)))
  intro L' h' F' N'
  dsimp only
  refine execs_midQ 1 (fun s' => ∃ (m : Str → Option Value), gapF a b = 0 ∧ At s s.heap L' m [] s') ?_ ?_
  · dsimp only [List.take]
    refine wpAny_execs_cons ?_
    refine forRange (h₀ := s.heap) (L := L') (fun v s₁ => ∃ (r : Addr) (n : Nat) (t₀ u₀ v₀ : Tok) (h : Heap) (tk : Nat), v = .ref r ∧ s₁ = { s with heap := h, toks := tk } ∧ IsRange h r 0 (n : Nat) 1 t₀ u₀ v₀ ∧ n = min a.length b.length ∧ ∃ m : Str → Option Value, Fr s.heap L' h (kstB m [("places", .ref pl), ("one", .bytes (a.map letter).toArray t1), ("other", .bytes (b.map letter).toArray t2)])) ?_ ?_
    · k_steps
      rename IsRange _ _ _ _ _ _ _ _ => hR
      have e9 : (if (b.length : Int) < (a.length : Int) then (b.length : Int) else (a.length : Int)) = ((min a.length b.length : Nat) : Int) := by split <;> omega
      rw [e9] at hR
      exact ⟨_, min a.length b.length, _, _, _, _, _, rfl, rfl, hR, rfl, _, fr_kst (by assumption) (by (repeat (first | exact trivial | (refine And.intro ?_ ?_; (k_dflt rfl)))))⟩
    clear F' N'
    rintro v s₁ ⟨r, n, t₀, u₀, v₀, h, tk, rfl, rfl, hR, hn, m, F⟩
    refine ⟨r, n, t₀, u₀, v₀, _, [], rfl, hR, by omega, rfl, F, News.nil, fun i m₁ nx => nx = [] ∧ Reads m₁ [("places", .ref pl), ("one", .bytes (a.map letter).toArray t1), ("other", .bytes (b.map letter).toArray t2)] ∧ (gapF a b = gapF (a.drop i) (b.drop i)), ⟨rfl, by (repeat (first | exact trivial | (refine And.intro ?_ ?_; (k_dflt rfl)))), rfl⟩, ?_, ?_⟩
    · clear F hR
      rintro i t m₁ _ h1 tk1 I it hin ⟨rfl, hrd, hpre⟩ F1 N1 hne
      have F2 := fr_kst F1 hrd
      dsimp only [kstB] at F2
      clear F1
      have hia : i < a.length := by omega
      have hib : i < b.length := by omega
      have hxa : ((a.map letter).map fun c => (c.toNat : Int)).getD (i : Int).toNat 0 = ((letter a[i]).toNat : Int) := by simp [hia]
      have hxb : ((b.map letter).map fun c => (c.toNat : Int)).getD (i : Int).toNat 0 = ((letter b[i]).toNat : Int) := by simp [hib]
      have h2a := ha1 a[i] (List.getElem_mem hia)
      have h2b := hb1 b[i] (List.getElem_mem hib)
      have hda : a.drop i = a[i] :: a.drop (i + 1) := List.drop_eq_getElem_cons hia
      have hdb : b.drop i = b[i] :: b.drop (i + 1) := List.drop_eq_getElem_cons hib
      k_steps
      · rename ¬ (_ = _) => hne2
        have hne3 : a[i] ≠ b[i] := fun e => hne2 (by rw [hxa, hxb, e])
        rename Fr _ _ _ _ => F9
        refine places_get (hpl.stays F9.keep) h2a.1 h2a.2 hxa ?_
        intro t5
        k_steps
        refine places_get (hpl.stays F9.keep) h2b.1 h2b.2 hxb ?_
        intro t6
        k_steps
        have hg : gapF a b = a[i] - b[i] := by rw [hpre, hda, hdb, gapF, if_neg hne3]
        rw [hg] at hQ
        exact hQ _ _ _ F9.keep ⟨_, rfl⟩
      · rename Fr _ _ _ _ => F9
        rename News _ _ _ _ => N9
        have heq : a[i] = b[i] := by
          refine letter_inj h2a.1 h2a.2 h2b.1 h2b.2 ?_
          rename (List.getD _ _ _ = List.getD _ _ _) => he9
          rw [hxa, hxb] at he9
          exact UInt8.toNat_inj.mp (Int.ofNat_inj.mp he9)
        refine ⟨_, _, _, [], rfl, (N9 _ (.head _)).1, F9, News.nil, fun _ h => (nomatch h), rfl, ?_, ?_⟩
        · (repeat (first | exact trivial | (refine And.intro ?_ ?_; (k_dflt rfl))))
        · rw [hpre, hda, hdb, gapF, if_pos heq]
    · rintro m₁ _ h1 tk1 ⟨rfl, hrd, hpre⟩ F1 N1
      refine wpAny_execs_nil ⟨m₁, ?_, h1, tk1, rfl, F1, N1⟩
      rw [hpre]
      by_cases hab : a.length ≤ b.length
      · have : a.drop n = [] := List.drop_of_length_le (by omega)
        rw [this]; rfl
      · have : b.drop n = [] := List.drop_of_length_le (by omega)
        rw [this]
        cases a.drop n <;> rfl
  clear F' N'
  rintro s' ⟨m, hg, h, tk, rfl, F, N⟩
  dsimp only [List.drop]
  k_steps
  rename Fr _ _ _ _ => F9
  rw [hg] at hQ
  exact hQ _ _ _ F9.keep ⟨_, rfl⟩


end
section
section
variable {h : Heap} {tabs : List (Addr × Obj)} {K : Frag} {p : Program} {loose : List Str} {mean : ExcName → Option Value} {mg mb : Str → Option Value} {w : World}
/-- the hidden objects are records -/
noncomputable def Recs (h : Heap) (tabs : List (Addr × Obj)) : Prop := ∀ q ∈ tabs, h.get? q.1 = some q.2 ∧ ∃ vs, q.2.data = .fields vs
theorem Recs.get {b : Addr} {o : Obj} (hT : Recs h tabs) (e : h.get? b = some o) (hn : ∀ vs, o.data ≠ .fields vs) : (hideAll h (tabs.map (·.1))).get? b = some o :=
  hideAll_get _ e fun q => by
    obtain ⟨r, hr, e2⟩ := List.mem_map.mp q
    obtain ⟨e3, vs, hd⟩ := hT r hr
    rw [e2, e] at e3
    cases e3
    exact hn _ hd
theorem Recs.ns {a : Addr} {mm : Str → Option Value} (hT : Recs h tabs) (x : h.Ns a mm) : (hideAll h (tabs.map (·.1))).Ns a mm :=
  let ⟨o, es, ep, e, hd, r⟩ := x; ⟨o, es, ep, hT.get e (fun vs q => by rw [hd] at q; cases q), hd, r⟩
theorem Recs.list {a : Addr} {its : Array Value} (hT : Recs h tabs) (x : h.IsList a its) : (hideAll h (tabs.map (·.1))).IsList a its := by
  obtain ⟨o, e, hc, n, hd⟩ := x
  exact ⟨o, hT.get e (fun vs q => by rw [hd] at q; cases q), hc, n, hd⟩
theorem Recs.places {pl : Addr} (hT : Recs h tabs) (x : Places w h pl) : Places w (hideAll h (tabs.map (·.1))) pl := by
  obtain ⟨a, kvs, ⟨o, es, ep, ho, hx, hd, r⟩, c⟩ := x
  exact ⟨a, kvs, ⟨o, es, ep, hT.get ho (fun vs q => by rw [hd] at q; cases q), hx, hd, r⟩, c⟩
theorem Recs.top (hT : Recs h tabs) (T : Top p loose mean mg mb h) :
    Top topProg (loose ++ (recsOf p).map (·.name) ++ (litsOf p).map (·.1) ++ (clssOf p loose).map (·.name)) mean mg mb (hideAll h (tabs.map (·.1))) where
  g := hT.ns T.g
  b := hT.ns T.b
  nolimit := by obtain ⟨mc, a, r⟩ := T.nolimit; exact ⟨mc, hT.ns a, r⟩
  nodigits := by obtain ⟨mc, a, r⟩ := T.nodigits; exact ⟨mc, hT.ns a, r⟩
  fn := fun d hd => absurd (show d ∈ ([] : List DefRec) from hd) List.not_mem_nil
  own := fun o ho => absurd (show o ∈ ([] : List OwnSpec) from ho) List.not_mem_nil
  const := fun x d e => by cases (show (none : Option PyData) = some d from e)
  free := fun x h1 h2 _ _ _ => T.free x h1 (fun q => h2 (List.mem_append_left _ (List.mem_append_left _ (List.mem_append_left _ q))))
    (fun q => h2 (List.mem_append_left _ (List.mem_append_left _ (List.mem_append_right _ q)))) (fun q => h2 (List.mem_append_left _ (List.mem_append_right _ q))) fun q => h2 (List.mem_append_right _ q)
  builtins := T.builtins
  tab := fun d hd => absurd (show d ∈ ([] : List DefRec) from hd) List.not_mem_nil
  bmain := let ⟨bm, ob, a1, a2, a3, a4, a5, a6⟩ := T.bmain; ⟨bm, ob, a1, a2, hT.get a3 (fun vs q => by rw [a6] at q; cases q), a4, a5, a6⟩
  seer := fun e => absurd (show false = true from e) Bool.false_ne_true
/-- the written part's keys are low -/
theorem lowK {K : Frag} {a n : Nat} {o : Obj} (e : K.lookup a = some o) (hk : (K.all fun p => Nat.ble p.1 n) = true) : a ≤ n :=
  Nat.le_of_ble_eq_true (List.all_eq_true.mp hk (a, o) (mem_of_lookupK e))
theorem lowHd {a : Addr} {o : Obj} (e : (heapK w.params).lookup a = some o) : a ≤ 128 := lowK e (by kernel_rfl)
theorem inHid (X : (heapK w.params).In h) (hk : ∀ q ∈ tabs, (heapK w.params).lookup q.1 = none) : (heapK w.params).In (hideAll h (tabs.map (·.1))) := fun a o e =>
  hideAll_get _ (X a o e) fun q => by
    obtain ⟨r, hr, e2⟩ := List.mem_map.mp q
    have := hk r hr
    rw [e2, e] at this; cases this
theorem highK {a : Addr} (hlt : 128 < a) : (heapK w.params).lookup a = none := by
  cases e : (heapK w.params).lookup a with
  | none => rfl
  | some o => exact absurd (lowHd e) (Nat.not_le.mpr hlt)
theorem noK111 : (heapK w.params).lookup 111 = none := by kernel_rfl
theorem noK23 : (heapK w.params).lookup 23 = none := by kernel_rfl
theorem noK125 : (heapK w.params).lookup 125 = none := by kernel_rfl
theorem head111 (X : (heapK w.params).In h) : CodeHd h 115 111 := codeHd_of_K X (by kernel_rfl)
end


end
section
theorem toldStep : ∀ {w : World} {p : Program} {loose : List Str} {mean : ExcName → Option Value} {mg mb : Str → Option Value} (dp ut : Nat) (fr : Option (List Env)) (gd : Option (List Code)) (s : Shared)
   (f c' cB cP pl : Addr) (pm ctv : Value) (oB oP : Obj) (base told d k : Int) (tb t1 t2 : Tok)
   (X : (heapK w.params).In s.heap) (T : Top p loose mean mg mb s.heap) (ho : s.heap.get? f = some (kla_obj "<lambda>" "_law_read.<locals>.<lambda>" lamA.1 lamA.2.1 lamA.2.2.1 [("places", cP), ("base", cB)] pm c' ctv)) (hcd : s.heap.CodeRec (.ref c') "_law_read.<locals>.<lambda>")
   (hB : s.heap.get? cB = some oB) (hB' : oB.data = .cell (some (.int base tb))) (hP : s.heap.get? cP = some oP) (hP' : oP.data = .cell (some (.ref pl))) (hpl : Places w s.heap pl)
   (h0 : 0 ≤ told) (h1 : told < 2 ^ 30) (hb0 : 0 ≤ base) (hb1 : base ≤ 64) (hd0 : 0 ≤ d) (hd1 : d < 64) (hk : k = ((letter d).toNat : Int))
   (hdp : dp + 30 < recursionLimit) (hu : ut + 100 < cLine),
   Calls w (Aro dp ut fr gd) s (.ref f) [.int told t1, .int k t2] fun v h' => ∃ u, v = .int (told * base + d) u := by
  k_with_none
  k_with "assign Tuple" => ((k_here; (with_reducible show wpAny _ _ (assign (Expr.Tuple _ _ _) _ (Value.ref _)) _ _ _); k_dflt (refine' kun_list ?k1 ?k2 ?k3 ?k4 ?k5 ?k6 ?_; (case k1 => k_asm); (case k2 => k_asm); (case k3 => (first | (with_reducible assumption) | exact IsList.stays (by assumption) (Fr.keep (by assumption)) | exact News.isList (by k_asm) (by k_mem))); (case k4 => exact rfl); (case k5 => exact rfl); (case k6 => exact rfl); k_whole); intro h' F' N'; (try k_sweep)))
  k_with "call type:type" => (((with_reducible show wpAny _ _ (call (Value.type "type") [Value.bytes _ _]) _ _ _); refine call_type_of (typeIs_bytes _ _ _) (by decide +kernel) ?_))
  k_with "subscriptTail" => (((with_reducible show wpAny _ _ (subscriptTail _ (Expr.Slice _ _ none _) (Value.bytes _ _) (Value.ref _)) _ _ _); (with_reducible rename Fr _ _ _ _ => F'); (with_reducible rename News _ _ _ _ => N'); (refine slice_m (s := ⟨_, _, _, _, _⟩) F' N' (by constructor) (by constructor) (by first | decide | assumption | omega) ?_); intro h' _ _ F' N'; (try dsimp only [Option.elim])))
  k_with "getMethod ref" => (((with_reducible show wpAny _ _ (getMethod (Value.ref _) (Str.ofString "get") _) _ _ _); refine places_method (Places.stays (by assumption) (Fr.keep (by assumption))) ?_))
  k_with "eval Name" => ((k_dflt (refine' nameX_H ?F ?c ?v ?d ?_; (case F => assumption); (case c => exact rfl); (case v => assumption); (case d => assumption); k_whole)))
  unfold Calls
  w_top off
  k_fill
  intro w p loose mean mg mb dp ut fr gd s f c' cB cP pl pm ctv oB oP base told d k tb t1 t2 X T ho hcd hB hB' hP hP' hpl h0 h1 hb0 hb1 hd0 hd1 hk hdp hu Q E hQ
  have e1 : lamA = (_, _, _, _) := rfl
  rw [e1] at ho
  clear e1
  dsimp only at ho
  refine wpAny_call (enterL T ho hcd (by dsimp only [Aro]; omega) rfl (locs rfl) ?_ rfl rfl rfl (by decide))
  intro L' h' F' N'
  dsimp only
  k_steps
  rename Fr _ _ _ _ => F9
  refine places_get (hpl.stays F9.keep) hd0 hd1 hk ?_
  intro t5
  k_steps
  exact hQ _ _ _ F9.keep ⟨_, rfl⟩
theorem nextStep : ∀ {w : World} {p : Program} {loose : List Str} {mean : ExcName → Option Value} {mg mb : Str → Option Value} (dp ut : Nat) (fr : Option (List Env)) (gd : Option (List Code)) (s : Shared)
   (f c' cE cV le ls lt : Addr) (pm ctv tv : Value) (oE oV : Obj) (vs vt : List Value) (es ts : List Int) (value low width : Int) (t1 t2 t3 : Tok)
   (X : (heapK w.params).In s.heap) (T : Top p loose mean mg mb s.heap) (ho : s.heap.get? f = some (kla_obj "<lambda>" "_law_read.<locals>.<lambda>" lamB.1 lamB.2.1 lamB.2.2.1 [("value", cV), ("ends", cE)] pm c' ctv)) (hcd : s.heap.CodeRec (.ref c') "_law_read.<locals>.<lambda>")
   (hB : s.heap.get? cE = some oE) (hB' : oE.data = .cell (some (.ref le))) (hP : s.heap.get? cV = some oV) (hP' : oV.data = .cell (some (.int value t1)))
   (hl : s.heap.IsList le vs.toArray) (hi : IntsAre vs es) (h5 : es.length = 5) (he : ∀ x ∈ es, 0 ≤ x ∧ x ≤ 16)
   (hls : s.heap.IsList ls #[.int low t2, .int width t3, .ref lt]) (hlt : s.heap.IsList lt vt.toArray) (hit : IntsAre vt ts) (htl : ts.length < 5)
   (hv0 : 0 ≤ value) (hv1 : value < 2 ^ 30) (hw0 : 0 ≤ width) (hw1 : width < 2 ^ 30) (hl0 : 0 ≤ low) (hl1 : low < 2 ^ 30)
   (hdp : dp + 90 < recursionLimit) (hu : ut + 300 < cLine),
   Calls w (Aro dp ut fr gd) s (.ref f) [.ref ls, tv] fun v h' => ∃ r rt u1 u2 c vt', v = .ref r ∧ s.heap.get? r = none ∧ 
     h'.get? r = some (listOf #[.int (16 * low + width * es.getD (pickF es value low width (16 ^ (4 - ts.length)) 3 0).toNat 0) u1, .int (width * (es.getD (pickF es value low width (16 ^ (4 - ts.length)) 3 0 + 1).toNat 0 - es.getD (pickF es value low width (16 ^ (4 - ts.length)) 3 0).toNat 0)) u2, .ref rt] 0) ∧
     s.heap.get? rt = none ∧ h'.get? rt = some (listOf (List.toArray vt') c) ∧ IntsAre vt' (ts ++ [pickF es value low width (16 ^ (4 - ts.length)) 3 0]) := by
  k_with_none
  k_with "assign Tuple" => ((k_here; (with_reducible show wpAny _ _ (assign (Expr.Tuple _ _ _) _ (Value.ref _)) _ _ _); k_dflt (refine' kun_list ?k1 ?k2 ?k3 ?k4 ?k5 ?k6 ?_; (case k1 => k_asm); (case k2 => k_asm); (case k3 => (first | (with_reducible assumption) | exact IsList.stays (by assumption) (Fr.keep (by assumption)) | exact News.isList (by k_asm) (by k_mem))); (case k4 => exact rfl); (case k5 => exact rfl); (case k6 => exact rfl); k_whole); intro h' F' N'; (try k_sweep)))
  k_with "call type:type" => (((with_reducible show wpAny _ _ (call (Value.type "type") [Value.bytes _ _]) _ _ _); refine call_type_of (typeIs_bytes _ _ _) (by decide +kernel) ?_))
  k_with "subscriptTail" => (((with_reducible show wpAny _ _ (subscriptTail _ (Expr.Slice _ _ none _) (Value.bytes _ _) (Value.ref _)) _ _ _); (with_reducible rename Fr _ _ _ _ => F'); (with_reducible rename News _ _ _ _ => N'); (refine slice_m (s := ⟨_, _, _, _, _⟩) F' N' (by constructor) (by constructor) (by first | decide | assumption | omega) ?_); intro h' _ _ F' N'; (try dsimp only [Option.elim])))
  k_with "getMethod ref" => (((with_reducible show wpAny _ _ (getMethod (Value.ref _) (Str.ofString "get") _) _ _ _); refine places_method (Places.stays (by assumption) (Fr.keep (by assumption))) ?_))
  k_with "eval Name" => ((k_dflt (refine' nameX_H ?F ?c ?v ?d ?_; (case F => assumption); (case c => exact rfl); (case v => assumption); (case d => assumption); k_whole)))
  unfold Calls
  w_top off
  k_fill
  intro w p loose mean mg mb dp ut fr gd s f c' cE cV le ls lt pm ctv tv oE oV vs vt es ts value low width t1 t2 t3 X T ho hcd hB hB' hP hP' hl hi h5 he hls hlt hit htl hv0 hv1 hw0 hw1 hl0 hl1 hdp hu Q E hQ
  have e1 : lamB = (_, _, _, _) := rfl
  rw [e1] at ho
  clear e1
  dsimp only at ho
  refine wpAny_call (enterL T ho hcd (by dsimp only [Aro]; omega) rfl (locs rfl) ?_ rfl rfl rfl (by decide))
  intro L' h' F' N'
  dsimp only
  k_steps
  rename Fr _ _ _ _ => F9
  rename News _ _ _ _ => N9
  refine Calls.use (next (p := p) (loose := loose) (mean := mean) (mg := mg) (mb := mb) _ _ _ _ _ le ls lt vs vt es ts value low width _ _ _ (Frag.In.keeps X F9.keep) (T.keeps F9.keep) (IsList.stays hl F9.keep) hi h5 he (IsList.stays hls F9.keep) (IsList.stays hlt F9.keep) hit htl hv0 hv1 hw0 hw1 hl0 hl1 (by show dp + 1 + 60 < _; omega) (by show ut + 3 + 200 < _; omega)) F9 N9 ?_
  rintro v h1 tk1 F1 N1 st ⟨r, rt, u1, u2, c, vt', rfl, hr, ho1, hrt, ho2, hI⟩
  have hn : ∀ b, Heap.get? _ b = none → s.heap.get? b = none := fun b q => by
    cases e : s.heap.get? b with
    | none => rfl
    | some o => rw [F9.keep _ _ e] at q; cases q
  exact hQ _ _ _ F1.keep ⟨r, rt, u1, u2, c, vt', rfl, hn _ hr, ho1, hn _ hrt, ho2, hI⟩
theorem narrowStep : ∀ {w : World} {p : Program} {loose : List Str} {mean : ExcName → Option Value} {mg mb : Str → Option Value} (dp ut : Nat) (fr : Option (List Env)) (gd : Option (List Code)) (s : Shared)
   (f c' cE le ls : Addr) (pm ctv : Value) (oE : Obj) (vs : List Value) (es : List Int) (low width sign : Int) (t2 t3 t4 : Tok)
   (X : (heapK w.params).In s.heap) (T : Top p loose mean mg mb s.heap) (ho : s.heap.get? f = some (kla_obj "<lambda>" "law.<locals>.<lambda>" lamD.1 lamD.2.1 lamD.2.2.1 [("ends", cE)] pm c' ctv)) (hcd : s.heap.CodeRec (.ref c') "law.<locals>.<lambda>")
   (hB : s.heap.get? cE = some oE) (hB' : oE.data = .cell (some (.ref le)))
   (hl : s.heap.IsList le vs.toArray) (hi : IntsAre vs es) (h5 : es.length = 5)
   (hls : s.heap.IsList ls #[.int low t2, .int width t3]) (hs0 : 0 ≤ sign) (hs1 : sign < 4)
   (hw0 : 0 ≤ width) (hw1 : width < 2 ^ 30) (hl0 : 0 ≤ low) (hl1 : low < 2 ^ 30)
   (hdp : dp + 60 < recursionLimit) (hu : ut + 200 < cLine),
   Calls w (Aro dp ut fr gd) s (.ref f) [.ref ls, .int sign t4] fun v h' => ∃ r u1 u2, v = .ref r ∧ s.heap.get? r = none ∧
     h'.get? r = some (listOf #[.int (16 * low + width * es.getD sign.toNat 0) u1, .int (width * (es.getD (sign + 1).toNat 0 - es.getD sign.toNat 0)) u2] 0) := by
  k_with_none
  k_with "assign Tuple" => ((k_here; (with_reducible show wpAny _ _ (assign (Expr.Tuple _ _ _) _ (Value.ref _)) _ _ _); k_dflt (refine' kun_list ?k1 ?k2 ?k3 ?k4 ?k5 ?k6 ?_; (case k1 => k_asm); (case k2 => k_asm); (case k3 => (first | (with_reducible assumption) | exact IsList.stays (by assumption) (Fr.keep (by assumption)) | exact News.isList (by k_asm) (by k_mem))); (case k4 => exact rfl); (case k5 => exact rfl); (case k6 => exact rfl); k_whole); intro h' F' N'; (try k_sweep)))
  k_with "call type:type" => (((with_reducible show wpAny _ _ (call (Value.type "type") [Value.bytes _ _]) _ _ _); refine call_type_of (typeIs_bytes _ _ _) (by decide +kernel) ?_))
  k_with "subscriptTail" => (((with_reducible show wpAny _ _ (subscriptTail _ (Expr.Slice _ _ none _) (Value.bytes _ _) (Value.ref _)) _ _ _); (with_reducible rename Fr _ _ _ _ => F'); (with_reducible rename News _ _ _ _ => N'); (refine slice_m (s := ⟨_, _, _, _, _⟩) F' N' (by constructor) (by constructor) (by first | decide | assumption | omega) ?_); intro h' _ _ F' N'; (try dsimp only [Option.elim])))
  k_with "getMethod ref" => (((with_reducible show wpAny _ _ (getMethod (Value.ref _) (Str.ofString "get") _) _ _ _); refine places_method (Places.stays (by assumption) (Fr.keep (by assumption))) ?_))
  k_with "eval Name" => ((k_dflt (refine' nameX_H ?F ?c ?v ?d ?_; (case F => assumption); (case c => exact rfl); (case v => assumption); (case d => assumption); k_whole)))
  unfold Calls
  w_top off
  k_fill
  intro w p loose mean mg mb dp ut fr gd s f c' cE le ls pm ctv oE vs es low width sign t2 t3 t4 X T ho hcd hB hB' hl hi h5 hls hs0 hs1 hw0 hw1 hl0 hl1 hdp hu Q E hQ
  have e1 : lamD = (_, _, _, _) := rfl
  rw [e1] at ho
  clear e1
  dsimp only at ho
  refine wpAny_call (enterL T ho hcd (by dsimp only [Aro]; omega) rfl (locs rfl) ?_ rfl rfl rfl (by decide))
  intro L' h' F' N'
  dsimp only
  k_steps
  rename Fr _ _ _ _ => F9
  rename News _ _ _ _ => N9
  refine Calls.use (narrowed (p := p) (loose := loose) (mean := mean) (mg := mg) (mb := mb) _ _ le vs es low width sign _ _ _ (Frag.In.keeps X F9.keep) (T.keeps F9.keep) (IsList.stays hl F9.keep) hi h5 hs0 hs1 hw0 hw1 hl0 hl1 (by show dp + 1 + 30 < _; omega) (by show ut + 3 + 100 < _; omega)) F9 N9 ?_
  rintro v h1 tk1 F1 N1 st ⟨r, u1, u2, rfl, hr, ho1⟩
  have hn : ∀ b, Heap.get? _ b = none → s.heap.get? b = none := fun b q => by
    cases e : s.heap.get? b with
    | none => rfl
    | some o => rw [F9.keep _ _ e] at q; cases q
  exact hQ _ _ _ F1.keep ⟨r, u1, u2, rfl, hn _ hr, ho1⟩
theorem gapStep : ∀ {w : World} {p : Program} {loose : List Str} {mean : ExcName → Option Value} {mg mb : Str → Option Value} (dp ut : Nat) (fr : Option (List Env)) (gd : Option (List Code)) (s : Shared) (R : Result → Shared → Prop)
   (f c' cP pl lx ly : Addr) (pm ctv : Value) (oP : Obj) (a b : List Int) (v1 v2 : Value) (t1 t2 : Tok)
   (X : (heapK w.params).In s.heap) (T : Top p loose mean mg mb s.heap) (ho : s.heap.get? f = some (kla_obj "<lambda>" "law.<locals>.<lambda>" lamC.1 lamC.2.1 lamC.2.2.1 [("places", cP)] pm c' ctv)) (hcd : s.heap.CodeRec (.ref c') "law.<locals>.<lambda>")
   (hB : s.heap.get? cP = some oP) (hB' : oP.data = .cell (some (.ref pl))) (hpl : Places w s.heap pl)
   (hx : s.heap.IsList lx #[.bytes (a.map letter).toArray t1, v1]) (hy : s.heap.IsList ly #[.bytes (b.map letter).toArray t2, v2])
   (ha : a.length ≤ 6) (hb : b.length ≤ 6) (ha1 : ∀ x ∈ a, 0 ≤ x ∧ x < 64) (hb1 : ∀ x ∈ b, 0 ≤ x ∧ x < 64)
   (hdp : dp + 60 < recursionLimit) (hu : ut + 200 < cLine)
   (hQ : ∀ h' tk' u, s.heap.StaysIn h' → R (.ok (.ret (.int (gapF a b) u))) { s with heap := h', toks := tk' }),
   codeAny (model P.row.prog w) (Aro dp ut fr gd) (.call (.ref f) ⟨[.ref lx, .ref ly], []⟩) R s := by
  k_with_none
  k_with "assign Tuple" => ((k_here; (with_reducible show wpAny _ _ (assign (Expr.Tuple _ _ _) _ (Value.ref _)) _ _ _); k_dflt (refine' kun_list ?k1 ?k2 ?k3 ?k4 ?k5 ?k6 ?_; (case k1 => k_asm); (case k2 => k_asm); (case k3 => (first | (with_reducible assumption) | exact IsList.stays (by assumption) (Fr.keep (by assumption)) | exact News.isList (by k_asm) (by k_mem))); (case k4 => exact rfl); (case k5 => exact rfl); (case k6 => exact rfl); k_whole); intro h' F' N'; (try k_sweep)))
  k_with "call type:type" => (((with_reducible show wpAny _ _ (call (Value.type "type") [Value.bytes _ _]) _ _ _); refine call_type_of (typeIs_bytes _ _ _) (by decide +kernel) ?_))
  k_with "subscriptTail" => (((with_reducible show wpAny _ _ (subscriptTail _ (Expr.Slice _ _ none _) (Value.bytes _ _) (Value.ref _)) _ _ _); (with_reducible rename Fr _ _ _ _ => F'); (with_reducible rename News _ _ _ _ => N'); (refine slice_m (s := ⟨_, _, _, _, _⟩) F' N' (by constructor) (by constructor) (by first | decide | assumption | omega) ?_); intro h' _ _ F' N'; (try dsimp only [Option.elim])))
  k_with "getMethod ref" => (((with_reducible show wpAny _ _ (getMethod (Value.ref _) (Str.ofString "get") _) _ _ _); refine places_method (Places.stays (by assumption) (Fr.keep (by assumption))) ?_))
  k_with "eval Name" => ((k_dflt (refine' nameX_H ?F ?c ?v ?d ?_; (case F => assumption); (case c => exact rfl); (case v => assumption); (case d => assumption); k_whole)))
  w_top off
  k_fill
  intro w p loose mean mg mb dp ut fr gd s R f c' cP pl lx ly pm ctv oP a b v1 v2 t1 t2 X T ho hcd hB hB' hpl hx hy ha hb ha1 hb1 hdp hu hQ
  have e1 : lamC = (_, _, _, _) := rfl
  rw [e1] at ho
  clear e1
  dsimp only at ho
  refine enterL T ho hcd (by dsimp only [Aro]; omega) rfl (locs rfl) ?_ rfl rfl rfl (by decide)
  intro L' h' F' N'
  dsimp only
  k_steps
  rename Fr _ _ _ _ => F9
  rename News _ _ _ _ => N9
  refine Calls.use (gap (p := p) (loose := loose) (mean := mean) (mg := mg) (mb := mb) _ _ _ _ _ pl a b _ _ (Frag.In.keeps X F9.keep) (T.keeps F9.keep) (hpl.stays F9.keep) ha hb ha1 hb1 (by show dp + 1 + 30 < _; omega) (by show ut + 3 + 100 < _; omega)) F9 N9 ?_
  rintro v h1 tk1 F1 N1 st ⟨u, rfl⟩
  exact hQ _ _ _ F1.keep


end
section
/-- a call that keeps all but one object -/
noncomputable def CallsBut (b₀ : Addr) (w : World) (A : Around) (s : Shared) (f : Value) (args : List Value) (Post : Value → Heap → Prop) : Prop :=
  ∀ (Q E : Value → Shared → Prop), (∀ v h' tk', (∀ b o, b ≠ b₀ → s.heap.get? b = some o → h'.get? b = some o) → Post v h' → Q v { s with heap := h', toks := tk' }) → wpAny (model P.row.prog w) A (call f args) Q E s
theorem news_new {h₀ h : Heap} {L a b : Addr} {o o' : Obj} {news : List (Addr × Obj)} (N : News h₀ L h news) (hm : (a, o) ∈ news) (e : h₀.get? b = some o') : a ≠ b := fun q => by
  have := (N _ hm).2.2
  rw [show (a, o).1 = b from q, e] at this; cases this
theorem CodeRec.stays {h h' : Heap} {v : Value} {q : Str} (x : h.CodeRec v q) (st : h.StaysIn h') : h'.CodeRec v q := by obtain ⟨c, o, vs, t, a, b, r⟩ := x; exact ⟨c, o, vs, t, a, st _ _ b, r⟩
theorem Calls.mono {w : World} {A : Around} {s : Shared} {f : Value} {args : List Value} {Post Post' : Value → Heap → Prop} (c : Calls w A s f args Post) (k : ∀ v h', s.heap.StaysIn h' → Post v h' → Post' v h') : Calls w A s f args Post' :=
  fun Q E h => c Q E fun v h' tk st hp => h v h' tk st (k v h' st hp)
/-- a code object of a name -/
noncomputable def CodeOf (o : Obj) (q : Str) : Prop := ∃ vs t, o.data = .fields vs ∧ vs[1]? = some (.str q t)
/-- the table of _law_read: empty or full -/
noncomputable def TabR (h : Heap) (tabs : List (Addr × Obj)) : Prop := (∀ q ∈ tabs, h.get? q.1 = some q.2) ∧
  (tabs = [(111, tabObj #[])] ∨ ∃ c1 c2 o1 o2, tabs = [(111, tabObj #[rawInt 121, rawInt 19, .ref c1, rawInt 122, rawInt 18, .ref c2]), (c1, o1), (c2, o2)] ∧ 128 < c1 ∧ 128 < c2 ∧ c1 ≠ c2 ∧ CodeOf o1 "_law_read.<locals>.<lambda>" ∧ CodeOf o2 "_law_read.<locals>.<lambda>")
theorem TabR.of {h₀ h : Heap} {L : Addr} {news : List (Addr × Obj)} {ps : Array Value} {c1 c2 : Addr} {o1 o2 : Obj} (N : News h₀ L h news) (m0 : (111, tabObj ps) ∈ news) (e : ps = #[rawInt 121, rawInt 19, .ref c1, rawInt 122, rawInt 18, .ref c2]) (m1 : (c1, o1) ∈ news) (m2 : (c2, o2) ∈ news)
    (h1 : 128 < c1) (h2 : 128 < c2) (h12 : c1 ≠ c2) (k1 : CodeOf o1 "_law_read.<locals>.<lambda>") (k2 : CodeOf o2 "_law_read.<locals>.<lambda>") : TabR h [(111, tabObj #[rawInt 121, rawInt 19, .ref c1, rawInt 122, rawInt 18, .ref c2]), (c1, o1), (c2, o2)] := by
  subst e
  refine ⟨fun q hq => ?_, .inr ⟨c1, c2, o1, o2, rfl, h1, h2, h12, k1, k2⟩⟩
  rcases List.mem_cons.mp hq with rfl | hq
  · exact (N _ m0).1
  · rcases List.mem_cons.mp hq with rfl | hq
    · exact (N _ m1).1
    · rcases List.mem_singleton.mp hq with rfl
      exact (N _ m2).1
theorem lawRead : ∀ {w : World} {p : Program} {loose : List Str} {mean : ExcName → Option Value} {mg mb : Str → Option Value} (dp ut : Nat) (fr : Option (List Env)) (gd : Option (List Code)) (s : Shared)
   (pl le : Addr) (vs : List Value) (es dg : List Int) (base : Int) (tb tw : Tok) (tabs : List (Addr × Obj))
   (X : (heapK w.params).In s.heap) (T : Top p loose mean mg mb s.heap) (htab : TabR s.heap tabs) (hpl : Places w s.heap pl)
   (hl : s.heap.IsList le vs.toArray) (hi : IntsAre vs es) (he : EndsOk es)
   (hbase : (base = 16 ∧ dg.length = 6) ∨ (base = 64 ∧ dg.length = 4)) (hdg : ∀ x ∈ dg, 0 ≤ x ∧ x < base)
   (hdp : dp + 150 < recursionLimit) (hu : ut + 500 < cLine),
   CallsBut 111 w (Aro dp ut fr gd) s (.ref 116) [.ref pl, .ref le, .int base tb, .bytes (dg.map letter).toArray tw] fun v h' => ∃ r c vt tabs', v = .ref r ∧ s.heap.get? r = none ∧ 
     h'.get? r = some (listOf (List.toArray vt) c) ∧ IntsAre vt (readF es (valF base dg)) ∧ TabR h' tabs' ∧ ∀ q ∈ tabs', q.1 = 111 ∨ q ∈ tabs ∨ s.heap.objs.size ≤ q.1 := by
  k_with_none
  k_with "assign Tuple" => ((k_here; (with_reducible show wpAny _ _ (assign (Expr.Tuple _ _ _) _ (Value.ref _)) _ _ _); k_dflt (refine' kun_list ?k1 ?k2 ?k3 ?k4 ?k5 ?k6 ?_; (case k1 => k_asm); (case k2 => k_asm); (case k3 => (first | (with_reducible assumption) | exact IsList.stays (by assumption) (Fr.keep (by assumption)) | exact News.isList (by k_asm) (by k_mem))); (case k4 => exact rfl); (case k5 => exact rfl); (case k6 => exact rfl); k_whole); intro h' F' N'; (try k_sweep)))
  k_with "call type:type" => (((with_reducible show wpAny _ _ (call (Value.type "type") [Value.bytes _ _]) _ _ _); refine call_type_of (typeIs_bytes _ _ _) (by decide +kernel) ?_))
  k_with "subscriptTail" => (((with_reducible show wpAny _ _ (subscriptTail _ (Expr.Slice _ _ none _) (Value.bytes _ _) (Value.ref _)) _ _ _); (with_reducible rename Fr _ _ _ _ => F'); (with_reducible rename News _ _ _ _ => N'); (refine slice_m (s := ⟨_, _, _, _, _⟩) F' N' (by constructor) (by constructor) (by first | decide | assumption | omega) ?_); intro h' _ _ F' N'; (try dsimp only [Option.elim])))
  k_with "call type:list" => (((with_reducible show wpAny _ _ (call (Value.type "list") [Value.bytes _ _]) _ _ _); (refine listB rfl (by k_asm) (by k_asm) ?hz ?_; (case hz => first | assumption | decide)); intro D' us' c' h' tk' F' N' l1 hul' hub'; (try k_lt l1)))
  unfold CallsBut
  w_top off
  k_fill
  intro w p loose mean mg mb dp ut fr gd s pl le vs es dg base tb tw tabs X T htab hpl hl hi he hbase hdg hdp hu Q E hQ
  have hT := htab.1
  have hsz : (dg.map letter).toArray.size ≤ sizeLine := by
    rw [List.size_toArray, List.length_map]
    have : (6 : Nat) ≤ sizeLine := by decide
    omega
  have hR : Recs s.heap tabs := fun q hq => ⟨hT q hq, by
    rcases htab.2 with rfl | ⟨c1, c2, o1, o2, rfl, hc1, hc2, hc12, ⟨vs1, _, h1, _⟩, ⟨vs2, _, h2, _⟩⟩
    · rcases List.mem_singleton.mp hq with rfl
      exact ⟨_, rfl⟩
    · rcases List.mem_cons.mp hq with rfl | hq
      · exact ⟨_, rfl⟩
      · rcases List.mem_cons.mp hq with rfl | hq
        · exact ⟨_, h1⟩
        · rcases List.mem_singleton.mp hq with rfl
          exact ⟨_, h2⟩⟩
  have hnk : ∀ q ∈ tabs, (heapK w.params).lookup q.1 = none := fun q hq => by
    rcases htab.2 with rfl | ⟨c1, c2, o1, o2, rfl, hc1, hc2, _⟩
    · rcases List.mem_singleton.mp hq with rfl
      exact noK111
    · rcases List.mem_cons.mp hq with rfl | hq
      · exact noK111
      · rcases List.mem_cons.mp hq with rfl | hq
        · exact highK hc1
        · rcases List.mem_singleton.mp hq with rfl
          exact highK hc2
  have XG := inHid X hnk
  have TG := hR.top T
  have PG := hR.places hpl
  have LG := hR.list hl
  have CG := head111 XG
  have hkeep : ∀ (h9 : Heap), (hideAll s.heap (tabs.map (·.1))).StaysIn h9 → (∀ q ∈ tabs, q.1 ≠ 111 → h9.get? q.1 = some q.2) → ∀ b o, b ≠ 111 → s.heap.get? b = some o → h9.get? b = some o := by
    intro h9 k1 k2 b o hb e
    by_cases hm : b ∈ tabs.map (·.1)
    · obtain ⟨q, hq, rfl⟩ := List.mem_map.mp hm
      have := hT q hq
      rw [e] at this
      cases this
      exact k2 q hq hb
    · exact k1 _ _ (hideAll_get _ e hm)
  obtain ⟨inT, hinT⟩ : ∃ inT : (Addr × Obj) → Prop, ∀ q, inT q ↔ q ∈ tabs := ⟨_, fun _ => Iff.rfl⟩
  rcases htab.2 with rfl | ⟨c1, c2, o1, o2, rfl, hc1, hc2, hc12, ⟨vs1, t1, hk1, hk1'⟩, ⟨vs2, t2, hk2, hk2'⟩⟩
  all_goals (
    refine wpAny_call ?_
    refine' enterC _ hT ?k3 ?k5 ?k6 ?k7 ?k8 ?k9 ?kB ?kD ?_ ?c2 ?c3 ?c4
    case k3 => exact X
    case k5 => exact T
    case k6 => k_is
    case k7 => k_is
    case k8 => dsimp only [Aro]; omega
    case k9 => exact BindsTo.of_eq rfl
    case kB => exact kindsX rfl
    case kD => decide +kernel
    case c2 => exact rfl
    case c3 => exact rfl
    case c4 => exact rfl
    k_whole
    clear X T hpl hl
    intro L' h' tk' cells' F' N' Y' l1
    k_lt l1
    k_cells Y'
    simp only [List.cons_append, List.nil_append] at N'
    dsimp only at F' N'
    dsimp only
    k_steps
    rename Fr _ _ _ _ => F9
    rename News _ _ _ _ => N9
    rename List.length _ = _ => hul
    rename (∀ (i : Nat) (v : Value), _) => hub
    rename List Value => us'
    refine Calls.use (reduceC (p := topProg) (mean := mean) (mg := mg) (mb := mb) _ _ _ _ _ _ _ _ _ (fun i v os => os = [] ∧ ∃ t, v = Value.int (valF base (dg.take i)) t) [] (Frag.In.keeps XG F9.keep) (TG.keeps F9.keep) (isList_of (N9 _ (by k_mem)).1) (by rw [hul, List.size_toArray, List.length_map]; omega) ⟨rfl, _, rfl⟩ (fun _ q => (nomatch q)) (.inr ⟨_, _, rfl⟩) (FnAt.of N9 (by k_mem)) ?_ (by show dp + 1 + 30 < _; omega) (by show ut + 3 + 100 < _; omega)) F9 N9 ?_
    · rintro i dp' ut' fr' gd' h9 tk9 v x os hdp' hut' st hx ⟨rfl, t, rfl⟩ hos
      obtain ⟨c, u, hc, rfl⟩ := hub i x hx
      have hil : i < dg.length := by
        have := (List.getElem?_eq_some_iff.mp hx).1
        rw [hul, List.size_toArray, List.length_map] at this
        exact this
      have hcl : c = letter dg[i] := by
        have : (dg.map letter)[i]? = some c := by rw [← List.getElem?_toArray]; exact hc
        rw [List.getElem?_map, List.getElem?_eq_getElem hil] at this
        exact (Option.some.inj this).symm
      have hb9 := valF_bound (base := base) (by omega) i (dg.take i) (by rw [List.length_take]; omega) fun x hx => hdg x (List.mem_of_mem_take hx)
      have hx9 := hdg _ (List.getElem_mem hil)
      have st9 : ∀ b o, _ → h9.get? b = some o := fun b o e => st b o (F9.keep b o e)
      have h30 : (base : Int) ^ i < 2 ^ 30 := by
        have : i = 0 ∨ i = 1 ∨ i = 2 ∨ i = 3 ∨ i = 4 ∨ i = 5 := by omega
        rcases hbase with ⟨rfl, h⟩ | ⟨rfl, h⟩ <;> rcases this with rfl | rfl | rfl | rfl | rfl | rfl <;> first | decide | omega
      have hf9 := (N9 _ (.tail _ (.head _))).1
      refine Calls.mono (toldStep (p := topProg) (mean := mean) (mg := mg) (mb := mb) dp' ut' fr' gd' _ _ _ _ _ pl _ _ _ _ base _ dg[i] _ _ _ _ (Frag.In.keeps XG st9) (TG.keeps st9) (st _ _ hf9) (CodeRec.stays (codeRec_news N9 (by k_mem) (by assumption) (by assumption)) st) (st _ _ (N9 (_, _) (by k_mem)).1) (by assumption) (st _ _ (N9 (_, _) (by k_mem)).1) (by assumption) (PG.stays st9) hb9.1 (by omega) (by omega) (by omega) hx9.1 (by omega) (by rw [hcl]) (by dsimp only [Aro, Around.deeper] at hdp'; omega) (by dsimp only [Aro, Around.deeper] at hut'; omega)) ?_
      rintro v h8 st8 ⟨u8, rfl⟩
      exact ⟨[], ⟨rfl, u8, by rw [valF_take hil]⟩, fun _ q => (nomatch q)⟩
    rintro v h1 tk1 F1 N1 st ⟨_, ⟨rfl, t9, rfl⟩, _⟩
    clear F9 N9 hub
    have hull : us'.length = dg.length := by rw [hul, List.size_toArray, List.length_map]
    rw [hull, List.take_length] at *
    have hV := valF_bound (base := base) (by omega) dg.length dg rfl hdg
    have hV30 : valF base dg < 2 ^ 30 := by
      rcases hbase with ⟨rfl, h⟩ | ⟨rfl, h⟩ <;> rw [h] at hV <;> have := hV.2 <;> omega
    k_steps
    rename Fr _ _ _ _ => F9
    rename News _ _ _ _ => N9
    have k3 : ∀ p ∈ ([(_, _), (_, _)] : List (Addr × Obj)), Heap.get? _ p.1 = some p.2 := List.forall_mem_cons.mpr ⟨(N9 (_, _) (.head _)).1, List.forall_mem_cons.mpr ⟨(N9 (_, _) (.tail _ (.head _))).1, fun _ q => nomatch q⟩⟩
    refine Calls.use (reduceC (p := topProg) (mean := mean) (mg := mg) (mb := mb) _ _ _ _ _ _ _ _ _ (fun i v os => ∃ r rt u1 u2 n c vt, v = Value.ref r ∧ os = [(r, listOf #[.int (turnsF es (valF base dg) i).1 u1, .int (turnsF es (valF base dg) i).2.1 u2, .ref rt] n), (rt, listOf (List.toArray vt) c)] ∧ IntsAre vt (turnsF es (valF base dg) i).2.2) _ (Frag.In.keeps XG F9.keep) (TG.keeps F9.keep) (isList_of (N9 (_, _) (by k_mem)).1) (by show (5 : Nat) < _; decide) ?hi k3 ?hr (FnAt.of N9 (by k_mem)) ?hs (by show dp + 1 + 30 < _; omega) (by show ut + 3 + 100 < _; omega)) F9 N9 ?hk
    case hi => exact ⟨_, _, _, _, _, _, [], rfl, rfl, IntsAre.nil⟩
    case hr => exact .inl ⟨_, _, rfl, news_new N9 (.head _) (XG 29 _ (by k_is)), (N9 (_, _) (.head _)).1, (by show (Value.type "list" : Value) ≠ Value.type "tuple"; decide)⟩
    case hs =>
      rintro i dp' ut' fr' gd' h9 tk9 v x os hdp' hut' st hx ⟨r, rt, u1, u2, n, c, vt, rfl, rfl, hI⟩ hos
      have hil : i < 5 := (List.getElem?_eq_some_iff.mp hx).1
      have st9 : ∀ b o, _ → h9.get? b = some o := fun b o e => st b o (F9.keep b o e)
      have hf9 := (N9 _ (.tail _ (.tail _ (.tail _ (.head _))))).1
      obtain ⟨w1, w2, w3, w4⟩ := turnsF_inv he (valF base dg) i
      have w5 := pow_le24 (n := i) (by omega)
      have he5 : es.length = 5 := by obtain ⟨a, b, c, rfl, _⟩ := he.ex; rfl
      refine Calls.mono (nextStep (p := topProg) (mean := mean) (mg := mg) (mb := mb) dp' ut' fr' gd' _ _ _ _ _ le r rt _ _ _ _ _ vs vt es _ (valF base dg) _ _ _ _ _ (Frag.In.keeps XG st9) (TG.keeps st9) (st _ _ hf9) (CodeRec.stays (codeRec_news N9 (by k_mem) (by assumption) (by assumption)) st) (st _ _ (N9 (_, _) (by k_mem)).1) (by assumption) (st _ _ (N9 (_, _) (by k_mem)).1) (by assumption) (IsList.stays LG st9) hi he5 ?hes (isList_of (hos _ (.head _))) (isList_of (hos _ (.tail _ (.head _)))) hI (by omega) hV.1 hV30 (by omega) (by omega) w1 (by omega) (by dsimp only [Aro, Around.deeper] at hdp'; omega) (by dsimp only [Aro, Around.deeper] at hut'; omega)) ?_
      case hes => intro x hx; obtain ⟨a, b, c, rfl, h1, h2, h3, h4⟩ := he.ex; simp only [List.mem_cons, List.not_mem_nil, or_false] at hx; omega
      rintro v h8 st8 ⟨r', rt', u1', u2', c', vt', rfl, hr', ho', hrt', hot', hI'⟩
      refine ⟨_, ⟨r', rt', u1', u2', 0, c', vt', rfl, rfl, ?_⟩, List.forall_mem_cons.mpr ⟨⟨hr', ?_⟩, List.forall_mem_cons.mpr ⟨⟨hrt', hot'⟩, fun _ q => nomatch q⟩⟩⟩
      · exact hI'
      · exact ho'
    case hk =>
      rintro v h1 tk1 F1 N1 st ⟨_, ⟨r, rt, u1, u2, n, c, vt, rfl, rfl, hI⟩, hos⟩
      have hkc := hkeep _ F9.keep (by
        intro q hq hne
        simp only [List.mem_cons, List.not_mem_nil, or_false] at hq
        first
        | (subst hq; exact absurd rfl hne)
        | (rcases hq with rfl | rfl | rfl
           · exact absurd rfl hne
           · exact (N9 (_, _) (by k_mem)).1
           · exact (N9 (_, _) (by k_mem)).1))
      have h111 := (N9 (111, _) (by k_mem)).1
      have hr1 := hos _ (.head _)
      have hr2 := hos _ (.tail _ (.head _))
      have N2 := news_take F9 st N1 (hr2.2 nofun) hr2.1
      have N3 := news_take F9 st N2 (hr1.2 nofun) hr1.1
      clear F9 N9 N1 N2
      k_steps
      rename Fr _ _ _ _ => F9
      rename News _ _ _ _ => N9
      have hL : @LT.lt Nat _ 128 L' := Nat.lt_of_lt_of_le (Heap.lt_size (XG 128 _ (by k_is))) F9.above
      have hLs := F9.above
      rw [hideAll_size] at hLs
      have hTR : ∃ tabs', TabR h1 tabs' ∧ ∀ q ∈ tabs', q.1 = 111 ∨ inT q ∨ s.heap.objs.size ≤ q.1 := by
        refine' ⟨_, TabR.of N9 ?m0 ?e ?m1 ?m2 ?h1 ?h2 ?h12 ?k1 ?k2, List.forall_mem_cons.mpr ⟨.inl rfl, List.forall_mem_cons.mpr ⟨.inr ?z1, List.forall_mem_cons.mpr ⟨.inr ?z2, fun _ q => nomatch q⟩⟩⟩⟩
        case m0 => k_mem
        case e => rfl
        case m1 => k_mem
        case m2 => k_mem
        case h1 => first | assumption | (show @LT.lt Nat _ 128 _; omega)
        case h2 => first | assumption | (show @LT.lt Nat _ 128 _; omega)
        case h12 => first | assumption | (show @Ne Nat _ _; omega)
        case k1 => exact ⟨_, _, by assumption, by assumption⟩
        case k2 => exact ⟨_, _, by assumption, by assumption⟩
        case z1 => first | exact .inl ((hinT _).mpr (by k_mem)) | (refine .inr ?_; show @LE.le Nat _ _ _; omega)
        case z2 => first | exact .inl ((hinT _).mpr (by k_mem)) | (refine .inr ?_; show @LE.le Nat _ _ _; omega)
      obtain ⟨tabs', hTR1, hTR2⟩ := hTR
      refine hQ _ _ _ (hkeep _ F9.keep (by
        intro q hq hne
        simp only [List.mem_cons, List.not_mem_nil, or_false] at hq
        first
        | (subst hq; exact absurd rfl hne)
        | (rcases hq with rfl | rfl | rfl
           · exact absurd rfl hne
           · exact (N9 (_, _) (by k_mem)).1
           · exact (N9 (_, _) (by k_mem)).1))) ⟨rt, c, vt, tabs', rfl, ?_, hr2.1, hI, hTR1, fun q hq => (hTR2 q hq).imp_right (Or.imp_left (hinT q).mp)⟩
      have hno := hr2.2 nofun
      cases q : s.heap.get? rt with
      | none => rfl
      | some o =>
        by_cases hb : rt = 111
        · subst hb; rw [h111] at hno; cases hno
        · rw [hkc rt o hb q] at hno; cases hno
)


end
end
end
section
local macro_rules | `(tactic| omega) => `(tactic| first | lia | omega +splitDisjunctions)
section
noncomputable def lawB : List Stmt := defBody "law"
noncomputable def lawScope : Scope := match P.row.prog.theDef "law" with | some (_, _, sc) => sc | none => default
noncomputable abbrev lawEnv (L fa : Addr) : Env := envOfC "law" lawScope L fa (.ref 127)
/-- an empty cell and a full one -/
noncomputable def IsC (o : Obj) (v : Option Value) : Prop := o.data = .cell v


end
section
section
variable {prog : Program} {w : World} {A : Around} {E : Value → Shared → Prop} {s : Shared} {env : Env} {h₀ : Heap} {L : Addr}
theorem walks_lt {I : Addr} {fp wr : List Addr} {n : Nat} {P : Nat → Value → Prop} {St : Nat → Heap → Prop} (W : Walks prog w A I fp wr n P St) : Walks prog w A I fp wr n (fun i v => i < n ∧ P i v) St where
  sub := W.sub
  frame := W.frame
  item := fun i s Q E hi st hQ => W.item i s Q E hi st fun v h tk hp => hQ v h tk ⟨hi, hp⟩
  done := W.done
  self := W.self
/-- an element of a block -/
noncomputable def EltOk (prog : Program) (w : World) (A : Around) (env : Env) (scope : Scope) (cl : List (Str × Addr)) (x : Str) (P : Nat → Value → Prop) (elt : Expr) (Y : Value → Value → Prop) (h : Heap) : Prop :=
  ∀ g C i v (s₃ : Shared) m₃ E', h.StaysIn g → P i v → Fr g C s₃.heap m₃ → m₃ x = some v → wpAny (model prog w) A (eval elt (compEnvC scope cl C env)) (fun y s₄ => Y v y ∧ Keeps s₃ s₄) E' s₃
/-- the source of a block -/
structure Src (prog : Program) (w : World) (A : Around) (h₀ : Heap) (L : Addr) (m : Str → Option Value) (news : List (Addr × Obj)) (h : Heap) (n : Nat) (P : Nat → Value → Prop) (it : Value) (h' : Heap) : Prop where
  ex : ∃ I fp St, it = .ref I ∧ Walks prog w A I fp [I] n P St ∧ St 0 h' ∧ (∀ b ∈ fp, b < h'.objs.size) ∧ Fr h₀ L h' m ∧ News h₀ L h' news ∧ h₀.get? I = none ∧ I ≠ L ∧ (∀ p ∈ news, p.1 ≠ I) ∧ h.StaysIn (hideAll h' [I]) ∧ ∀ i h, St i h → ∃ o, h.get? I = some o
theorem src_push {h : Heap} {o : Obj} : h.StaysIn (hideAll (h.push o) [h.objs.size]) := fun b q e =>
  hideAll_get _ (Heap.get?_push_of_some _ e) fun hm => by rw [List.mem_singleton.mp hm, Heap.get?_none_of_le (Nat.le_refl _)] at e; cases e
theorem src_list {m : Str → Option Value} {news : List (Addr × Obj)} {l : Addr} {items : Array Value} {Q : Value → Shared → Prop} (hh : A.handled = none) (hl : s.heap.IsList l items) (F : Fr h₀ L s.heap m) (N : News h₀ L s.heap news)
    (k : ∀ it h', Src prog w A h₀ L m news s.heap items.size (fun i v => items[i]? = some v) it h' → Q it { s with heap := h' }) : wpAny (model prog w) A (pyIter (.ref l)) Q E s := by
  refine wpAny_pyIter_list hl ?_
  have hlt : l < s.heap.objs.size := let ⟨_, e, _⟩ := hl; Heap.lt_size e
  refine k _ _ ⟨s.heap.objs.size, _, _, rfl, Walks.list hh _ l (Nat.ne_of_lt hlt) items, ⟨⟨_, Heap.get?_push_size _ rfl, rfl, rfl⟩, hl.push _⟩, fun b hb => ?_, F.push _, fun p hp => ⟨Heap.get?_push_of_some _ (N p hp).1, (N p hp).2⟩, next_is_new F, Nat.ne_of_gt F.ns.lt, fun p hp => Nat.ne_of_lt (Heap.lt_size (N p hp).1), src_push, fun i h hst => let ⟨⟨o, ho, _⟩, _⟩ := hst; ⟨o, ho⟩⟩
  rw [Heap.size_push]
  simp only [List.mem_cons, List.not_mem_nil, or_false] at hb
  rcases hb with rfl | rfl
  · exact Nat.lt_succ_self _
  · exact Nat.lt_succ_of_lt hlt
theorem src_range {m : Str → Option Value} {news : List (Addr × Obj)} {r : Addr} {a : Int} {n : Nat} {t₀ u₀ v₀ : Tok} {Q : Value → Shared → Prop} (hh : A.handled = none) (hr : IsRange s.heap r a (a + (n : Nat)) 1 t₀ u₀ v₀) (ha : 0 ≤ a) (ha1 : a < 1000000) (hn : n < 1000000) (F : Fr h₀ L s.heap m) (N : News h₀ L s.heap news)
    (k : ∀ it h', Src prog w A h₀ L m news s.heap n (fun i v => ∃ t, v = .int (a + (i : Nat)) t) it h' → Q it { s with heap := h' }) : wpAny (model prog w) A (pyIter (.ref r)) Q E s := by
  have hsz : Builtin.Range.rangeSize a (a + (n : Nat)) 1 = (n : Int) := by
    unfold Builtin.Range.rangeSize
    rw [if_pos (by decide)]
    split <;> omega
  refine wpAny_pyIter_range hr (by unfold Builtin.Range.small Builtin.Range.rangeFitsLong; rw [hsz]; simp only [Bool.and_eq_true, Bool.or_eq_true, decide_eq_true_eq, beq_iff_eq, ge_iff_le, gt_iff_lt]; refine ⟨⟨⟨⟨by omega, ?_⟩, by decide⟩, ?_⟩, .inr ?_⟩ <;> (try rw [if_pos (by decide)]) <;> (try simp only [Bool.and_eq_true, decide_eq_true_eq]) <;> omega) ?_
  rw [hsz]
  have W := (Walks.range (prog := prog) (w := w) hh s.heap.objs.size a 1 n)
  simp only [Int.mul_one] at W
  refine k _ _ ⟨s.heap.objs.size, _, _, rfl, W, ?_, fun b hb => ?_, F.push _, fun p hp => ⟨Heap.get?_push_of_some _ (N p hp).1, (N p hp).2⟩, next_is_new F, Nat.ne_of_gt F.ns.lt, fun p hp => Nat.ne_of_lt (Heap.lt_size (N p hp).1), src_push, fun i h hst => ⟨_, hst⟩⟩
  · show IsRangeIter _ _ _ _ _
    simpa using Heap.get?_push_size _ rfl
  · rw [Heap.size_push, List.mem_singleton.mp hb]; exact Nat.lt_succ_self _
theorem keep_wr {h h' : Heap} {I : Addr} (k : ∀ b o, b ∉ [I] → h.get? b = some o → h'.get? b = some o) : ∀ b o, (hideAll h [I]).get? b = some o → h'.get? b = some o := fun b o e => by
  have e2 := of_hideAll _ e
  refine k b o (fun hm => ?_) e2
  rw [hideAll_none _ hm] at e; cases e
theorem compL {elt iter : Expr} {x : Str} {px : Pos} {ifs : List Expr} {scope : Scope} {cl : List (Str × Addr)} {pos : Pos} {Q : Value → Shared → Prop} (p : Value → Bool) (Y : Value → Value → Prop)
    (hclos : closureFor scope env = pure cl) (hcell : ∀ y ∈ scope.names, y.2 ≠ .cell) (hkind : scope.kind = .function)
    (hnames : ∀ y ∈ scope.names, y.2 = .local → scope.names.lookup y.1 = some .local) (hx : scope.names.lookup x = some .local)
    (h : wpAny (model prog w) A (eval iter env) (fun xv s₁ => wpAny (model prog w) A (pyIter xv) (fun it s₂ => ∃ n P m news h, Src prog w A h₀ L m news h n P it s₂.heap ∧ n ≤ sizeLine ∧
      (∀ g C i v (s₃ : Shared) m₃ E', h.StaysIn g → i < n → P i v → Fr g C s₃.heap m₃ → m₃ x = some v →
        wpAny (model prog w) A (forIn ifs true fun c r => if r = true then do let ok ← isTrue c (compEnvC scope cl C env) (eval c (compEnvC scope cl C env)); pure (ForInStep.yield ok) else pure (ForInStep.yield r)) (fun ok s₄ => ok = p v ∧ Keeps s₃ s₄) E' s₃) ∧
      EltOk prog w A env scope cl x (fun i v => i < n ∧ P i v) elt Y h ∧
      (∀ D us c h' tk (vs : List Value), Fr h₀ L h' m → News h₀ L h' ((D, listOf (List.toArray us) c) :: news) → (∀ p ∈ news, p.1 ≠ D) → h.get? D = none → h.StaysIn h' → vs.length = n → (∀ j v, vs[j]? = some v → j < n ∧ P j v) → Paired Y (vs.filter p) us → Q (.ref D) { s₂ with heap := h', toks := tk })) E s₁) E s)
    (hs : ∀ x, foldedSetIterable iter env x = pure x := by intro _; rfl) :
    wpAny (model prog w) A (eval (.ListComp elt [⟨.Name x px, iter, ifs, 0⟩] scope pos) env) Q E s := by
  refine wpAny_ListComp_free p Y hclos hcell hkind hnames hx (wpAny_mono h (fun xv s₁ h₁ => wpAny_mono h₁ (fun it s₂ h₂ => ?_) fun _ _ e => e) fun _ _ e => e) hs
  obtain ⟨n, P, m, news, h, ⟨I, fp, St, rfl, W, hst, hfp, F, N, hI0, hIL, hIN, hst2, hlive⟩, hn, ht, he, hQ⟩ := h₂
  have gF : ∀ C (s₃ : Shared) m₃, s₂.heap.objs.size ≤ C → s₃.heap.Ns C m₃ → (∀ b o, b ∉ [I] → s₂.heap.get? b = some o → s₃.heap.get? b = some o) → Fr (hideAll s₂.heap [I]) C s₃.heap m₃ := fun C s₃ m₃ hC hn hk =>
    ⟨hn, keep_wr hk, by rw [hideAll_size]; exact hC⟩
  refine ⟨I, fp, [I], n, _, St, rfl, walks_lt W, hn, hst, hfp, ⟨fun C i v s₃ m₃ E' hC hP hn hm hk _ => ht _ C i v s₃ m₃ E' hst2 hP.1 hP.2 (gF C s₃ m₃ hC hn hk) hm, fun C i v s₃ m₃ E' hC hP _ hn hm hk _ => he _ C i v s₃ m₃ E' hst2 hP (gF C s₃ m₃ hC hn hk) hm⟩, ?_⟩
  intro D h' tk ys vs hD _ hpl hlen hP hpair hk
  obtain ⟨c, hDo⟩ := hpl
  refine hQ D ys.toList c h' tk vs (fr_wr F hI0 hIL hk) ?_ (fun q hq e => ?_) ?_ (fun b o e => keep_wr hk b o (hst2 b o e)) hlen hP hpair
  · intro q hq
    rcases List.mem_cons.mp hq with rfl | hq
    · refine ⟨hDo, fun e => ?_, ?_⟩
      · obtain ⟨oL, _, _, hL, _⟩ := F.ns
        rw [← e] at hL
        have : s₂.heap.get? D = some oL := hL
        rw [hD] at this; cases this
      · cases q : h₀.get? D with
        | none => rfl
        | some o => have := F.keep _ _ q; rw [hD] at this; cases this
    · exact news_wr N hIN hk q hq
  · have := (N q hq).1
    rw [e, hD] at this; cases this
  · cases q : h.get? D with
    | none => rfl
    | some o => have := of_hideAll _ (hst2 _ _ q); rw [hD] at this; cases this
theorem comp_tests_nil {A : Around} {C : Addr} {env cenv : Env} {s : Shared} {E' : Value → Shared → Prop} : wpAny (model prog w) A (forIn ([] : List Expr) true fun c r => if r = true then do let ok ← isTrue c cenv (eval c cenv); pure (ForInStep.yield ok) else pure (ForInStep.yield r)) (fun ok s₄ => ok = true ∧ Keeps s s₄) E' s := by
  rw [List.forIn_nil]
  exact wpAny_pure ⟨rfl, s.heap, s.toks, rfl, fun _ _ e => e⟩
theorem filter_tt {α : Type} (l : List α) : l.filter (fun _ => true) = l := List.filter_eq_self.mpr fun _ _ => rfl
theorem paired_at {α β : Type} {F : α → β → Prop} : ∀ {l : List α} {k : List β}, Paired F l k → l.length = k.length ∧ ∀ (i : Nat) (a : α), l[i]? = some a → ∃ b, k[i]? = some b ∧ F a b := by
  intro l k H
  induction H with
  | nil => exact ⟨rfl, fun i a e => by simp at e⟩
  | cons h t ih =>
    obtain ⟨h1, h2⟩ := ih
    refine ⟨by simp [h1], fun i a e => ?_⟩
    cases i with
    | zero => simp at e; subst e; exact ⟨_, rfl, h⟩
    | succ i => simp at e; obtain ⟨b, hb, hF⟩ := h2 i a e; exact ⟨b, by simpa using hb, hF⟩
/-- a block over a range, no tests -/
theorem compR {elt iter : Expr} {x : Str} {px : Pos} {scope : Scope} {cl : List (Str × Addr)} {pos : Pos} {Q : Value → Shared → Prop} (Y : Int → Value → Prop)
    (hclos : closureFor scope env = pure cl) (hcell : ∀ y ∈ scope.names, y.2 ≠ .cell) (hkind : scope.kind = .function)
    (hnames : ∀ y ∈ scope.names, y.2 = .local → scope.names.lookup y.1 = some .local) (hx : scope.names.lookup x = some .local) (hh : A.handled = none)
    (h : wpAny (model prog w) A (eval iter env) (Gets fun xv s₁ => ∃ r a n t₀ u₀ v₀ m news, xv = .ref r ∧ IsRange s₁.heap r a (a + (n : Nat)) 1 t₀ u₀ v₀ ∧ 0 ≤ a ∧ a < 1000000 ∧ n < 1000000 ∧ Fr h₀ L s₁.heap m ∧ News h₀ L s₁.heap news ∧
      (∀ g C k t (s₃ : Shared) m₃ E', s₁.heap.StaysIn g → a ≤ k → k < a + (n : Nat) → Fr g C s₃.heap m₃ → m₃ x = some (.int k t) → wpAny (model prog w) A (eval elt (compEnvC scope cl C env)) (fun y s₄ => Y k y ∧ Keeps s₃ s₄) E' s₃) ∧
      (∀ D us c h' tk, Fr h₀ L h' m → News h₀ L h' ((D, listOf (List.toArray us) c) :: news) → (∀ p ∈ news, p.1 ≠ D) → s₁.heap.get? D = none → s₁.heap.StaysIn h' → us.length = n → (∀ j : Nat, j < n → ∃ y, us[j]? = some y ∧ Y (a + (j : Nat)) y) → Q (.ref D) { s₁ with heap := h', toks := tk })) E s)
    (hs : ∀ x, foldedSetIterable iter env x = pure x := by intro _; rfl) :
    wpAny (model prog w) A (eval (.ListComp elt [⟨.Name x px, iter, [], 0⟩] scope pos) env) Q E s := by
  refine compL (h₀ := h₀) (L := L) (fun _ => true) (fun v y => ∃ k t, v = .int k t ∧ Y k y) hclos hcell hkind hnames hx (wpAny_mono h (fun xv s₁ h₁ => ?_) fun _ _ e => e) hs
  obtain ⟨r, a, n, t₀, u₀, v₀, m, news, rfl, hr, ha, ha1, hn, F, N, he, hQ⟩ := h₁
  refine src_range hh hr ha ha1 hn F N fun it h' S => ?_
  have hz : (1000000 : Nat) ≤ sizeLine := by decide
  refine ⟨n, _, m, news, s₁.heap, S, by omega, fun g C i v s₃ m₃ E' _ _ _ _ _ => comp_tests_nil (C := C) (env := env), ?_, ?_⟩
  · rintro g C i v s₃ m₃ E' hg ⟨hi, t, rfl⟩ F' hm
    exact wpAny_mono (he g C _ t s₃ m₃ E' hg (by omega) (by omega) F' hm) (fun y s₄ h₄ => ⟨⟨_, t, rfl, h₄.1⟩, h₄.2⟩) fun _ _ e => e
  · intro D us c h' tk vs F' N' hD hD0 hst hlen hP hpair
    rw [filter_tt] at hpair
    obtain ⟨h1, h2⟩ := paired_at hpair
    refine hQ D us c h' tk F' N' hD hD0 hst (by omega) fun j hj => ?_
    obtain ⟨t, hv⟩ := (hP j vs[j] (List.getElem?_eq_getElem (by omega))).2
    obtain ⟨y, hy, k, t2, e2, hY⟩ := h2 j _ (List.getElem?_eq_getElem (by omega))
    rw [hv] at e2
    cases e2
    exact ⟨y, hy, hY⟩
theorem cn_loc {M : Model} {scope : Scope} {cl : List (Str × Addr)} {C : Addr} {x : Str} {pos : Pos} {v : Value} {m : Str → Option Value} {Q : Value → Shared → Prop} {g : Heap} (F : Fr g C s.heap m) (hv : m x = some v) (h : Q v s)
    (hk : scope.kind = .function := by rfl) (hx : scope.names.lookup x = some .local := by rfl) (hd : (x == ("__debug__" : Str)) = false := by decide) : wpAny M A (eval (.Name x pos) (compEnvC scope cl C env)) Q E s :=
  wpAny_Name (wpAny_loadName_local (env := compEnvC scope cl C env) (by simpa [compEnvC, relabel] using hk) (lookup_relabel_local hx) F.ns hv h) hd
theorem cn_cell {M : Model} {scope : Scope} {cl : List (Str × Addr)} {C c : Addr} {o : Obj} {x : Str} {pos : Pos} {v : Value} {Q : Value → Shared → Prop} (hc : cl.lookup x = some c) (ho : s.heap.get? c = some o) (hd : o.data = .cell (some v)) (h : Q v s)
    (hk : scope.kind = .function := by rfl) (hx : (compEnvC scope cl C env).kindOf x = some .cell := by rfl) (hb : (x == ("__debug__" : Str)) = false := by decide) : wpAny M A (eval (.Name x pos) (compEnvC scope cl C env)) Q E s :=
  wpAny_Name (wpAny_loadName_cell (env := compEnvC scope cl C env) (by simpa [compEnvC, relabel] using hk) hx hc ⟨o, ho, hd⟩ h) hb
end


end
section
theorem cn_locN {M : Model} {A : Around} {E : Value → Shared → Prop} {s : Shared} {env : Env} {scope : Scope} {cl : List (Str × Addr)} {C : Addr} {x : Str} {pos : Pos} {v : Value} {m : Str → Option Value} {Q : Value → Shared → Prop} (F : s.heap.Ns C m) (hv : m x = some v) (h : Q v s)
    (hk : scope.kind = .function := by rfl) (hx : scope.names.lookup x = some .local := by rfl) (hd : (x == ("__debug__" : Str)) = false := by decide) : wpAny M A (eval (.Name x pos) (compEnvC scope cl C env)) Q E s :=
  wpAny_Name (wpAny_loadName_local (env := compEnvC scope cl C env) (by simpa [compEnvC, relabel] using hk) (lookup_relabel_local hx) F hv h) hd
noncomputable def AllNe (d : Addr) : List (Addr × Obj) → Prop
  | [] => True
  | p :: r => @Ne Nat p.1 d ∧ AllNe d r
theorem allNe_of {d : Addr} : ∀ {l : List (Addr × Obj)}, (∀ p ∈ l, p.1 ≠ d) → AllNe d l
  | [], _ => trivial
  | p :: _, h => ⟨h p (.head _), allNe_of fun q hq => h q (.tail _ hq)⟩
/-- the table of the letters' places, by its object -/
noncomputable def PlacesO (w : World) (D : Addr) (oD : Obj) : Prop := ∀ h : Heap, h.get? D = some oD → Places w h D
noncomputable def pkey (i : Nat) : Int := ((alph.getD i 0).toNat : Int)
theorem pkey_fin : ∀ i j : Fin 64, pkey i.1 = pkey j.1 → i = j := by decide +kernel
theorem pkey_inj {i j : Nat} (hi : i < 64) (hj : j < 64) (h : pkey i = pkey j) : i = j := by
  have := pkey_fin ⟨i, hi⟩ ⟨j, hj⟩ h
  exact congrArg Fin.val this
theorem valueAt_snoc {K : Type} [DecidableEq K] (kvs : List (K × Value)) (k k' : K) (y : Value) : valueAt (kvs ++ [(k, y)]) k' = (valueAt kvs k').or (if k = k' then some y else none) := by
  unfold valueAt
  rw [List.find?_append]
  cases kvs.find? fun kv => kv.1 = k' with
  | some x => rfl
  | none =>
    by_cases e : k = k'
    · simp [e]
    · simp [e]
theorem stored_places {l : List Value} {kvs : List (Int × Value)} (h : StoredAll (fun v k => ∃ (i : Nat) (t : Tok), v = .int i t ∧ i < 64 ∧ k = pkey i) (fun v y => ∃ (i : Nat) (t t' : Tok), v = .int i t ∧ y = .int i t') l kvs) :
    (∀ (j : Nat) (v : Value), l[j]? = some v → ∃ t, v = .int j t) → (∀ j, j < l.length → ∃ t, valueAt kvs (pkey j) = some (.int j t)) ∧ ∀ j, l.length ≤ j → j < 64 → valueAt kvs (pkey j) = none := by
  induction h with
  | nil => exact fun _ => ⟨fun j hj => absurd hj (Nat.not_lt_zero _), fun j _ _ => rfl⟩
  | @snoc l kvs v k y hl hk hy ih =>
    intro hp
    obtain ⟨ih1, ih2⟩ := ih fun j v hj => hp j v (by rw [List.getElem?_append_left (List.getElem?_eq_some_iff.mp hj).1]; exact hj)
    obtain ⟨t0, e0⟩ := hp l.length v (by simp)
    subst e0
    obtain ⟨i, t, e, hi, rfl⟩ := hk
    obtain ⟨i2, t2, t3, e2, rfl⟩ := hy
    have ei : i = l.length := by cases e; omega
    have ei2 : i2 = l.length := by cases e2; omega
    subst ei ei2
    rw [stored_absent (ih2 _ (Nat.le_refl _) hi)]
    refine ⟨fun j hj => ?_, fun j hj hj2 => ?_⟩
    · rw [valueAt_snoc]
      by_cases hjl : j < l.length
      · obtain ⟨t, ht⟩ := ih1 j hjl
        exact ⟨t, by rw [ht]; rfl⟩
      · have : j = l.length := by simp at hj; omega
        subst this
        exact ⟨t3, by rw [ih2 _ (Nat.le_refl _) hi, if_pos rfl]; rfl⟩
    · simp at hj
      rw [valueAt_snoc, ih2 j (by omega) hj2, if_neg (fun q => by have := pkey_inj hi hj2 q; omega)]
      rfl
noncomputable def valOf (s : Stmt) : Expr := atX 0 (subS s)
theorem placesEval : ∀ {w : World} {A : Around} {s : Shared} {G : Heap} {L fa : Addr} {m : Str → Option Value} {news : List (Addr × Obj)} {o1 : Obj} {t1 : Tok} {p : Program} {loose : List Str} {mean : ExcName → Option Value} {mg mb : Str → Option Value} {Q : Value → Shared → Prop} {E : Value → Shared → Prop}
    (X : (heapK w.params).In G) (T : Top p loose mean mg mb G) (hsm : ∃ o, G.get? 1 = some o) (F : Fr G L s.heap m) (N : News G L s.heap news) (hm : (L + 1, o1) ∈ news) (h1 : o1.data = .cell (some (.bytes alph.toArray t1))) (hh : A.handled = none) 
    (hQ : ∀ D oD h' tk, Fr G L h' m → News G L h' ((D, oD) :: news) → (∀ p ∈ news, p.1 ≠ D) → PlacesO w D oD → Q (.ref D) { s with heap := h', toks := tk }),
    wpAny (model P.row.prog w) A (eval (valOf (nthL 1 lawB)) (lawEnv L fa)) Q E s := by
  k_with_none
  k_with "assign Tuple" => ((k_here; (with_reducible show wpAny _ _ (assign (Expr.Tuple _ _ _) _ (Value.ref _)) _ _ _); k_dflt (refine' kun_list ?k1 ?k2 ?k3 ?k4 ?k5 ?k6 ?_; (case k1 => k_asm); (case k2 => k_asm); (case k3 => (first | (with_reducible assumption) | exact IsList.stays (by assumption) (Fr.keep (by assumption)) | exact News.isList (by k_asm) (by k_mem))); (case k4 => exact rfl); (case k5 => exact rfl); (case k6 => exact rfl); k_whole); intro h' F' N'; (try k_sweep)))
  k_with "eval Name" => (k_dflt (first
  | (refine' cn_locN ?F ?v ?_ ?a ?b ?c; (case F => assumption); (case v => assumption); (case a => exact rfl); (case b => exact rfl); (case c => decide); k_whole)
  | (refine' cn_cell ?c ?o ?d ?_ ?a ?b ?e; (case a => rfl); (case b => rfl); (case e => decide); (case c => rfl); (case o => assumption); (case d => assumption); k_whole)))
  w_top off
  k_fill
  intro w A s G L fa m news o1 t1 p loose mean mg mb Q E X T hsm F N hm h1 hh hQ
  have e1 : valOf (nthL 1 lawB) = .DictComp (.Subscript (.Name _ _) (.Name _ _) _) (.Name _ _) [⟨.Name _ _, .Call (.Name _ _) [.Constant _ _ _] _ _, [], _⟩] ⟨_, _, _, _, _⟩ _ := rfl
  have e2 : lawScope = ⟨.function, _, _, _, _⟩ := rfl
  rw [e1]
  clear e1
  dsimp only [lawEnv]
  rw [e2]
  clear e2
  refine wpAny_DictComp_free (PySem.intKind P.row.prog w) (fun _ => true) (fun v k => ∃ (i : Nat) (t : Tok), v = .int i t ∧ i < 64 ∧ k = pkey i) (fun v y => ∃ (i : Nat) (t t' : Tok), v = .int i t ∧ y = .int i t') (cl := [("alphabet", L + 1)]) ?hclos ?hcell ?hkind ?hnames ?hx ?h
  case hclos => rfl
  case hcell => decide
  case hkind => rfl
  case hnames => decide
  case hx => rfl
  case h =>
    k_steps
    rename IsRange _ _ _ _ _ _ _ _ => hR
    rename Fr _ _ _ _ => F1
    rename News _ _ _ _ => N1
    refine src_range (n := 64) hh hR (by decide) (by decide) (by decide) F1 N1 fun it h2 S => ?_
    obtain ⟨I, fp, St, rfl, W, hst, hfp, F2, N2, hI0, hIL, hIN, hst2, hlive⟩ := S.ex
    refine ⟨I, fp, [I], 64, _, St, rfl, walks_lt W, by decide, hst, hfp, ⟨?tests, ?key, ?val⟩, ?fin⟩
    case tests =>
      intro C i v s₃ m₃ E' hP hn hm hk
      exact comp_tests_nil (C := C) (env := compEnvC ⟨.function, [], false, false, []⟩ [] C (lawEnv L fa))
    case key =>
      rintro C i v s₃ m₃ E' ⟨hi, t, rfl⟩ _ hn3 hm3 hk3
      have ho1 : s₃.heap.get? (L + 1) = some o1 := hk3 _ _ (fun q => hIN _ hm (List.mem_singleton.mp q)) (N2 _ hm).1
      k_steps
      refine bytes_item_K (k := pkey i) (by decide) (by omega) (by show _ < (64 : Int); omega) (by rw [Int.zero_add, Int.toNat_natCast]; rfl) ?_
      exact ⟨⟨_, intKind_is _ _ _ _, i, t, by rw [Int.zero_add], hi, rfl⟩, _, _, rfl, fun _ _ e => e⟩
    case val =>
      rintro C i v s₃ m₃ E' ⟨hi, t, rfl⟩ _ hn3 hm3 hk3
      refine cn_locN hn3 hm3 ?_
      exact ⟨⟨i, t, t, by rw [Int.zero_add], by rw [Int.zero_add]⟩, _, _, rfl, fun _ _ e => e⟩
    case fin =>
      intro D h' tk kvs vs hD hDict hlen hP hS hk
      rw [filter_tt] at hS
      obtain ⟨oD, es, ep, ho, hx, hd9, hkk, hpp, hnd⟩ := hDict
      have hp9 := stored_places hS fun j v hj => by
        obtain ⟨_, t, rfl⟩ := hP j v hj
        exact ⟨t, by rw [Int.zero_add]⟩
      refine hQ D oD h' tk (fr_wr F2 hI0 hIL hk) ?_ (fun q hq e => ?_) ?_
      · intro q hq
        rcases List.mem_cons.mp hq with rfl | hq
        · refine ⟨ho, fun e => ?_, ?_⟩
          · obtain ⟨oL, _, _, hL, _⟩ := F2.ns
            rw [← e] at hL
            have : h2.get? D = some oL := hL
            rw [hD] at this; cases this
          · cases q : G.get? D with
            | none => rfl
            | some o => have := F2.keep _ _ q; rw [hD] at this; cases this
        · exact news_wr N2 hIN hk q hq
      · have := (N2 q hq).1
        rw [e, hD] at this; cases this
      · intro h9 ho9
        refine ⟨beq_eq_false_iff_ne.mpr fun q => ?_, kvs, ⟨oD, es, ep, ho9, hx, hd9, hkk, hpp, hnd⟩, fun i hi => hp9.1 i (by omega)⟩
        obtain ⟨o1, ho1⟩ := hsm
        have := F2.keep 1 o1 ho1
        rw [show (1 : Addr) = D from q.symm, hD] at this; cases this


end
section
section
variable {prog : Program} {w : World} {A : Around} {E : Value → Shared → Prop} {s : Shared} {env : Env} {h₀ : Heap} {L : Addr}
noncomputable abbrev cellNone : Obj := { cls := .type "cell", data := .cell none }
/-- a block's frame with one cell -/
theorem newEnv_cell {M : Model} {scope : Scope} {globals : Addr} {qual : Str} {outer : Env} {x : Str} {Q : Env → Shared → Prop} (hpc : ∀ h, pushCells h scope.names = h.push cellNone) (hcf : ∀ n, cellsFrom n scope.names [] = [(x, n)])
    (hQ : Q { scope, locals := s.heap.objs.size, globals, cells := [(x, s.heap.objs.size + 1)], qual, func := none, code := outer.code, frame := outer.frame, builtins := outer.builtins } { s with heap := (s.heap.push { cls := .type "dict", data := .dict #[] }).push cellNone }) :
    wpAny M A (newFunctionEnv scope globals [] [] qual none .none (some outer)) Q E s := by
  simp only [newFunctionEnv, Option.isSome_some, if_true]
  refine wpAny_bind (wpAny_alloc ?_)
  refine wpAny_bind (wpAny_layCells _ (fun name kind cells => by cases hkc : kind == NameKind.cell <;> simp [hkc]) _ _ _ _ ?_)
  rw [hpc, hcf]
  refine wpAny_bind ?_
  rw [List.forIn_nil]
  refine wpAny_pure (wpAny_pure ?_)
  have : (s.heap.push { cls := .type "dict", data := .dict #[] }).objs.size = s.heap.objs.size + 1 := Heap.size_push ..
  show Q { scope, locals := s.heap.objs.size, globals, cells := [(x, (s.heap.push { cls := .type "dict", data := .dict #[] }).objs.size)], qual, func := none, code := outer.code, frame := outer.frame, builtins := outer.builtins } _
  rw [this]
  exact hQ
theorem compX {elt iter : Expr} {x : Str} {px : Pos} {scope : Scope} {pos : Pos} {Q : Value → Shared → Prop} (Row : Value → Obj → Prop)
    (hclos : closureFor scope env = pure []) (hkind : scope.kind = .function) (hpc : ∀ h, pushCells h scope.names = h.push cellNone) (hcf : ∀ n, cellsFrom n scope.names [] = [(x, n)])
    (hnames : ∀ y ∈ scope.names, y.2 = .local → scope.names.lookup y.1 = some .local) (hx : ∀ C Ca, (compEnvC scope [(x, Ca)] C env).kindOf x = some .cell)
    (h : wpAny (model prog w) A (eval iter env) (fun xv s₁ => wpAny (model prog w) A (pyIter xv) (fun it s₂ => ∃ n P m news h, Src prog w A h₀ L m news h n P it s₂.heap ∧ n ≤ 1000 ∧
      (∀ g C Ca oC i v (s₃ : Shared) m₃ E', h.StaysIn g → i < n → P i v → Fr g C s₃.heap m₃ → s₃.heap.get? Ca = some oC → oC.data = .cell (some v) → C ≠ Ca → g.get? Ca = none →
        wpAny (model prog w) A (eval elt (compEnvC scope [(x, Ca)] C env)) (fun y s₄ => ∃ r o, y = .ref r ∧ s₃.heap.get? r = none ∧ s₄.heap.get? r = some o ∧ Row v o ∧ Keeps s₃ s₄) E' s₃) ∧
      (∀ D (rows : List (Addr × Obj)) c h' tk, Fr h₀ L h' m → News h₀ L h' ((D, listOf (List.toArray (rows.map fun q => Value.ref q.1)) c) :: (news ++ rows)) → (∀ p ∈ news, p.1 ≠ D) → (∀ q ∈ rows, q.1 ≠ D) → (∀ q ∈ rows, ∀ p ∈ news, p.1 ≠ q.1) → h.StaysIn h' → rows.length = n →
        (∀ j q, rows[j]? = some q → ∃ v, P j v ∧ Row v q.2) → Q (.ref D) { s₂ with heap := h', toks := tk })) E s₁) E s)
    (hs : ∀ x, foldedSetIterable iter env x = pure x := by intro _; rfl) :
    wpAny (model prog w) A (eval (.ListComp elt [⟨.Name x px, iter, [], 0⟩] scope pos) env) Q E s := by
  rw [eval_ListComp]
  refine wpAny_comprehension_free (use := none) rfl hs hclos hkind hnames (wpAny_mono h (fun xv s₁ h₁ => wpAny_mono h₁ (fun it s₂ h₂ => ?_) fun _ _ e => e) fun _ _ e => e)
  obtain ⟨n, P, m, news, h, ⟨I, fp, St, rfl, W, hst, hfp, F, N, hI0, hIL, hIN, hst2, hlive⟩, hn, he, hQ⟩ := h₂
  refine wpAny_newObj_type (newEnv_cell hpc hcf ?_)
  generalize hH : s₂.heap = H at *
  dsimp only
  have z1 : (H.push { cls := .type "list", dict := none, data := .seq ([] : List Value).toArray }).objs.size = H.objs.size + 1 := Heap.size_push ..
  rw [z1]
  have z2 : ((H.push { cls := .type "list", dict := none, data := .seq ([] : List Value).toArray }).push { cls := .type "dict", data := .dict #[] }).objs.size = H.objs.size + 2 := by rw [Heap.size_push, z1]
  generalize hH1 : ((H.push { cls := .type "list", dict := none, data := .seq ([] : List Value).toArray }).push { cls := .type "dict", data := .dict #[] }).push cellNone = H1
  have old : ∀ b o, H.get? b = some o → H1.get? b = some o := fun b o e => by rw [← hH1]; exact Heap.get?_push_of_some _ (Heap.get?_push_of_some _ (Heap.get?_push_of_some _ e))
  have hD1 : H1.PlainList H.objs.size #[] := ⟨0, by rw [← hH1]; exact Heap.get?_push_of_some _ (Heap.get?_push_of_some _ (Heap.get?_push_size _ rfl))⟩
  have hC1 : H1.Ns (H.objs.size + 1) fun _ => none := by
    have := (Heap.Ns.new (H.push { cls := .type "list", dict := none, data := .seq ([] : List Value).toArray }) (.type "dict")).keeps (h' := H1) fun b o e => by rw [← hH1]; exact Heap.get?_push_of_some _ e
    rw [z1] at this; exact this
  have hCa1 : H1.get? (H.objs.size + 2) = some cellNone := by rw [← hH1, ← z2]; exact Heap.get?_push_size _ rfl
  have fresh : ∀ a, H.objs.size ≤ a → H.get? a = none := fun a ha => Heap.get?_none_of_le ha
  have nofp : ∀ a, H.objs.size ≤ a → a ∉ fp := fun a ha hm => Nat.lt_irrefl _ (Nat.lt_of_lt_of_le (hfp a hm) ha)
  have hIf : I ∈ fp := W.sub I (.head _)
  have hIlt : I < H.objs.size := hfp I hIf
  have hst1 : St 0 H1 := W.frame _ _ _ hst fun b _ o e => old b o e
  refine (fun key => codeAny_compStart_list key (W.self 0 _ _ _ hst1 key)) ?_
  all_goals (
    refine codeAny_compLoop_tests (env := compEnvC scope [(x, H.objs.size + 2)] (H.objs.size + 1) env) (fun k s' => ∃ i h' tk oC v₀ c, ∃ rows : List (Addr × Obj), i ≤ n ∧ k = n + 1 - i ∧ s' = { s₂ with heap := h', toks := tk } ∧ St i h' ∧
        h'.get? H.objs.size = some { cls := .type "list", data := .seq (List.toArray (rows.map fun q => Value.ref q.1)) c } ∧ h'.Ns (H.objs.size + 1) (fun _ => none) ∧ h'.get? (H.objs.size + 2) = some oC ∧ oC.data = .cell v₀ ∧ rows.length = i ∧
        (∀ q ∈ rows, h'.get? q.1 = some q.2 ∧ H.get? q.1 = none ∧ q.1 ≠ H.objs.size ∧ q.1 ≠ H.objs.size + 1 ∧ q.1 ≠ H.objs.size + 2 ∧ q.1 ≠ I) ∧ (∀ j q, rows[j]? = some q → ∃ v, P j v ∧ Row v q.2) ∧ (∀ b o, b ∉ [I] → H.get? b = some o → h'.get? b = some o)) ?_ (n + 1)
      ⟨0, H1, _, cellNone, none, 0, [], Nat.zero_le _, rfl, rfl, hst1, by obtain ⟨c, hc⟩ := hD1; rw [← hH1]; exact Heap.get?_push_of_some _ (Heap.get?_push_of_some _ (Heap.get?_push_size _ rfl)), hC1, hCa1, rfl, rfl, fun _ q => (nomatch q), fun j q e => by simp at e, fun b o _ e => old b o e⟩
    rintro k s' ⟨i, h', tk, oC, v₀, c, rows, hin, rfl, rfl, hst', hD', hC', hCa', hoC, hlen, hrows, hrel, hk⟩
    by_cases hlt : i < n
    · refine W.item i _ _ _ hlt hst' fun v h2 tk2 hP hst2' hk2 => ?_
      have up2 : ∀ b o, b ∉ [I] → h'.get? b = some o → h2.get? b = some o := hk2
      have hD2 := up2 _ _ (fun q => by rw [List.mem_singleton.mp q] at hIlt; exact Nat.lt_irrefl _ hIlt) hD'
      have hCa2 := up2 _ _ (fun q => by rw [← List.mem_singleton.mp q] at hIlt; exact absurd hIlt (Nat.not_lt.mpr (Nat.le_add_right _ _))) hCa'
      have hC2 : h2.Ns (H.objs.size + 1) fun _ => none := hC'.at' fun o e => up2 _ _ (fun q => by rw [← List.mem_singleton.mp q] at hIlt; exact absurd hIlt (Nat.not_lt.mpr (Nat.le_add_right _ _))) e
      refine wpAny_assign_Name (wpAny_storeName_cell (env := compEnvC scope [(x, H.objs.size + 2)] (H.objs.size + 1) env) (by simpa [compEnvC, relabel] using hkind) (hx _ _) (by simp [compEnvC]) ⟨oC, hCa2, hoC⟩ fun h3 hv3 hs3 => ?_)
      obtain ⟨oC3, hCa3, hoC3⟩ := hv3
      have up3 : ∀ b o, b ≠ H.objs.size + 2 → h2.get? b = some o → h3.get? b = some o := fun b o hb e => hs3.extBut b o hb e
      have hD3 := up3 _ _ (Nat.ne_of_lt (Nat.lt_add_of_pos_right (by decide))) hD2
      have hC3 : h3.Ns (H.objs.size + 1) fun _ => none := hC2.at' fun o e => up3 _ _ (by exact Nat.ne_of_lt (Nat.lt_succ_self _)) e
      have hst3 : St (i + 1) h3 := W.frame _ _ _ hst2' fun b hb o e => up3 b o (fun q => nofp _ (Nat.le_add_right _ 2) (q ▸ hb)) e
      rw [List.forIn_nil]
      refine wpAny_pure ?_
      rw [if_pos rfl]
      have k3 : ∀ b o, b ∉ [I] → H.get? b = some o → h3.get? b = some o := fun b o hb e => up3 b o (fun q => by rw [q, fresh _ (Nat.le_add_right _ 2)] at e; cases e) (up2 b o hb (hk b o hb e))
      have F3 : Fr (hideAll H [I]) (H.objs.size + 1) h3 fun _ => none := ⟨hC3, keep_wr k3, by rw [hideAll_size]; exact Nat.le_succ _⟩
      have g0 : (hideAll H [I]).get? (H.objs.size + 2) = none := Heap.get?_none_of_le (by rw [hideAll_size]; exact Nat.le_add_right _ 2)
      refine wpAny_mono (he _ _ _ oC3 i v _ _ _ hst2 hlt hP F3 hCa3 hoC3 (Nat.ne_of_lt (Nat.lt_succ_self _)) g0) (fun y s₄ h₄ => ?_) fun _ _ e => e
      obtain ⟨r, o, rfl, hr0, hro, hRow, h4, tk4, rfl, hk4⟩ := h₄
      have hlen4 : rows.length ≤ 1000 := by omega
      have hz : (1000 : Nat) ≤ sizeLine := by decide
      refine wpAny_list_append_plain (hsz := ?hsz) (items := List.toArray (rows.map fun q => Value.ref q.1)) ⟨c, hk4 _ _ hD3⟩ fun h5 hl5 hs5 => ?_
      case hsz => rw [List.size_toArray, List.length_map]; omega
      obtain ⟨c5, hl5⟩ := hl5
      have up5 : ∀ b o, b ≠ H.objs.size → h4.get? b = some o → h5.get? b = some o := fun b o hb e => hs5.extBut b o hb e
      have hrD : r ≠ H.objs.size := fun q => by rw [q, hD3] at hr0; cases hr0
      have hrI : r ≠ I := fun q => by obtain ⟨oI, hoI⟩ := hlive _ _ hst3; rw [q, hoI] at hr0; cases hr0
      have hrCa : r ≠ H.objs.size + 2 := fun q => by rw [q, hCa3] at hr0; cases hr0
      have hrC : r ≠ H.objs.size + 1 := fun q => by obtain ⟨oc, _, _, hoc, _⟩ := hC3; rw [q, hoc] at hr0; cases hr0
      have hrH : H.get? r = none := by
        cases q : H.get? r with
        | none => rfl
        | some o => rw [k3 _ _ (fun q => hrI (List.mem_singleton.mp q)) q] at hr0; cases hr0
      refine ⟨n + 1 - (i + 1), by omega, i + 1, h5, tk4, oC3, some v, c5, rows ++ [(r, o)], hlt, rfl, rfl, ?_, ?_, ?_, ?_, hoC3, by rw [List.length_append, hlen]; rfl, ?_, ?_, ?_⟩
      · exact W.frame _ _ _ hst3 fun b hb o e => up5 b o (fun q => nofp _ (Nat.le_refl _) (q ▸ hb)) (hk4 b o e)
      · rw [List.map_append]; simpa using hl5
      · exact (hC3.keeps hk4).at' fun o e => up5 _ _ (Nat.ne_of_gt (Nat.lt_succ_self _)) e
      · exact up5 _ _ (Nat.ne_of_gt (Nat.lt_add_of_pos_right (by decide))) (hk4 _ _ hCa3)
      · intro q hq
        rcases List.mem_append.mp hq with hq | hq
        · obtain ⟨q1, q2, q3, q6, q4, q5⟩ := hrows q hq
          exact ⟨up5 _ _ q3 (hk4 _ _ (up3 _ _ q4 (up2 _ _ (fun z => q5 (List.mem_singleton.mp z)) q1))), q2, q3, q6, q4, q5⟩
        · rw [List.mem_singleton.mp hq]
          exact ⟨up5 _ _ hrD hro, hrH, hrD, hrC, hrCa, hrI⟩
      · intro j q hj
        by_cases hji : j < rows.length
        · rw [List.getElem?_append_left hji] at hj; exact hrel j q hj
        · have hjl : j = i := by
            have := (List.getElem?_eq_some_iff.mp hj).1
            simp at this; omega
          rw [List.getElem?_append_right (by omega), hjl, hlen, Nat.sub_self] at hj
          cases hj
          exact ⟨v, hjl ▸ hP, hRow⟩
      · exact fun b o hb e => up5 b o (fun q => by rw [q, fresh _ (Nat.le_refl _)] at e; cases e) (hk4 b o (k3 b o hb e))
    · have hni : i = n := by omega
      subst hni
      refine W.done _ _ _ hst' fun h9 tk9 hk9 => ?_
      have up9 : ∀ b o, b ≠ I → h'.get? b = some o → h9.get? b = some o := fun b o hb e => hk9 b o (fun q => hb (List.mem_singleton.mp q)) e
      have k9 : ∀ b o, b ∉ [I] → H.get? b = some o → h9.get? b = some o := fun b o hb e => hk9 b o hb (hk b o hb e)
      refine ⟨fun _ => none, hC'.at' fun o e => up9 _ _ (fun q => by rw [← q] at hIlt; exact absurd hIlt (Nat.not_lt.mpr (Nat.le_add_right _ _))) e, fun h'' hs'' => ?_⟩
      have up10 : ∀ b o, b ≠ I → b ≠ H.objs.size + 1 → h'.get? b = some o → h''.get? b = some o := fun b o hb hb2 e => hs''.extBut b o hb2 (up9 b o hb e)
      have k10 : ∀ b o, b ∉ [I] → H.get? b = some o → h''.get? b = some o := fun b o hb e => hs''.extBut b o (fun q => by rw [q, fresh _ (Nat.le_succ _)] at e; cases e) (k9 b o hb e)
      have hDD := up10 _ _ (fun q => by rw [← q] at hIlt; exact absurd hIlt (Nat.lt_irrefl _)) (Nat.ne_of_lt (Nat.lt_succ_self _)) hD'
      have hN9 := news_wr N hIN k10
      refine hQ H.objs.size rows c h'' tk9 (fr_wr F hI0 hIL k10) ?_ (fun p hp e => ?_) (fun q hq => (hrows q hq).2.2.1) (fun q hq p hp e => ?_) (fun b o e => keep_wr k10 b o (hst2 b o e)) hlen hrel
      · intro p hp
        rcases List.mem_cons.mp hp with rfl | hp
        · exact ⟨hDD, Nat.ne_of_gt F.ns.lt, next_is_new F⟩
        rcases List.mem_append.mp hp with hp | hp
        · exact hN9 p hp
        · obtain ⟨q1, q2, q3, q6, q4, q5⟩ := hrows p hp
          refine ⟨up10 _ _ q5 q6 q1, fun e => ?_, ?_⟩
          · obtain ⟨oL, _, _, hL, _⟩ := F.ns
            rw [e] at q2; rw [q2] at hL; cases hL
          · cases q : h₀.get? p.1 with
            | none => rfl
            | some o => rw [F.keep _ _ q] at q2; cases q2
      · have := (N p hp).1
        rw [e, fresh _ (Nat.le_refl _)] at this; cases this
      · have := (N p hp).1
        rw [e, (hrows q hq).2.1] at this; cases this)
end


end
section
/-- as a dictionary has it -/
noncomputable def lexLe : List Int → List Int → Bool
  | x :: xs, y :: ys => if x = y then lexLe xs ys else decide (x ≤ y)
  | _, _ => true
open MeetsSeq AutoSeq1 in
theorem le_loop (l b : Addr) (xs ys : List Value) (ns ms : List Int) (hx : IntsAre xs ns) (hy : IntsAre ys ms) (n n2 : Nat) (hsz : xs.length = ys.length) (k : Nat) :
    ∀ i : Nat, xs.length - i = k → Meets (Builtin.«list.__eq__.loop» ⟨[.ref l, .ref b, rawInt i, rawInt 1], []⟩)
      (fun _ R s => s.heap.get? l = some { cls := .type "list", dict := none, data := .seq xs.toArray n, slots := #[] } ∧ s.heap.get? b = some { cls := .type "list", dict := none, data := .seq ys.toArray n2, slots := #[] } ∧
        ∀ tk, R (.ok (.ret (.bool (lexLe (ns.drop i) (ms.drop i))))) { s with toks := tk }) := by
  have hnx := hx.length
  have hny := hy.length
  induction k with
  | zero =>
    intro i hk prog w A R s h
    obtain ⟨hp, g, d, tk, os⟩ := s; obtain ⟨hl, hb, h⟩ := h
    wp_walk using wpAny_loadPart' hl, wpAny_loadPart' hb
    have hi1 : xs.toArray[((i : Nat) : Int).toNat]? = none := by simp; omega
    have hi2 : ys.toArray[((i : Nat) : Int).toNat]? = none := by simp; omega
    have hd : ns.drop i = [] := List.drop_of_length_le (by omega)
    rw [hd] at h
    rw [hi1, hi2]
    wp_walk using wpAny_loadPart' hl, wpAny_loadPart' hb
    show R (.ok (.ret (.bool (decide (xs.toArray.size ≤ ys.toArray.size))))) _
    rw [List.size_toArray, List.size_toArray, decide_eq_true (by omega : xs.length ≤ ys.length)]
    exact h tk
  | succ k ih =>
    intro i hk prog w A R s h
    obtain ⟨hp, g, d, tk, os⟩ := s; obtain ⟨hl, hb, h⟩ := h
    wp_walk using wpAny_loadPart' hl, wpAny_loadPart' hb
    have hlt : i < xs.length := by omega
    have hlt2 : i < ys.length := by omega
    obtain ⟨t1, e1⟩ := hx.int_at i _ (List.getElem?_eq_getElem hlt)
    obtain ⟨t2, e2⟩ := hy.int_at i _ (List.getElem?_eq_getElem hlt2)
    have hi1 : xs.toArray[((i : Nat) : Int).toNat]? = some (.int (ns.getD i 0) t1) := by rw [← e1]; simp [hlt]
    have hi2 : ys.toArray[((i : Nat) : Int).toNat]? = some (.int (ms.getD i 0) t2) := by rw [← e2]; simp [hlt2]
    have hd : ns.drop i = ns.getD i 0 :: ns.drop (i + 1) := by
      rw [List.drop_eq_getElem_cons (by omega)]; simp [show i < ns.length by omega]
    have hd2 : ms.drop i = ms.getD i 0 :: ms.drop (i + 1) := by
      rw [List.drop_eq_getElem_cons (by omega)]; simp [show i < ms.length by omega]
    have hc : ((i : Int) + 1) = ((i + 1 : Nat) : Int) := by push_cast; rfl
    rw [hd, hd2, lexLe] at h
    rw [hi1, hi2]
    refine wpAny_bind (EqGives.int _ _ _ _ prog w _ _ _ _ ?_)
    by_cases hb' : ns.getD i 0 = ms.getD i 0
    · rw [if_pos hb'] at h
      have hbt : (ns.getD i 0 == ms.getD i 0) = true := beq_iff_eq.mpr hb'
      rw [hbt]
      wp_walk
      rw [hc]
      exact ⟨plainId_quiet MeetsSeq3.plain_eq_loop _, codeAny_builtin MeetsSeq3.entry_eq_loop (by
        rw [Around.under_plainId MeetsSeq3.plain_eq_loop _]
        exact ih (i + 1) (by rw [Nat.sub_add_eq, hk]; rfl) prog w A R _ ⟨hl, hb, h⟩)⟩
    · rw [if_neg hb'] at h
      have hbf : (ns.getD i 0 == ms.getD i 0) = false := beq_eq_false_iff_ne.mpr hb'
      rw [hbf]
      wp_walk using wpAny_loadPart' hl, wpAny_loadPart' hb
      rw [hi1, hi2]
      dsimp only
      refine wpAny_bind ?_
      show wpAny _ _ (compareOp .LtE (.int _ t1) (.int _ t2)) _ _ _
      refine le_int ?_
      exact wpAny_pure (h tk)
open MeetsSeq AutoSeq1 in
theorem list_le (l b : Addr) (xs ys : List Value) (ns ms : List Int) (hx : IntsAre xs ns) (hy : IntsAre ys ms) (n n2 : Nat) (hsz : xs.length = ys.length) :
    Meets (Builtin.«list.__le__» ⟨[.ref l, .ref b], []⟩)
      (fun _ R s => s.heap.get? l = some { cls := .type "list", dict := none, data := .seq xs.toArray n, slots := #[] } ∧ s.heap.get? b = some { cls := .type "list", dict := none, data := .seq ys.toArray n2, slots := #[] } ∧
        ∀ tk, R (.ok (.ret (.bool (lexLe ns ms)))) { s with toks := tk }) := by
  intro prog w A R s h
  obtain ⟨hp, g, d, tk, os⟩ := s; obtain ⟨hl, hb, h⟩ := h
  have f3 := AutoSeq1.sub_list_list
  wp_walk using wpAny_loadPart' hl, wpAny_loadPart' hb
  exact ⟨plainId_quiet MeetsSeq3.plain_eq_loop _, codeAny_builtin MeetsSeq3.entry_eq_loop (by
    rw [Around.under_plainId MeetsSeq3.plain_eq_loop _]
    exact le_loop l b xs ys ns ms hx hy n n2 hsz _ 0 rfl prog w A R _ ⟨hl, hb, by simpa using h⟩)⟩
theorem le_lists {prog : Program} {w : World} {A : Around} {E : Value → Shared → Prop} {s : Shared} {l b : Addr} {xs ys : List Value} {ns ms : List Int} {n n2 : Nat} {Q : Value → Shared → Prop} (hx : IntsAre xs ns) (hy : IntsAre ys ms) (hsz : ns.length = ms.length)
    (hl : s.heap.get? l = some (W.listOf (List.toArray xs) n)) (hb : s.heap.get? b = some (W.listOf (List.toArray ys) n2)) (hu : A.units < cLine) (h : ∀ tk, Q (.bool (lexLe ns ms)) { s with toks := tk }) :
    wpAny (model prog w) A (compareOp .LtE (.ref l) (.ref b)) Q E s := by
  show wpAny _ _ (richCompare .LtE _ _) Q E s
  exact richCompare_meets_room (op := .LtE) ⟨_, hl, rfl⟩ ⟨_, hb, rfl⟩ PySem.F.slot_list_le PySem.F.entry_list_le (PySem.F.args_list_le_2 _ _) (list_le l b xs ys ns ms hx hy n n2 (by rw [hx.length, hy.length, hsz])) ⟨hl, hb, fun tk => ⟨by simp, h tk⟩⟩ hu


end
section
theorem cn_blt {M : Model} {A : Around} {K : Frag} {mg mb : Str → Option Value} {p : Program} {loose : List Str} {mean : ExcName → Option Value} {g : Heap} {E : Value → Shared → Prop} {s : Shared} {env : Env} {scope : Scope} {cl : List (Str × Addr)} {C : Addr} {x : Str} {pos : Pos} {v : Value} {m : Str → Option Value} {Q : Value → Shared → Prop} (F : Fr g C s.heap m) (X : K.In g) (T : Top p loose mean mg mb g)
    (e : nsIn K mainGlobals x = some none) (hv : bootBuiltins x = some v) (hn : x ≠ "__name__") (h : Q v s)
    (hk : scope.kind = .function := by rfl) (hx : (compEnvC scope cl C env).kindOf x = some .globalImplicit := by rfl) (hg : env.globals = mainGlobals := by rfl) (hb : env.builtins = builtinsNs := by rfl) (hd : (x == ("__debug__" : Str)) = false := by decide) : wpAny M A (eval (.Name x pos) (compEnvC scope cl C env)) Q E s :=
  Name_function_global (env := compEnvC scope cl C env) (by simpa [compEnvC, relabel] using hk) hx (loadGlobal_builtin (env := compEnvC scope cl C env) (by show Heap.Ns _ env.globals _; rw [hg]; exact T.g.keeps F.keep) (mg_none_of X T.g e) (by show Heap.Ns _ env.builtins _; rw [hb]; exact T.b.keeps F.keep) ((T.builtins x hn).trans hv) h) hd
theorem five_ways {k : Int} (h0 : 0 ≤ k) (h1 : k < 5) : k = 0 ∨ k = 1 ∨ k = 2 ∨ k = 3 ∨ k = 4 := by omega
/-- five figures to the base four -/
noncomputable def digF (x : Int) : List Int := (List.range 5).map fun k => ((x.fdiv (4 ^ k)).fmod 4)
theorem ints_of {us : List Value} {f : Nat → Int} {n : Nat} (hl : us.length = n) (h : ∀ j : Nat, j < n → ∃ y, us[j]? = some y ∧ ∃ t, y = Value.int (f j) t) : IntsAre us ((List.range n).map f) := by
  induction n generalizing us f with
  | zero => cases us with | nil => exact .nil | cons _ _ => cases hl
  | succ n ih =>
    cases us with
    | nil => cases hl
    | cons v r =>
      obtain ⟨y, hy, t, rfl⟩ := h 0 (Nat.succ_pos _)
      cases hy
      rw [List.range_succ_eq_map, List.map_cons, List.map_map]
      refine .cons _ _ (ih (by simpa using hl) fun j hj => ?_)
      obtain ⟨y, hy, t, rfl⟩ := h (j + 1) (Nat.succ_lt_succ hj)
      exact ⟨_, by simpa using hy, t, rfl⟩
noncomputable def RowOf (v : Value) (o : Obj) : Prop := ∃ x t vt c, v = .int x t ∧ o = listOf (List.toArray vt) c ∧ IntsAre vt (digF x)
theorem textsEval : ∀ {w : World} {A : Around} {s : Shared} {G : Heap} {L fa sc : Addr} {m : Str → Option Value} {news : List (Addr × Obj)} {vs : List Value} {ns : List Int} {p : Program} {loose : List Str} {mean : ExcName → Option Value} {mg mb : Str → Option Value} {Q : Value → Shared → Prop} {E : Value → Shared → Prop}
    (X : (heapK w.params).In G) (T : Top p loose mean mg mb G) (F : Fr G L s.heap (kstB m [("script", .ref sc)])) (N : News G L s.heap news) (hS : G.IsList sc vs.toArray) (hI : IntsAre vs ns) (h63 : ns.length ≤ 63) (hh : A.handled = none) 
    (hQ : ∀ D us c rows xs h' tk, Fr G L h' (kstB m [("script", .ref sc)]) → News G L h' ((D, listOf (List.toArray us) c) :: (news ++ rows)) → (∀ p ∈ news, p.1 ≠ D) → (∀ q ∈ rows, q.1 ≠ D) → (∀ q ∈ rows, ∀ p ∈ news, p.1 ≠ q.1) → us = rows.map (fun q => Value.ref q.1) →
      xs = (ns.drop 1).take 3 ++ [0, 1023, 228] → rows.length = xs.length → (∀ (j : Nat) (q : Addr × Obj), rows[j]? = some q → ∃ vt c, q.2 = listOf (List.toArray vt) c ∧ IntsAre vt (digF (xs.getD j 0))) → Q (.ref D) { s with heap := h', toks := tk }),
    wpAny (model P.row.prog w) A (eval (valOf (nthL 6 lawB)) (lawEnv L fa)) Q E s := by
  k_with_none
  k_with "assign Tuple" => ((k_here; (with_reducible show wpAny _ _ (assign (Expr.Tuple _ _ _) _ (Value.ref _)) _ _ _); k_dflt (refine' kun_list ?k1 ?k2 ?k3 ?k4 ?k5 ?k6 ?_; (case k1 => k_asm); (case k2 => k_asm); (case k3 => (first | (with_reducible assumption) | exact IsList.stays (by assumption) (Fr.keep (by assumption)) | exact News.isList (by k_asm) (by k_mem))); (case k4 => exact rfl); (case k5 => exact rfl); (case k6 => exact rfl); k_whole); intro h' F' N'; (try k_sweep)))
  k_with "eval Name" => (k_dflt (first
  | (refine' cn_loc ?F ?v ?_ ?a ?b ?c; (case F => assumption); (case v => assumption); (case a => exact rfl); (case b => exact rfl); (case c => decide); k_whole)
  | (refine' cn_cell ?c ?o ?d ?_ ?a ?b ?e; (case a => rfl); (case b => rfl); (case e => decide); (case c => rfl); (case o => assumption); (case d => assumption); k_whole)
  | (refine' cn_blt ?F ?X ?T ?e ?v ?n ?_ ?a ?b ?g ?h ?d; (case F => assumption); (case X => assumption); (case T => assumption); (case e => k_is); (case v => boot_fast); (case n => decide); (case a => rfl); (case b => rfl); (case g => rfl); (case h => rfl); (case d => decide); k_whole)))
  w_top off
  k_fill
  intro w A s G L fa sc m news vs ns p loose mean mg mb Q E X T F N hS hI h63 hh hQ
  have e1 : valOf (nthL 6 lawB) = .ListComp (.ListComp (.BinOp _ _ _ _) [⟨.Name _ _, _, [], _⟩] ⟨_, _, _, _, _⟩ _) [⟨.Name _ _, .BinOp _ _ _ _, [], _⟩] ⟨_, _, _, _, _⟩ _ := rfl
  have e2 : lawScope = ⟨.function, _, _, _, _⟩ := rfl
  rw [e1]
  clear e1
  dsimp only [lawEnv]
  rw [e2]
  clear e2
  refine compX (h₀ := G) (L := L) RowOf ?hclos ?hkind ?hpc ?hcf ?hnames ?hx ?h
  case hclos => rfl
  case hkind => rfl
  case hpc => intro h; rfl
  case hcf => intro n; rfl
  case hnames => decide
  case hx => intro C Ca; rfl
  case h =>
    dsimp only [kstB] at F
    k_steps
    rename IntsAre _ (_ ++ _) => hI2
    rename Fr _ _ _ _ => F1
    rename News _ _ _ _ => N1
    refine src_list hh (isList_of (N1 _ (.head _)).1) F1 (news := news) (fun p hp => N1 p (.tail _ (.tail _ (.tail _ hp)))) fun it h' S => ?_
    have hlen := hI2.length
    have hl4 : (ns.drop 1).take (min 4 ns.length - 1) = (ns.drop 1).take 3 := by
      have hd9 := List.length_drop (i := 1) (l := ns)
      by_cases h4 : 4 ≤ ns.length
      · rw [Nat.min_eq_left h4]
      · rw [List.take_of_length_le (by rw [hd9, Nat.min_eq_right (Nat.le_of_lt (Nat.lt_of_not_le h4))]; exact Nat.le_refl _), List.take_of_length_le (by rw [hd9]; exact Nat.le_trans (Nat.sub_le _ _) (Nat.le_of_lt_succ (Nat.lt_of_not_le h4)))]
    rw [hl4] at hI2 hlen
    have hl9 : ((ns.drop 1).take 3 ++ [0, 1023, 228]).length ≤ 6 := by
      have h1 : ((ns.drop 1).take 3).length ≤ 3 := by rw [List.length_take]; exact Nat.min_le_left _ _
      rw [List.length_append]
      exact Nat.add_le_add_right h1 3
    refine ⟨_, _, _, _, _, S, by rw [List.size_toArray]; omega, ?_, ?_⟩
    · intro g C Ca oC i v s₃ m₃ E' hst hi hv F3 hCa hoC hne hg0
      have Xg := Frag.In.keeps X fun b o e => hst b o (F1.keep b o e)
      have Tg := T.keeps fun b o e => hst b o (F1.keep b o e)
      clear X T F1 N1 hQ S
      have N3 : News g C s₃.heap [(Ca, oC)] := fun p hp => by
        rw [List.mem_singleton.mp hp]; exact ⟨hCa, hne.symm, hg0⟩
      have hv2 : ∃ x t, v = .int x t := by
        obtain ⟨n9, t9, e9, _⟩ := IntsAre.at hI2 i v (by simpa using hv)
        exact ⟨n9, t9, e9⟩
      obtain ⟨x, t, rfl⟩ := hv2
      refine compR (h₀ := g) (L := C) (fun k y => ∃ t, y = .int ((x.fdiv (4 ^ k.toNat)).fmod 4) t) (cl := [("number", Ca)]) ?hclos ?hcell ?hkind ?hnames ?hx hh ?h
      case hclos => rfl
      case hcell => decide
      case hkind => rfl
      case hnames => decide
      case hx => rfl
      case h =>
        k_steps
        rename IsRange _ _ _ _ _ _ _ _ => hR
        rename (∀ (b : Addr) (o : Obj), _ → _) => hkp
        rename Fr _ _ _ _ => F5
        rename News _ _ _ _ => N5
        refine ⟨_, 0, 5, _, _, _, _, _, rfl, hR, by decide, by decide, by decide, F5, N5, ?_, ?_⟩
        · intro g2 C2 k t2 s₅ m₅ E5 hst5 hk0 hk1 F6 hm6
          have Xg2 := Frag.In.keeps Xg fun b o e => hst5 b o (F5.keep b o e)
          have Tg2 := Tg.keeps fun b o e => hst5 b o (F5.keep b o e)
          have N6 : News g2 C2 s₅.heap [] := News.nil
          have hCa6 : s₅.heap.get? Ca = some oC := F6.keep _ _ (hst5 _ _ (N5 _ (.head _)).1)
          clear N5 F5 Xg Tg
          have hk2 : k < 5 := by omega
          clear hR hI2 hlen hst hst5 hk1
          have hp : 1 ≤ (4 : Int) ^ k.toNat ∧ (4 : Int) ^ k.toNat ≤ 256 := by
            rcases five_ways hk0 hk2 with rfl | rfl | rfl | rfl | rfl <;> decide
          k_steps
          exact ⟨_, _, rfl, fun _ _ e => e⟩
        · intro D us c h5 tk5 F6 N6 hD hD0 hst6 hl6 hY
          have hr0 : s₃.heap.get? D = none := by
            cases q : s₃.heap.get? D with
            | none => rfl
            | some o => have := hkp _ _ q; rw [hD0] at this; cases this
          refine ⟨D, _, rfl, hr0, (N6 _ (.head _)).1, ⟨x, t, us, c, rfl, rfl, ints_of hl6 fun j hj => ?_⟩, _, _, rfl, fun b o e => hst6 b o (hkp b o e)⟩
          obtain ⟨y, hy, t6, rfl⟩ := hY j hj
          exact ⟨_, hy, t6, by rw [Int.zero_add, Int.toNat_natCast]⟩
    · intro D rows c h2 tk2 F2 N2 hD1 hD2 hD3 hst2 hl2 hrel
      refine hQ D _ c rows _ h2 tk2 F2 N2 hD1 hD2 hD3 rfl rfl (by rw [hl2, List.size_toArray, hlen]) fun j q hq => ?_
      obtain ⟨v, hv, x, t, vt, c', rfl, hq2, hi2⟩ := hrel j q hq
      obtain ⟨t9, e9⟩ := IntsAre.int_at hI2 j _ (by simpa using hv)
      cases e9
      exact ⟨vt, c', hq2, hi2⟩


end
section
local macro_rules | `(tactic| walk_at "eval Name") => `(tactic| k_dflt (first
  | (refine' cn_loc ?F ?v ?_ ?a ?b ?c; (case F => assumption); (case v => assumption); (case a => exact rfl); (case b => exact rfl); (case c => decide); k_whole)
  | (refine' cn_cell ?c ?o ?d ?_ ?a ?b ?e; (case a => rfl); (case b => rfl); (case e => decide); (case c => rfl); (case o => assumption); (case d => assumption); k_whole)
  | (refine' cn_blt ?F ?X ?T ?e ?v ?n ?_ ?a ?b ?g ?h ?d; (case F => assumption); (case X => assumption); (case T => assumption); (case e => k_is); (case v => boot_fast); (case n => decide); (case a => rfl); (case b => rfl); (case g => rfl); (case h => rfl); (case d => decide); k_whole)))
section
/-- the texts stand in the heap -/
structure TextsAt (h : Heap) (tx : Addr) (n : Nat) (T : Nat → List Int) : Prop where
  ex : ∃ us c, h.get? tx = some (W.listOf (List.toArray us) c) ∧ us.length = n ∧ ∀ j, j < n → ∃ r vt c, us[j]? = some (Value.ref r) ∧ h.get? r = some (W.listOf (List.toArray vt) c) ∧ IntsAre vt (T j)
theorem TextsAt.stays {h h' : Heap} {tx : Addr} {n : Nat} {T : Nat → List Int} (x : TextsAt h tx n T) (st : h.StaysIn h') : TextsAt h' tx n T := by
  obtain ⟨us, c, h1, h2, h3⟩ := x.ex
  exact ⟨us, c, st _ _ h1, h2, fun j hj => by obtain ⟨r, vt, c, a, b, d⟩ := h3 j hj; exact ⟨r, vt, c, a, st _ _ b, d⟩⟩
theorem textsItem {prog : Program} {w : World} {A : Around} {E : Value → Shared → Prop} {s : Shared} {value slice : Expr} {tx : Addr} {n : Nat} {T : Nat → List Int} {k : Int} {u : Tok} {Q : Value → Shared → Prop} (hT : TextsAt s.heap tx n T) (h0 : 0 ≤ k) (hk : k < n) (hn : n ≤ 1000)
    (h : ∀ r vt c, s.heap.get? r = some (W.listOf (List.toArray vt) c) → IntsAre vt (T k.toNat) → Q (.ref r) s)
    (hs : subscripted slice false (.ref tx) (.int k u) = operate [.ref tx, .int k u] (getItem (.ref tx) (.int k u)) := by with_unfolding_all rfl) (hg : ∀ r, letTemporaryGo value (.ref tx) r = pure () := by intro _; with_unfolding_all rfl) :
    wpAny (model prog w) A (subscriptTail value slice (.ref tx) (.int k u)) Q E s := by
  obtain ⟨us, c, h1, h2, h3⟩ := hT.ex
  obtain ⟨r, vt, c', a, b, d⟩ := h3 k.toNat (by omega)
  exact item_listL (isList_of h1) h0 (by omega) a (h r vt c' b d) hs hg
theorem ints_filter : ∀ {vs : List Value} {ns : List Int}, IntsAre vs ns → ∀ (p : Value → Bool) (q : Int → Bool), (∀ k t, p (.int k t) = q k) → (vs.filter p).length = (ns.filter q).length := by
  intro vs ns I p q h
  induction I with
  | nil => rfl
  | cons k t r ih =>
    rw [List.filter_cons, List.filter_cons, h k t]
    cases q k with
    | true => simp only [if_true, List.length_cons, ih]
    | false => simp only [Bool.false_eq_true, if_false, ih]
noncomputable def orderLc (s : Stmt) : Expr := atX 1 (subX (atX 1 (subX (atX 0 (subS s)))))
theorem orderComp : ∀ {w : World} {A : Around} {s : Shared} {G : Heap} {L fa tx od : Addr} {m : Str → Option Value} {news : List (Addr × Obj)} {o2 o3 o4 : Obj} {ords : List Value} {os : List Int} {pl : Int} {t2 : Tok} {n : Nat} {T : Nat → List Int} {p : Program} {loose : List Str} {mean : ExcName → Option Value} {mg mb : Str → Option Value} {Q : Value → Shared → Prop} {E : Value → Shared → Prop}
    (X : (heapK w.params).In G) (TT : Top p loose mean mg mb G) (F : Fr G L s.heap m) (N : News G L s.heap news) (hm2 : (L + 2, o2) ∈ news) (h2 : o2.data = .cell (some (.int pl t2))) (hm3 : (L + 3, o3) ∈ news) (h3 : o3.data = .cell (some (.ref tx))) (hm4 : (L + 4, o4) ∈ news) (h4 : o4.data = .cell (some (.ref od)))
    (hod : s.heap.IsList od ords.toArray) (hI : IntsAre ords os) (hos : ∀ x ∈ os, 0 ≤ x ∧ x < n) (hpl : 0 ≤ pl ∧ pl < n) (hn : n ≤ 1000) (hol : os.length ≤ 1000) (hT : TextsAt s.heap tx n T) (hT5 : ∀ j, (T j).length = 5) (hu : A.units < cLine) (hh : A.handled = none) 
    (hQ : ∀ D us c h' tk, Fr G L h' m → News G L h' ((D, W.listOf (List.toArray us) c) :: news) → (∀ p ∈ news, p.1 ≠ D) → s.heap.StaysIn h' → us.length = (os.filter fun k => lexLe (T k.toNat) (T pl.toNat)).length → Q (.ref D) { s with heap := h', toks := tk }),
    wpAny (model P.row.prog w) A (eval (orderLc (nthL 0 (forBody (nthL 8 lawB)))) (lawEnv L fa)) Q E s := by
  k_with_none
  k_with "assign Tuple" => ((k_here; (with_reducible show wpAny _ _ (assign (Expr.Tuple _ _ _) _ (Value.ref _)) _ _ _); k_dflt (refine' kun_list ?k1 ?k2 ?k3 ?k4 ?k5 ?k6 ?_; (case k1 => k_asm); (case k2 => k_asm); (case k3 => (first | (with_reducible assumption) | exact IsList.stays (by assumption) (Fr.keep (by assumption)) | exact News.isList (by k_asm) (by k_mem))); (case k4 => exact rfl); (case k5 => exact rfl); (case k6 => exact rfl); k_whole); intro h' F' N'; (try k_sweep)))
  w_top off
  k_fill
  intro w A s G L fa tx od m news o2 o3 o4 ords os pl t2 n T p loose mean mg mb Q E X TT F N hm2 h2 hm3 h3 hm4 h4 hod hI hos hpl hn hol hT hT5 hu hh hQ
  have e1 : orderLc (nthL 0 (forBody (nthL 8 lawB))) = .ListComp (.Name _ _) [⟨.Name _ _, .Name _ _, [.Compare (.Subscript (.Name _ _) (.Name _ _) _) [_] [.Subscript (.Name _ _) (.Name _ _) _] _], _⟩] ⟨_, _, _, _, _⟩ _ := rfl
  have e2 : lawScope = ⟨.function, _, _, _, _⟩ := rfl
  rw [e1]
  clear e1
  dsimp only [lawEnv]
  rw [e2]
  clear e2
  refine compL (h₀ := G) (L := L) (fun v => match v with | .int k _ => lexLe (T k.toNat) (T pl.toNat) | _ => false) (fun _ _ => True) (cl := [("texts", L + 3), ("place", L + 2)]) ?hclos ?hcell ?hkind ?hnames ?hx ?h
  case hclos => rfl
  case hcell => decide
  case hkind => rfl
  case hnames => decide
  case hx => rfl
  case h =>
    k_steps
    refine src_list hh hod F N fun it h' S => ?_
    have hzl := hI.length
    have hz1 : (1000 : Nat) ≤ sizeLine := by decide
    refine ⟨_, _, _, _, _, S, by rw [List.size_toArray]; omega, ?_, ?_, ?_⟩
    · intro g C i v s₃ m₃ E' hst hi hv F3 hm3'
      obtain ⟨k, t, rfl, hk9⟩ := IntsAre.at hI i v (by simpa using hv)
      have hkb := hos k (List.mem_of_getElem? hk9)
      have Xg := Frag.In.keeps X fun b o e => hst b o (F.keep b o e)
      have Tg := TT.keeps fun b o e => hst b o (F.keep b o e)
      have hk3 : s.heap.StaysIn s₃.heap := fun b o e => F3.keep _ _ (hst b o e)
      have N3 : News g C s₃.heap [] := News.nil
      have c2 := hk3 _ _ (N _ hm2).1
      have c3 := hk3 _ _ (N _ hm3).1
      have hT3 := hT.stays hk3
      clear F N S hQ X TT hT hod
      rw [List.forIn_cons]
      refine wpAny_bind ?_
      rw [if_pos rfl]
      refine wpAny_bind ?_
      k_steps
      refine textsItem hT3 hkb.1 hkb.2 hn fun r1 v1 n1 g1 i1 => ?_
      k_steps
      refine textsItem hT3 hpl.1 hpl.2 hn fun r2 v2 n2 g2 i2 => ?_
      k_steps
      refine le_lists i1 i2 (by rw [hT5, hT5]) g1 g2 hu fun tk9 => ?_
      refine wpAny_truthy_bool ?_
      refine wpAny_pure ?_
      dsimp only
      rw [List.forIn_nil]
      exact wpAny_pure ⟨rfl, _, _, rfl, fun _ _ e => e⟩
    · rintro g C i v s₃ m₃ E' hst ⟨hi, hv⟩ F3 hm3'
      exact cn_loc F3 hm3' ⟨trivial, _, _, rfl, fun _ _ e => e⟩
    · intro D us c h2 tk2 vs F2 N2 hD hD0 hst2 hl2 hP hpair
      refine hQ D us c h2 tk2 F2 N2 hD hst2 ?_
      have hvs : vs = ords := by
        refine List.ext_getElem? fun j => ?_
        by_cases hj : j < vs.length
        · have := (hP j _ (List.getElem?_eq_getElem hj)).2
          rw [List.getElem?_eq_getElem hj, ← this]; simp
        · rw [List.getElem?_eq_none (by omega), List.getElem?_eq_none (by rw [List.size_toArray] at hl2; omega)]
      rw [← (paired_at hpair).1, hvs]
      exact ints_filter hI _ _ fun _ _ => rfl


end
end
section
section
variable {d : Addr} {tl : List (Addr × Obj)} {p1 p2 p3 p4 p5 p6 p7 p8 : Prop}
theorem tlA0 (h : AllLt d tl) : ∀ p ∈ tl, p.1 ≠ d := by
  induction tl with
  | nil => exact fun _ q => (nomatch q)
  | cons x r ih =>
    intro p hp
    rcases List.mem_cons.mp hp with rfl | hp
    · exact Nat.ne_of_lt h.1
    · exact ih h.2 p hp
theorem tlB0 (h : AllNe d tl) : ∀ p ∈ tl, p.1 ≠ d := by
  induction tl with
  | nil => exact fun _ q => (nomatch q)
  | cons x r ih =>
    intro p hp
    rcases List.mem_cons.mp hp with rfl | hp
    · exact h.1
    · exact ih h.2 p hp
theorem tlA1 (h : p1 ∧ AllLt d tl) : ∀ p ∈ tl, p.1 ≠ d := tlA0 h.2
theorem tlA2 (h : p1 ∧ p2 ∧ AllLt d tl) : ∀ p ∈ tl, p.1 ≠ d := tlA0 h.2.2
theorem tlA3 (h : p1 ∧ p2 ∧ p3 ∧ AllLt d tl) : ∀ p ∈ tl, p.1 ≠ d := tlA0 h.2.2.2
theorem tlA4 (h : p1 ∧ p2 ∧ p3 ∧ p4 ∧ AllLt d tl) : ∀ p ∈ tl, p.1 ≠ d := tlA0 h.2.2.2.2
theorem tlA5 (h : p1 ∧ p2 ∧ p3 ∧ p4 ∧ p5 ∧ AllLt d tl) : ∀ p ∈ tl, p.1 ≠ d := tlA0 h.2.2.2.2.2
theorem tlA6 (h : p1 ∧ p2 ∧ p3 ∧ p4 ∧ p5 ∧ p6 ∧ AllLt d tl) : ∀ p ∈ tl, p.1 ≠ d := tlA0 h.2.2.2.2.2.2
theorem tlA7 (h : p1 ∧ p2 ∧ p3 ∧ p4 ∧ p5 ∧ p6 ∧ p7 ∧ AllLt d tl) : ∀ p ∈ tl, p.1 ≠ d := tlA0 h.2.2.2.2.2.2.2
theorem tlA8 (h : p1 ∧ p2 ∧ p3 ∧ p4 ∧ p5 ∧ p6 ∧ p7 ∧ p8 ∧ AllLt d tl) : ∀ p ∈ tl, p.1 ≠ d := tlA0 h.2.2.2.2.2.2.2.2
theorem tlB1 (h : p1 ∧ AllNe d tl) : ∀ p ∈ tl, p.1 ≠ d := tlB0 h.2
theorem tlB2 (h : p1 ∧ p2 ∧ AllNe d tl) : ∀ p ∈ tl, p.1 ≠ d := tlB0 h.2.2
theorem tlB3 (h : p1 ∧ p2 ∧ p3 ∧ AllNe d tl) : ∀ p ∈ tl, p.1 ≠ d := tlB0 h.2.2.2
theorem tlB4 (h : p1 ∧ p2 ∧ p3 ∧ p4 ∧ AllNe d tl) : ∀ p ∈ tl, p.1 ≠ d := tlB0 h.2.2.2.2
theorem tlB5 (h : p1 ∧ p2 ∧ p3 ∧ p4 ∧ p5 ∧ AllNe d tl) : ∀ p ∈ tl, p.1 ≠ d := tlB0 h.2.2.2.2.2
theorem tlB6 (h : p1 ∧ p2 ∧ p3 ∧ p4 ∧ p5 ∧ p6 ∧ AllNe d tl) : ∀ p ∈ tl, p.1 ≠ d := tlB0 h.2.2.2.2.2.2
end
/-- the texts stand in the ledger -/
structure TextsIn (tl : List (Addr × Obj)) (tx : Addr) (n : Nat) (T : Nat → List Int) : Prop where
  ex : ∃ us c, (tx, W.listOf (List.toArray us) c) ∈ tl ∧ us.length = n ∧ ∀ j, j < n → ∃ r vt c, us[j]? = some (Value.ref r) ∧ (r, W.listOf (List.toArray vt) c) ∈ tl ∧ IntsAre vt (T j)
theorem TextsIn.at {tl news : List (Addr × Obj)} {tx : Addr} {n : Nat} {T : Nat → List Int} {G h : Heap} {L : Addr} (x : TextsIn tl tx n T) (N : News G L h news) (sub : ∀ p ∈ tl, p ∈ news) : TextsAt h tx n T := by
  obtain ⟨us, c, h1, h2, h3⟩ := x.ex
  exact ⟨us, c, (N _ (sub _ h1)).1, h2, fun j hj => let ⟨r, vt, c, a, b, d⟩ := h3 j hj; ⟨r, vt, c, a, (N _ (sub _ b)).1, d⟩⟩
theorem TextsIn.mono {tl tl' : List (Addr × Obj)} {tx : Addr} {n : Nat} {T : Nat → List Int} (x : TextsIn tl tx n T) (sub : ∀ p ∈ tl, p ∈ tl') : TextsIn tl' tx n T := by
  obtain ⟨us, c, h1, h2, h3⟩ := x.ex
  exact ⟨us, c, sub _ h1, h2, fun j hj => let ⟨r, vt, c, a, b, d⟩ := h3 j hj; ⟨r, vt, c, a, sub _ b, d⟩⟩
theorem textsLen {prog : Program} {w : World} {A : Around} {E : Value → Shared → Prop} {s : Shared} {tx : Addr} {n : Nat} {T : Nat → List Int} {Q : Value → Shared → Prop} (hT : TextsAt s.heap tx n T) (hn : n ≤ 1000)
    (h : ∀ t tk, Q (.int (n : Nat) t) { s with toks := tk }) : wpAny (model prog w) A (call (.builtin "len") [.ref tx]) Q E s := by
  obtain ⟨us, c, h1, h2, h3⟩ := hT.ex
  refine call_len_list (isList_of h1) (by rw [List.size_toArray]; omega) ?_
  rw [List.size_toArray, h2]
  exact h _ _
/-- the comparison of texts -/
noncomputable def ltT (T : Nat → List Int) (p k : Nat) : Bool := !lexLe (T k) (T p)
theorem insAt_mem {lt : Nat → Nat → Bool} {p : Nat} {o : List Nat} {x : Nat} (h : x ∈ insAt lt p o) : x = p ∨ x ∈ o := by
  unfold insAt at h
  rcases List.mem_append.mp h with h | h
  · exact .inr (List.mem_of_mem_take h)
  · rcases List.mem_cons.mp h with h | h
    · exact .inl h
    · exact .inr (List.mem_of_mem_drop h)
theorem insO_lt {lt : Nat → Nat → Bool} : ∀ {n x : Nat}, x ∈ insO lt n → x < n
  | 0, _, h => by cases h
  | n + 1, x, h => by
    rcases insAt_mem h with h | h
    · omega
    · have := insO_lt h; omega
theorem insO_len {lt : Nat → Nat → Bool} : ∀ n : Nat, (insO lt n).length = n
  | 0 => rfl
  | n + 1 => by
    have h1 := List.length_filter_le (fun k => !(lt n k)) (insO lt n)
    rw [insO, insAt, List.length_append, List.length_cons, List.length_take, List.length_drop, insO_len n] at *
    omega
theorem ins_ints {T : Nat → List Int} {i : Nat} {ords : List Value} {t : Tok} {k : Nat} (hI : IntsAre ords ((insO (ltT T) i).map fun k : Nat => (k : Int))) (hk : k = (((insO (ltT T) i).map fun k : Nat => (k : Int)).filter fun k => lexLe (T k.toNat) (T (i : Int).toNat)).length) :
    IntsAre (kl_ins ords (k : Nat) (.int (i : Nat) t)) ((insO (ltT T) (i + 1)).map fun k : Nat => (k : Int)) := by
  have e1 : k = ((insO (ltT T) i).filter fun k => !(ltT T i k)).length := by
    rw [hk, List.filter_map, List.length_map]
    congr 1
    refine List.filter_congr fun x _ => ?_
    show lexLe (T (x : Int).toNat) (T (i : Int).toNat) = !(ltT T i x)
    rw [Int.toNat_natCast, Int.toNat_natCast]
    unfold ltT
    rw [Bool.not_not]
  have e2 : k ≤ ords.length := by
    rw [hI.length, List.length_map, e1]; exact List.length_filter_le _ _
  have e3 : kl_ins ords (k : Nat) (.int (i : Nat) t) = ords.take k ++ .int (i : Nat) t :: ords.drop k := by
    unfold kl_ins
    rw [if_neg (by omega), Int.toNat_natCast, Nat.min_eq_left e2]
  rw [e3, insO, insAt, ← e1, List.map_append, List.map_cons, List.map_take, List.map_drop]
  exact (hI.take k).append (.cons _ _ (hI.drop k))


end
section
section
variable {prog : Program} {w : World} {A : Around} {E : Value → Shared → Prop} {s : Shared} {env : Env} {h₀ : Heap} {L : Addr} {target : Expr} {body : List Stmt} {Q : Flow → Shared → Prop}
/-- for over a list that the call has made, any target -/
theorem forList {iter : Expr} {pos : Pos} (Mid : Value → Shared → Prop)
    (hiter : wpAny (model prog w) A (eval iter env) (Gets Mid) (fun _ _ => False) s)
    (hmid : ∀ v s₁, Mid v s₁ → ∃ r vs c m₀ news, v = .ref r ∧ A.handled = none ∧ Fr h₀ L s₁.heap m₀ ∧ News h₀ L s₁.heap ((r, W.listOf (List.toArray vs) c) :: news) ∧
      ∃ J : Nat → (Str → Option Value) → List (Addr × Obj) → Prop, J 0 m₀ news ∧
      (∀ i v m₁ news₁ h tk I it, vs[i]? = some v → J i m₁ news₁ → Fr h₀ L h m₁ → News h₀ L h ((I, it) :: (r, W.listOf (List.toArray vs) c) :: news₁) → (∀ p ∈ (r, W.listOf (List.toArray vs) c) :: news₁, p.1 ≠ I) →
        wpAny (model prog w) A (assign target env v) (fun _ s₂ => wpAny (model prog w) A (execs body env) (LoopOut Q fun s₃ => ∃ h' tk' m' nx, s₃ = { s₁ with heap := h', toks := tk' } ∧ Fr h₀ L h' m' ∧ News h₀ L h' ((I, it) :: (r, W.listOf (List.toArray vs) c) :: nx) ∧ (∀ p ∈ nx, p.1 ≠ I) ∧ J (i + 1) m' nx)
          (fun _ _ => False) s₂) (fun _ _ => False) { s₁ with heap := h, toks := tk }) ∧
      (∀ m₁ news₁ h tk, J vs.length m₁ news₁ → Fr h₀ L h m₁ → News h₀ L h news₁ → Q .next { s₁ with heap := h, toks := tk }))
    (ht : ∀ I v, letOwnedTupleGo target (.ref I) v = pure () := by intro _ _; rfl)
    (hs : ∀ x, foldedSetIterable iter env x = pure x := by intro _; rfl) :
    wpAny (model prog w) A (exec (.For target iter body [] pos) env) Q (fun _ _ => False) s := by
  refine wpAny_For (wpAny_mono hiter (fun v s₁ hm => ?_) fun _ _ e => e) hs
  obtain ⟨r, vs, c, m₀, news, rfl, hh, F, N, J, hJ, turn, done⟩ := hmid v s₁ hm
  have hr := (N _ (.head _)).1
  refine wpAny_pyIter_list (isList_of hr) ?_
  have hI0 := next_is_new F
  have hIL : s₁.heap.objs.size ≠ L := Nat.ne_of_gt F.ns.lt
  have hrI : r ≠ s₁.heap.objs.size := Nat.ne_of_lt (Heap.lt_size hr)
  have WW := Walks.list (prog := prog) (w := w) hh s₁.heap.objs.size r hrI (List.toArray vs)
  rw [List.size_toArray] at WW
  refine loopW WW (fun i m nx => ∃ nx', nx = (r, W.listOf (List.toArray vs) c) :: nx' ∧ J i m nx') hI0 hIL ⟨⟨_, Heap.get?_push_size _ rfl, rfl, rfl⟩, (isList_of hr).push _⟩ (F.push _) (fun p hp => ⟨Heap.get?_push_of_some _ (N p hp).1, (N p hp).2⟩) (fun p hp => Nat.ne_of_lt (Heap.lt_size (N p hp).1)) ⟨news, rfl, hJ⟩ ?_ ?_ (ht _)
  · rintro i v m₁ _ h tk hin hv ⟨nx, rfl, hJi⟩ ⟨⟨it, hit, hc, hd⟩, _⟩ F' N' hNI
    have hv' : vs[i]? = some v := by simpa using hv
    refine wpAny_mono (turn i v m₁ nx h tk s₁.heap.objs.size it hv' hJi F' (fun p hp => ?_) hNI) (fun _ s₂ h₂ => wpAny_mono h₂ (fun f s₃ h₃ => ?_) fun _ _ e => e) fun _ _ e => e
    · rcases List.mem_cons.mp hp with rfl | hp
      · exact ⟨hit, hIL, hI0⟩
      · exact N' p hp
    · have key : (∃ h' tk' m' nx, s₃ = { s₁ with heap := h', toks := tk' } ∧ Fr h₀ L h' m' ∧ News h₀ L h' ((s₁.heap.objs.size, it) :: (r, W.listOf (List.toArray vs) c) :: nx) ∧ (∀ p ∈ nx, p.1 ≠ s₁.heap.objs.size) ∧ J (i + 1) m' nx) → (∃ h' tk' m' nx, s₃ = { s₁ with heap := h', toks := tk' } ∧ (h'.IsListIter s₁.heap.objs.size r (i + 1) ∧ h'.IsList r (List.toArray vs)) ∧ Fr h₀ L h' m' ∧ News h₀ L h' nx ∧ (∀ p ∈ nx, p.1 ≠ s₁.heap.objs.size) ∧ ∃ nx', nx = (r, W.listOf (List.toArray vs) c) :: nx' ∧ J (i + 1) m' nx') := by
        clear turn done hmid hiter
        rintro ⟨h3, tk3, m3, nx3, e3, a2, a3, a4, a5⟩
        exact ⟨h3, tk3, m3, (r, W.listOf (List.toArray vs) c) :: nx3, e3, ⟨⟨it, (a3 _ (.head _)).1, hc, hd⟩, isList_of (a3 _ (.tail _ (.head _))).1⟩, a2, fun p hp => a3 p (.tail _ hp), fun p hp => by
            rcases List.mem_cons.mp hp with rfl | hp
            · exact hrI
            · exact a4 p hp, nx3, rfl, a5⟩
      cases f with
      | next => exact key h₃
      | cont => exact key h₃
      | brk => exact h₃
      | ret v => exact h₃
  · rintro m₁ _ h tk ⟨nx, rfl, hJn⟩ F' N'
    exact done m₁ nx h tk hJn F' fun p hp => N' p (.tail _ hp)
end


end
section
section
variable {prog : Program} {w : World} {A : Around} {E : Value → Shared → Prop} {s : Shared} {env : Env} {h₀ : Heap} {L : Addr} {body : List Stmt} {Q : Flow → Shared → Prop}
/-- for over a list of objects that the call has made, a tuple as target -/
theorem forListT {iter : Expr} {elts : List Expr} {x1} {tpos pos : Pos} (Mid : Value → Shared → Prop)
    (hiter : wpAny (model prog w) A (eval iter env) (Gets Mid) (fun _ _ => False) s)
    (hmid : ∀ v s₁, Mid v s₁ → ∃ r vs c m₀ news, v = .ref r ∧ A.handled = none ∧ (∀ v ∈ vs, ∃ a, v = Value.ref a) ∧ Fr h₀ L s₁.heap m₀ ∧ News h₀ L s₁.heap ((r, W.listOf (List.toArray vs) c) :: news) ∧
      ∃ J : Nat → (Str → Option Value) → List (Addr × Obj) → Prop, J 0 m₀ news ∧
      (∀ i v m₁ news₁ h tk I it, vs[i]? = some v → J i m₁ news₁ → Fr h₀ L h m₁ → News h₀ L h ((I, it) :: (r, W.listOf (List.toArray vs) c) :: news₁) → (∀ p ∈ (r, W.listOf (List.toArray vs) c) :: news₁, p.1 ≠ I) →
        wpAny (model prog w) A (assign (.Tuple elts x1 tpos) env v) (fun _ s₂ => wpAny (model prog w) A (execs body env) (LoopOut Q fun s₃ => ∃ h' tk' m' nx, s₃ = { s₁ with heap := h', toks := tk' } ∧ Fr h₀ L h' m' ∧ News h₀ L h' ((I, it) :: (r, W.listOf (List.toArray vs) c) :: nx) ∧ (∀ p ∈ nx, p.1 ≠ I) ∧ J (i + 1) m' nx)
          (fun _ _ => False) s₂) (fun _ _ => False) { s₁ with heap := h, toks := tk }) ∧
      (∀ m₁ news₁ h tk, J vs.length m₁ news₁ → Fr h₀ L h m₁ → News h₀ L h news₁ → Q .next { s₁ with heap := h, toks := tk }))
    (hs : ∀ x, foldedSetIterable iter env x = pure x := by intro _; rfl) :
    wpAny (model prog w) A (exec (.For (.Tuple elts x1 tpos) iter body [] pos) env) Q (fun _ _ => False) s := by
  refine wpAny_For (wpAny_mono hiter (fun v s₁ hm => ?_) fun _ _ e => e) hs
  obtain ⟨r, vs, c, m₀, news, rfl, hh, hrefs, F, N, J, hJ, turn, done⟩ := hmid v s₁ hm
  have hr := (N _ (.head _)).1
  refine wpAny_pyIter_list (isList_of hr) ?_
  have hI0 := next_is_new F
  have hIL : s₁.heap.objs.size ≠ L := Nat.ne_of_gt F.ns.lt
  have hrI : r ≠ s₁.heap.objs.size := Nat.ne_of_lt (Heap.lt_size hr)
  generalize hIe : s₁.heap.objs.size = I at *
  have hLI : ∀ (h h' : Heap) m news, Fr h₀ L h m → News h₀ L h news → (∀ p ∈ news, p.1 ≠ I) → Heap.SameBut I h h' → Fr h₀ L h' m ∧ News h₀ L h' news := fun h h' m news F N hn hs => ⟨fr_wr F hI0 hIL fun b o hb e => hs.extBut b o (fun q => hb (List.mem_singleton.mpr q)) e, news_wr N hn fun b o hb e => hs.extBut b o (fun q => hb (List.mem_singleton.mpr q)) e⟩
  refine codeAny_forLoop_any (fun k s' => ∃ i h tk m₁ nx, i ≤ vs.length ∧ k = vs.length - i ∧ s' = { s₁ with heap := h, toks := tk } ∧ h.IsListIter I r i ∧ Fr h₀ L h m₁ ∧ News h₀ L h ((r, W.listOf (List.toArray vs) c) :: nx) ∧ (∀ p ∈ (r, W.listOf (List.toArray vs) c) :: nx, p.1 ≠ I) ∧ J i m₁ nx) ?_ vs.length
    ⟨0, _, _, m₀, news, Nat.zero_le _, rfl, rfl, ⟨_, hIe ▸ Heap.get?_push_size _ rfl, rfl, rfl⟩, F.push _, fun p hp => ⟨Heap.get?_push_of_some _ (N p hp).1, (N p hp).2⟩, fun p hp => by rw [← hIe]; exact Nat.ne_of_lt (Heap.lt_size (N p hp).1), hJ⟩
  rintro k s' ⟨i, h, tk, m₁, nx, hin, rfl, rfl, hit, F', N', hNI, hJi⟩
  by_cases hlt : i < vs.length
  · have hv : vs[i]? = some vs[i] := List.getElem?_eq_getElem hlt
    refine wpAny_pyNext_list_item hit (isList_of (N' _ (.head _)).1) (x := vs[i]) (by simp [hlt]) fun h' hit' hs' => ?_
    obtain ⟨F2, N2⟩ := hLI _ _ _ _ F' N' hNI hs'
    obtain ⟨a, ha⟩ := hrefs _ (List.getElem_mem hlt)
    dsimp only
    rw [ha]
    refine wpAny_letOwnedTupleGo_listiter (s := { s₁ with heap := h', toks := tk }) hit' ?_
    rw [← ha]
    obtain ⟨it, hio, hc, hd⟩ := hit'
    refine wpAny_mono (turn i vs[i] m₁ nx h' tk I it hv hJi F2 (fun p hp => ?_) hNI) (fun _ s₂ h₂ => wpAny_mono h₂ (fun f s₃ h₃ => ?_) fun _ _ e => e.elim) fun _ _ e => e.elim
    · rcases List.mem_cons.mp hp with rfl | hp
      · exact ⟨hio, hIL, hI0⟩
      · exact N2 p hp
    · have key : (∃ h' tk' m' nx, s₃ = { s₁ with heap := h', toks := tk' } ∧ Fr h₀ L h' m' ∧ News h₀ L h' ((I, it) :: (r, W.listOf (List.toArray vs) c) :: nx) ∧ (∀ p ∈ nx, p.1 ≠ I) ∧ J (i + 1) m' nx) → (∃ m, m < vs.length - i ∧ ∃ i h tk m₁ nx, i ≤ vs.length ∧ m = vs.length - i ∧ s₃ = { s₁ with heap := h, toks := tk } ∧ h.IsListIter I r i ∧ Fr h₀ L h m₁ ∧ News h₀ L h ((r, W.listOf (List.toArray vs) c) :: nx) ∧ (∀ p ∈ (r, W.listOf (List.toArray vs) c) :: nx, p.1 ≠ I) ∧ J i m₁ nx) := by
        clear turn done hmid hiter
        rintro ⟨h3, tk3, m3, nx3, e3, a2, a3, a4, a5⟩
        exact ⟨vs.length - (i + 1), Nat.sub_succ_lt_self _ _ hlt, i + 1, h3, tk3, m3, nx3, hlt, rfl, e3, ⟨it, (a3 _ (.head _)).1, hc, hd⟩, a2, fun p hp => a3 p (.tail _ hp), fun p hp => by
            rcases List.mem_cons.mp hp with rfl | hp
            · exact hrI
            · exact a4 p hp, a5⟩
      cases f with
      | next => exact key h₃
      | cont => exact key h₃
      | brk => exact h₃
      | ret v => exact h₃
  · have : i = vs.length := by omega
    subst this
    refine wpAny_pyNext_list_end hh hit (isList_of (N' _ (.head _)).1) (by simp) fun h' he' => ?_
    have k9 : ∀ b o, b ∉ [I] → h.get? b = some o → h'.get? b = some o := fun b o hb e => he' b o (fun q => hb (List.mem_singleton.mpr q)) e
    exact wpAny_execs_nil (done m₁ nx h' tk hJi (fr_wr F' hI0 hIL k9) fun p hp => news_wr N' hNI k9 p (.tail _ hp))
end


end
section
local macro_rules | `(tactic| k_all) => `(tactic| first | assumption | exact tlA0 (by assumption) | exact tlA1 (by assumption) | exact tlA2 (by assumption) | exact tlA3 (by assumption) | exact tlA4 (by assumption) | exact tlA5 (by assumption) | exact tlA6 (by assumption) | exact tlA7 (by assumption) | exact tlA8 (by assumption) | exact tlB1 (by assumption) | exact tlB2 (by assumption) | exact tlB3 (by assumption) | exact tlB4 (by assumption) | exact tlB5 (by assumption) | exact tlB6 (by assumption))
local macro_rules | `(tactic| k_all) => `(tactic| first | exact List.forall_mem_nil _ | (refine' List.forall_mem_cons.mpr ⟨?a, ?b⟩; (case a => k_ne); (case b => k_all)))
local macro_rules | `(tactic| k_mem) => `(tactic| assumption)
local macro_rules | `(tactic| k_mem) => `(tactic| first | exact List.Mem.head _ | (refine' List.Mem.tail _ ?_; k_mem))
section
theorem bm4 : ∀ {w : World}, nsIn (heapK w.params) mainGlobals "__builtins__" = some (some (.ref 4)) := by intro w; kernel_rfl
theorem boot1 : bootBuiltins "__build_class__" = some (.builtin "__build_class__") := by kernel_rfl
theorem boot2 : bootBuiltins "object" = some (.type "object") := by boot_fast
theorem CodeHd.tableAt {h : Heap} {c P : Addr} (x : CodeHd h c P) (e : h.get? P = some (tabObj #[])) : h.TableAt c P #[] := by
  obtain ⟨o, vs, file, tf, flags, tg, inF, text, tt, a1, a2, a3, a4, _⟩ := x
  exact ⟨⟨o, vs, a1, a2, a3, a4⟩, e⟩
theorem KA.led_get {a : KA} {V : Value} {h : Heap} (hat : a.at V h) : ∀ q ∈ a.led V, h.get? q.1 = some q.2 := by
  obtain ⟨a1, a2, a3, a4, a5, a6, a7, a8, a9, a10⟩ := hat
  unfold KA.led
  intro q hq
  simp only [List.mem_cons, List.not_mem_nil, or_false] at hq
  rcases hq with rfl | rfl | rfl | rfl | rfl | rfl | rfl | rfl | rfl | rfl <;> assumption
theorem KA.led_new {a : KA} {V : Value} {n : Nat} (hnew : a.new n) : ∀ q ∈ a.led V, n ≤ q.1 := by
  obtain ⟨a1, a2, a3, a4, a5, a6, a7, a8, a9, a10⟩ := hnew
  unfold KA.led
  intro q hq
  simp only [List.mem_cons, List.not_mem_nil, or_false] at hq
  rcases hq with rfl | rfl | rfl | rfl | rfl | rfl | rfl | rfl | rfl | rfl <;> assumption
theorem allLt_mem {d : Addr} {tl : List (Addr × Obj)} (h : AllLt d tl) : ∀ p ∈ tl, p.1 < d := by
  induction tl with
  | nil => exact fun _ q => (nomatch q)
  | cons x r ih =>
    intro p hp
    rcases List.mem_cons.mp hp with rfl | hp
    · exact h.1
    · exact ih h.2 p hp
theorem key_news {G h h2 : Heap} {L : Addr} {m : Str → Option Value} {a : KA} {V : Value} {eF eC e5 e1 : Addr × Obj} {ps : Array Value} {tl : List (Addr × Obj)} (F : Fr G L h m) (N : News G L h (eF :: eC :: e5 :: e1 :: (23, tabObj #[]) :: tl))
    (hkp : ∀ (b : Addr) (o : Obj), b ≠ 23 → h.get? b = some o → h2.get? b = some o) (h23 : h2.get? 23 = some (tabObj ps)) (hat : a.at V h2) (hnew : a.new h.objs.size) (n1 : eF.1 ≠ 23) (n2 : eC.1 ≠ 23) (n3 : e5.1 ≠ 23) (n4 : e1.1 ≠ 23) (n5 : ∀ p ∈ tl, p.1 ≠ 23) (l1 : @LT.lt Nat _ e5.1 eC.1 ∧ @LT.lt Nat _ e1.1 eC.1 ∧ @LT.lt Nat _ 23 eC.1 ∧ AllLt eC.1 tl) (m2 : eC.1 < eF.1) (m3 : ∀ p ∈ tl, p.1 ≠ e5.1) :
    Fr G L h2 m ∧ (∀ p ∈ a.led V ++ eF :: eC :: tl, p.1 ≠ e5.1) ∧ News G L h2 (e5 :: e1 :: (23, tabObj ps) :: (a.led V ++ eF :: eC :: tl)) ∧ ∀ q ∈ a.led V ++ eF :: eC :: [], e5.1 < q.1 ∧ e1.1 < q.1 ∧ @LT.lt Nat _ 23 q.1 ∧ ∀ p ∈ tl, p.1 < q.1 := by
  have m1 := l1.1
  have g := N (23, tabObj #[]) (.tail _ (.tail _ (.tail _ (.tail _ (.head _)))))
  have old : ∀ p ∈ eF :: eC :: e5 :: e1 :: (23, tabObj #[]) :: tl, p.1 ≠ 23 → h2.get? p.1 = some p.2 ∧ p.1 ≠ L ∧ G.get? p.1 = none := fun p hp hn => ⟨hkp _ _ hn (N p hp).1, (N p hp).2⟩
  refine ⟨fr_wr F g.2.2 g.2.1 fun b o hb e => hkp b o (fun q => hb (List.mem_singleton.mpr q)) e, fun p hp => ?_, fun p hp => ?_, fun q hq => ?_⟩
  · rcases List.mem_append.mp hp with hp | hp
    · exact Nat.ne_of_gt (Nat.lt_of_lt_of_le (Heap.lt_size (N e5 (.tail _ (.tail _ (.head _)))).1) (KA.led_new hnew p hp))
    rcases List.mem_cons.mp hp with rfl | hp
    · exact Nat.ne_of_gt (Nat.lt_trans m1 m2)
    rcases List.mem_cons.mp hp with rfl | hp
    · exact Nat.ne_of_gt m1
    · exact m3 p hp
  rotate_left
  · have hC : e5.1 < eC.1 ∧ e1.1 < eC.1 ∧ @LT.lt Nat _ 23 eC.1 ∧ ∀ p ∈ tl, p.1 < eC.1 := ⟨l1.1, l1.2.1, l1.2.2.1, allLt_mem l1.2.2.2⟩
    rcases List.mem_append.mp hq with hq | hq
    · have hge := fun p hp => Nat.lt_of_lt_of_le (Heap.lt_size (N p hp).1) (KA.led_new hnew q hq)
      exact ⟨hge _ (.tail _ (.tail _ (.head _))), hge _ (.tail _ (.tail _ (.tail _ (.head _)))), hge _ (.tail _ (.tail _ (.tail _ (.tail _ (.head _))))), fun p hp => hge p (.tail _ (.tail _ (.tail _ (.tail _ (.tail _ hp)))))⟩
    rcases List.mem_cons.mp hq with rfl | hq
    · exact ⟨Nat.lt_trans hC.1 m2, Nat.lt_trans hC.2.1 m2, Nat.lt_trans hC.2.2.1 m2, fun p hp => Nat.lt_trans (hC.2.2.2 p hp) m2⟩
    · rw [List.mem_singleton.mp hq]; exact hC
  rcases List.mem_cons.mp hp with rfl | hp
  · exact old _ (.tail _ (.tail _ (.head _))) n3
  rcases List.mem_cons.mp hp with rfl | hp
  · exact old _ (.tail _ (.tail _ (.tail _ (.head _)))) n4
  rcases List.mem_cons.mp hp with rfl | hp
  · exact ⟨h23, g.2⟩
  rcases List.mem_append.mp hp with hp | hp
  · have hge := KA.led_new hnew p hp
    exact ⟨KA.led_get hat p hp, Nat.ne_of_gt (Nat.lt_of_lt_of_le F.ns.lt hge), Heap.get?_none_of_le (Nat.le_trans F.above (Nat.le_of_lt (Nat.lt_of_lt_of_le F.ns.lt hge)))⟩
  rcases List.mem_cons.mp hp with rfl | hp
  · exact old _ (.head _) n1
  rcases List.mem_cons.mp hp with rfl | hp
  · exact old _ (.tail _ (.head _)) n2
  · exact old _ (.tail _ (.tail _ (.tail _ (.tail _ (.tail _ hp))))) (n5 p hp)
theorem lawKey : ∀ {w : World} {p : Program} {loose : List Str} {mean : ExcName → Option Value} {mg mb : Str → Option Value} (A : Around) (s : Shared) (G : Heap) (L fa : Addr) (m : Str → Option Value) (o5 : Obj) (v5 : Option Value) (tl : List (Addr × Obj))
   (Q : Flow → Shared → Prop) (X : (heapK w.params).In G) (TT : Top p loose mean mg mb G) (hh : A.handled = none) (hdp : A.depth + 200 < recursionLimit) (hu : A.units + 800 < cLine)
   (C1 : CodeHd G 127 125) (C2 : CodeHd G 27 23) (hL : @LT.lt Nat _ 128 L)
   (F : Fr G L s.heap m) (N : News G L s.heap ((L + 5, o5) :: (125, tabObj #[]) :: (23, tabObj #[]) :: tl)) (h5 : o5.data = .cell v5) 
   (t5 : ∀ p ∈ tl, p.1 ≠ L + 5) (t125 : ∀ p ∈ tl, p.1 ≠ 125) (t23 : ∀ p ∈ tl, p.1 ≠ 23)
   (hQ : ∀ (a : KA) (f c' : Addr) (oc o5 : Obj) (pm ctv : Value) (ps : Array Value) (h' : Heap) (tk : Nat), Fr G L h' m → News G L h' ((L + 5, o5) :: (125, tabObj #[rawInt 139, rawInt 21, .ref c']) :: (23, tabObj ps) :: (a.led (.ref f) ++ (f, kla_obj "<lambda>" "law.<locals>.<lambda>" lamC.1 lamC.2.1 lamC.2.2.1 [("places", L + 8)] pm c' ctv) :: (c', oc) :: tl)) →
     a.ok → CodeOf oc "law.<locals>.<lambda>" → o5.data = .cell (some (.ref a.c)) → (∀ q ∈ a.led (.ref f) ++ (f, kla_obj "<lambda>" "law.<locals>.<lambda>" lamC.1 lamC.2.1 lamC.2.2.1 [("places", L + 8)] pm c' ctv) :: (c', oc) :: [], L + 5 < q.1 ∧ @LT.lt Nat _ 125 q.1 ∧ @LT.lt Nat _ 23 q.1 ∧ ∀ p ∈ tl, p.1 < q.1) → Q .next { s with heap := h', toks := tk }),
   wpAny (model P.row.prog w) A (execs ((lawB.drop 9).take 1) (lawEnv L fa)) Q (fun _ _ => False) s := by
  k_with_none
  k_with "assign Tuple" => ((k_here; (with_reducible show wpAny _ _ (assign (Expr.Tuple _ _ _) _ (Value.ref _)) _ _ _); k_dflt (refine' kun_list ?k1 ?k2 ?k3 ?k4 ?k5 ?k6 ?_; (case k1 => k_asm); (case k2 => k_asm); (case k3 => (first | (with_reducible assumption) | exact IsList.stays (by assumption) (Fr.keep (by assumption)) | exact News.isList (by k_asm) (by k_mem))); (case k4 => exact rfl); (case k5 => exact rfl); (case k6 => exact rfl); k_whole); intro h' F' N'; (try k_sweep)))
  w_top off
  k_fill
  intro w p loose mean mg mb A s G L fa m o5 v5 tl Q X TT hh hdp hu C1 C2 hL F N h5 t5 t125 t23 hQ
  have e1 : (lawB.drop 9).take 1 = [.Assign [.Name _ _] (.Call (.Name _ _) [.Lambda _ _ _ _] _ _) _] := rfl
  rw [e1]
  clear e1
  dsimp only [lawEnv]
  k_steps
  rename Fr _ _ _ _ => F1
  rename News _ _ _ _ => N1
  rename (_ ∧ _ ∧ _ ∧ AllLt _ tl) => l1
  rename (@LT.lt Nat _ _ _) => l2
  have hk1 := F1.keep
  obtain ⟨ob, es, ep, hb1, hb2, hb3, hb4⟩ := TT.b
  obtain ⟨bm, om, hm1, hm2, hm3, hm4, hm5, hm6⟩ := TT.bmain
  have hbm := mg_of X TT.g bm4
  rw [hbm] at hm1
  cases hm1
  obtain ⟨obc, obd, obda, obs⟩ := ob
  obtain ⟨omc, omd, omda, oms⟩ := om
  dsimp only at hb2 hm4 hm5 hm6
  subst hb2 hm4 hm5 hm6
  refine cmpToKey (Frag.In.keeps X hk1) (CodeHd.tableAt (C2.keeps hk1) (N1 (23, _) (by k_mem)).1) (hk1 _ _ hb1) hb3 ((hb4 _).trans ((TT.builtins _ (by decide)).trans boot1)) ((hb4 _).trans ((TT.builtins _ (by decide)).trans boot2)) (hk1 _ _ hm3) ?_ hh (by omega) (by omega)
  intro a h2 tk2 ps hok hkp h23 hat hnew
  have hc9 : @LT.lt Nat _ 23 _ := l1.2.2.1
  obtain ⟨F2, t5', N2, hlo⟩ := key_news F1 N1 hkp h23 hat hnew (by show @Ne Nat _ _; omega) (by show @Ne Nat _ _; omega) (by show @Ne Nat _ _; omega) (by show @Ne Nat _ _; omega) t23 l1 l2 t5
  clear F1 N1 hkp h23 hat hnew hb1 hm3
  dsimp only at t5'
  k_steps
  exact hQ a _ _ _ _ _ _ ps _ _ (by assumption) (by assumption) hok ⟨_, _, by assumption, by assumption⟩ (by assumption) hlo


end
section
noncomputable def placeFor : Stmt := nthL 1 (forBody (nthL 10 lawB))
noncomputable def callArg (i : Nat) (s : Stmt) : Expr := atX (i + 1) (subX (atX 0 (subS s)))
/-- law's table: the key's lambda, or both lambdas -/
noncomputable def TabD (tb : Array Value) (tl : List (Addr × Obj)) (c' : Addr) : Prop :=
  tb = #[rawInt 139, rawInt 21, .ref c'] ∨ ∃ cD oD, tb = #[rawInt 139, rawInt 21, .ref c', rawInt 143, rawInt 32, .ref cD] ∧ (cD, oD) ∈ tl ∧ CodeOf oD "law.<locals>.<lambda>"
theorem news_swap {G h : Heap} {L : Addr} {a b c : Addr × Obj} {tl : List (Addr × Obj)} (N : News G L h (a :: b :: c :: tl)) : News G L h (a :: c :: b :: tl) := fun q hq => by
  rcases List.mem_cons.mp hq with rfl | hq
  · exact N _ (.head _)
  rcases List.mem_cons.mp hq with rfl | hq
  · exact N _ (.tail _ (.tail _ (.head _)))
  rcases List.mem_cons.mp hq with rfl | hq
  · exact N _ (.tail _ (.head _))
  · exact N _ (.tail _ (.tail _ (.tail _ hq)))
theorem lamDEval : ∀ {w : World} {p : Program} {loose : List Str} {mean : ExcName → Option Value} {mg mb : Str → Option Value} (A : Around) (s : Shared) (G : Heap) (L fa c' : Addr) (m : Str → Option Value) (tb : Array Value) (tl tD : List (Addr × Obj))
   (Q : Value → Shared → Prop) (X : (heapK w.params).In G) (TT : Top p loose mean mg mb G) (C1 : CodeHd G 127 125)
   (F : Fr G L s.heap m) (N : News G L s.heap ((125, tabObj tb) :: tl)) (hT : TabD tb tD c') (hsub : ∀ q ∈ tD, q ∈ tl) (t125 : ∀ p ∈ tl, p.1 ≠ 125)
   (hQ : ∀ (f cD : Addr) (oD : Obj) (pm ctv : Value) (ext : List (Addr × Obj)) (tb' : Array Value) (h' : Heap) (tk : Nat), Fr G L h' m → News G L h' ((f, kla_obj "<lambda>" "law.<locals>.<lambda>" lamD.1 lamD.2.1 lamD.2.2.1 [("ends", L + 7)] pm cD ctv) :: (125, tabObj tb') :: (ext ++ tl)) →
     TabD tb' (ext ++ tD) c' → (∀ q ∈ ext, @LT.lt Nat _ 125 q.1 ∧ ∀ p ∈ tl, p.1 < q.1) → (cD, oD) ∈ ext ++ tD → CodeOf oD "law.<locals>.<lambda>" → (∀ p ∈ (125, tabObj tb') :: (ext ++ tl), p.1 < f) → Q (.ref f) { s with heap := h', toks := tk }),
   wpAny (model P.row.prog w) A (eval (callArg 0 (nthL 0 (forBody placeFor))) (lawEnv L fa)) Q (fun _ _ => False) s := by
  k_with_none
  k_with "assign Tuple" => ((k_here; (with_reducible show wpAny _ _ (assign (Expr.Tuple _ _ _) _ (Value.ref _)) _ _ _); k_dflt (refine' kun_list ?k1 ?k2 ?k3 ?k4 ?k5 ?k6 ?_; (case k1 => k_asm); (case k2 => k_asm); (case k3 => (first | (with_reducible assumption) | exact IsList.stays (by assumption) (Fr.keep (by assumption)) | exact News.isList (by k_asm) (by k_mem))); (case k4 => exact rfl); (case k5 => exact rfl); (case k6 => exact rfl); k_whole); intro h' F' N'; (try k_sweep)))
  w_top off
  k_fill
  intro w p loose mean mg mb A s G L fa c' m tb tl tD Q X TT C1 F N hT hsub t125 hQ
  have e1 : callArg 0 (nthL 0 (forBody placeFor)) = .Lambda _ _ _ _ := rfl
  rw [e1]
  clear e1
  dsimp only [lawEnv]
  rcases hT with rfl | ⟨cD, oD, rfl, hcD, hoD⟩
  · k_steps
    rename (@LT.lt Nat _ 125 _ ∧ _) => l1
    rename (@LT.lt Nat _ _ _) => l2
    rename Fr _ _ _ _ => F1
    rename News _ _ _ _ => N1
    have hall := allLt_mem l1.2
    rename_i f9 c9 oc9 vs9 t9 ct9 h9 tk9 d1 d2
    refine hQ f9 c9 oc9 _ ct9 [(c9, oc9)] _ h9 tk9 F1 (news_swap N1) (.inr ⟨c9, oc9, rfl, .head _, ⟨vs9, t9, d1, d2⟩⟩) (fun q hq => ?_) (.head _) ⟨vs9, t9, d1, d2⟩ (fun q hq => ?_)
    · rw [List.mem_singleton.mp hq]; exact ⟨l1.1, hall⟩
    · rcases List.mem_cons.mp hq with rfl | hq
      · exact Nat.lt_trans l1.1 l2
      rcases List.mem_cons.mp hq with rfl | hq
      · exact l2
      · exact Nat.lt_trans (hall q hq) l2
  · k_steps
    rename (@LT.lt Nat _ 125 _ ∧ _) => l1
    rename Fr _ _ _ _ => F1
    rename News _ _ _ _ => N1
    have hall := allLt_mem l1.2
    refine hQ _ _ _ _ _ [] _ _ _ F1 N1 (.inr ⟨_, _, rfl, hcD, hoD⟩) (fun q hq => nomatch hq) hcD hoD (fun q hq => ?_)
    rcases List.mem_cons.mp hq with rfl | hq
    · exact l1.1
    · exact hall q hq


end
section
/-- the stretch of a text -/
noncomputable def stepE (es : List Int) (st : Int × Int) (sg : Int) : Int × Int := (16 * st.1 + st.2 * es.getD sg.toNat 0, st.2 * (es.getD (sg + 1).toNat 0 - es.getD sg.toNat 0))
noncomputable def encF (es : List Int) (txt : List Int) : Int × Int := txt.foldl (stepE es) (0, 16)
theorem encF_take {es txt : List Int} {i : Nat} (h : i < txt.length) : encF es (txt.take (i + 1)) = stepE es (encF es (txt.take i)) txt[i] := by
  unfold encF
  rw [List.take_add_one, List.getElem?_eq_getElem h, List.foldl_append]; rfl
theorem encF_inv {es : List Int} (he : EndsOk es) : ∀ (n : Nat) (txt : List Int), txt.length = n → (∀ x ∈ txt, 0 ≤ x ∧ x < 4) → 0 ≤ (encF es txt).1 ∧ 0 < (encF es txt).2 ∧ (encF es txt).1 + (encF es txt).2 ≤ 16 ^ (n + 1)
  | 0, txt, hl, _ => by
    rw [List.length_eq_zero_iff.mp hl]
    exact ⟨Int.le_refl _, by show (0 : Int) < 16; decide, by show (0 : Int) + 16 ≤ 16 ^ 1; decide⟩
  | n + 1, txt, hl, hx => by
    have h1 := encF_inv he n (txt.take n) (by rw [List.length_take]; omega) fun x hm => hx x (List.mem_of_mem_take hm)
    have hn : n < txt.length := by omega
    have e := encF_take (es := es) hn
    rw [show n + 1 = txt.length from hl.symm, List.take_length] at e
    rw [e]
    have h2 := hx _ (List.getElem_mem hn)
    obtain ⟨a1, a2, a3⟩ := narrow_in he (sg := txt[n]) h2.1 (by omega) h1.1 h1.2.1 h1.2.2
    refine ⟨a1, a2, ?_⟩
    rw [Int.pow_succ, Int.mul_comm (16 ^ (n + 1)) 16]
    exact a3
theorem textsItemIn {prog : Program} {w : World} {A : Around} {E : Value → Shared → Prop} {s : Shared} {value slice : Expr} {tx : Addr} {n : Nat} {T : Nat → List Int} {k : Int} {u : Tok} {tl news : List (Addr × Obj)} {G : Heap} {L : Addr} {Q : Value → Shared → Prop} (hT : TextsIn tl tx n T) (N : News G L s.heap news) (sub : ∀ q ∈ tl, q ∈ news) (h0 : 0 ≤ k) (hk : k < n) (hn : n ≤ 1000)
    (h : ∀ r vt c, (r, W.listOf (List.toArray vt) c) ∈ tl → IntsAre vt (T k.toNat) → Q (.ref r) s)
    (hs : subscripted slice false (.ref tx) (.int k u) = operate [.ref tx, .int k u] (getItem (.ref tx) (.int k u)) := by with_unfolding_all rfl) (hg : ∀ r, letTemporaryGo value (.ref tx) r = pure () := by intro _; with_unfolding_all rfl) :
    wpAny (model prog w) A (subscriptTail value slice (.ref tx) (.int k u)) Q E s := by
  obtain ⟨us, c, h1, h2, h3⟩ := hT.ex
  obtain ⟨r, vt, c', a, b, d⟩ := h3 k.toNat (by omega)
  exact item_listL (isList_of (N _ (sub _ h1)).1) h0 (by omega) a (h r vt c' b d) hs hg
theorem placeS0 : ∀ {w : World} {p : Program} {loose : List Str} {mean : ExcName → Option Value} {mg mb : Str → Option Value} (dp ut : Nat) (fr : Option (List Env)) (gd : Option (List Code)) (s : Shared) (G : Heap) (L fa c' tx le td : Addr) (m : Str → Option Value) (tb : Array Value) (tl tD : List (Addr × Obj)) (o2 o3 o7 : Obj) (i : Nat) (t2 b1 b2 : Tok) (n : Nat) (T : Nat → List Int) (vsE : List Value) (es : List Int) (cE : Nat) (base room : Int)
   (Q : Flow → Shared → Prop) (X : (heapK w.params).In G) (TT : Top p loose mean mg mb G) (C1 : CodeHd G 127 125)
   (F : Fr G L s.heap (kstB m [("base", .int base b1), ("room", .int room b2), ("things", .ref td)])) (N : News G L s.heap ((125, tabObj tb) :: tl)) (hT : TabD tb tD c') (hsub : ∀ q ∈ tD, q ∈ tl) (t125 : ∀ p ∈ tl, p.1 ≠ 125)
   (hm2 : (L + 2, o2) ∈ tl) (h2 : o2.data = .cell (some (.int (i : Nat) t2))) (hm3 : (L + 3, o3) ∈ tl) (h3 : o3.data = .cell (some (.ref tx))) (hm7 : (L + 7, o7) ∈ tl) (h7 : o7.data = .cell (some (.ref le)))
   (hTx : TextsIn tl tx n T) (hT5 : ∀ j, (T j).length = 5) (hT4 : ∀ j, ∀ x ∈ T j, 0 ≤ x ∧ x < 4) (hin : i < n) (hn : n ≤ 1000) (hle : (le, W.listOf (List.toArray vsE) cE) ∈ tl) (hI : IntsAre vsE es) (he : EndsOk es)
   (hdp : dp + 200 < recursionLimit) (hu : ut + 800 < cLine)
   (hQ : ∀ (ext : List (Addr × Obj)) (tb' : Array Value) (h' : Heap) (tk : Nat) (m : Str → Option Value) (u1 u2 : Tok), Fr G L h' (kstB m [("low", .int (encF es (T i)).1 u1), ("width", .int (encF es (T i)).2 u2), ("base", .int base b1), ("room", .int room b2), ("things", .ref td)]) → News G L h' ((125, tabObj tb') :: (ext ++ tl)) → TabD tb' (ext ++ tD) c' → (∀ q ∈ ext, @LT.lt Nat _ 125 q.1 ∧ ∀ p ∈ tl, p.1 < q.1) → Q .next { s with heap := h', toks := tk }),
   wpAny (model P.row.prog w) (Aro dp ut fr gd) (execs ((forBody placeFor).take 1) (lawEnv L fa)) Q (fun _ _ => False) s := by
  k_with_none
  k_with "assign Tuple" => ((k_here; (with_reducible show wpAny _ _ (assign (Expr.Tuple _ _ _) _ (Value.ref _)) _ _ _); k_dflt (refine' kun_list ?k1 ?k2 ?k3 ?k4 ?k5 ?k6 ?_; (case k1 => k_asm); (case k2 => k_asm); (case k3 => (first | (with_reducible assumption) | exact IsList.stays (by assumption) (Fr.keep (by assumption)) | exact News.isList (by k_asm) (by k_mem))); (case k4 => exact rfl); (case k5 => exact rfl); (case k6 => exact rfl); k_whole); intro h' F' N'; (try k_sweep)))
  w_top off
  k_fill
  intro w p loose mean mg mb dp ut fr gd s G L fa c' tx le td m tb tl tD o2 o3 o7 i t2 b1 b2 n T vsE es cE base room Q X TT C1 F N hT hsub t125 hm2 h2 hm3 h3 hm7 h7 hTx hT5 hT4 hin hn hle hI he hdp hu hQ
  have e1 : (forBody placeFor).take 1 = [.Assign [.Tuple [.Name _ _, .Name _ _] _ _] (.Call (.Name _ _) [.Lambda _ _ _ _, .Subscript (.Name _ _) (.Name _ _) _, .List _ _] _ _) _] := rfl
  rw [e1]
  clear e1
  dsimp only [lawEnv]
  dsimp only [kstB] at F
  k_steps
  refine lamDEval (p := p) _ _ G L fa c' _ tb tl tD _ X TT C1 F N hT hsub t125 ?_
  intro f cD oD pm ctv ext tb' h1 tk1 F1 N1 hT1 hext hcD hoD hf
  replace hf := allLt_of hf
  simp only [AllLt] at hf
  have sub : ∀ q ∈ tl, q ∈ ext ++ tl := fun q hq => List.mem_append_right _ hq
  replace hcD : (cD, oD) ∈ ext ++ tl := by
    rcases List.mem_append.mp hcD with q | q
    · exact List.mem_append_left _ q
    · exact List.mem_append_right _ (hsub _ q)
  replace hm2 := sub _ hm2
  replace hm3 := sub _ hm3
  replace hm7 := sub _ hm7
  clear F N
  k_steps
  refine textsItemIn hTx N1 (fun q hq => .tail _ (.tail _ (sub q hq))) (by omega) (by omega) hn fun r vt c9 hr hIt => ?_
  rw [Int.toNat_natCast] at hIt
  k_steps
  rename Fr _ _ _ _ => F2
  rename News _ _ _ _ => N2
  rename (@LT.lt Nat _ f _ ∧ _) => l2
  have XG := Frag.In.keeps X F2.keep
  have TG := TT.keeps F2.keep
  have hIlen := hIt.length
  rw [hT5] at hIlen
  have he5 : es.length = 5 := by obtain ⟨a, b, c, rfl, _⟩ := he.ex; rfl
  have N3 : News G L _ (ext ++ tl) := fun q hq => N2 q (.tail _ (.tail _ (.tail _ hq)))
  have k3 : ∀ p ∈ ([(_, _)] : List (Addr × Obj)), Heap.get? _ p.1 = some p.2 := List.forall_mem_cons.mpr ⟨(N2 (_, _) (.head _)).1, fun _ q => nomatch q⟩
  refine Calls.use (reduceC (p := p) (loose := loose) (mean := mean) (mg := mg) (mb := mb) _ _ _ _ _ f r vt _ (fun i' v os => ∃ r u1 u2 c, v = Value.ref r ∧ os = [(r, W.listOf #[.int (encF es ((T i).take i')).1 u1, .int (encF es ((T i).take i')).2 u2] c)]) _ XG TG (isList_of (N3 _ (sub _ hr)).1) (by omega) ?hi k3 ?hr (FnAt.of N2 (by k_mem)) ?hs (by show dp + 30 < _; omega) (by show ut + 100 < _; omega)) F2 N2 ?hk2
  case hi => exact ⟨_, _, _, _, rfl, rfl⟩
  case hr => exact .inl ⟨_, _, rfl, news_new N2 (.head _) (X 29 _ (by k_is)), (N2 (_, _) (.head _)).1, (by show (Value.type "list" : Value) ≠ Value.type "tuple"; decide)⟩
  case hs =>
    rintro i' dp' ut' fr' gd' h9 tk9 v x os hdp' hut' st hx ⟨r', u1, u2, c, rfl, rfl⟩ hos
    have hil : i' < (T i).length := by rw [hT5, ← hIlen]; exact (List.getElem?_eq_some_iff.mp hx).1
    obtain ⟨tx', hx'⟩ := hIt.int_at i' x hx
    have hgd : (T i).getD i' 0 = (T i)[i'] := by simp [hil]
    rw [hgd] at hx'
    subst hx'
    have st9 : ∀ b o, _ → h9.get? b = some o := fun b o e => st b o (F2.keep b o e)
    have hsg := hT4 i _ (List.getElem_mem hil)
    obtain ⟨w1, w2, w3⟩ := encF_inv he i' ((T i).take i') (by rw [List.length_take]; omega) fun x hm => hT4 i x (List.mem_of_mem_take hm)
    have w5 := pow_le24 (n := i') (by rw [hT5] at hil; omega)
    refine Calls.mono (narrowStep (p := p) (loose := loose) (mean := mean) (mg := mg) (mb := mb) dp' ut' fr' gd' _ f cD (L + 7) le r' _ _ o7 vsE es _ _ (T i)[i'] _ _ _ (Frag.In.keeps X st9) (TT.keeps st9) (st _ _ (N2 _ (.tail _ (.head _))).1) (CodeRec.stays ?hcr st) (st _ _ (N3 _ hm7).1) h7 (IsList.stays (isList_of (N3 _ (sub _ hle)).1) st) hI he5 (isList_of (hos _ (.head _))) hsg.1 hsg.2 (by omega) (by omega) w1 (by omega) (by omega) (by omega)) ?_
    case hcr =>
      obtain ⟨vs, t, q1, q2⟩ := hoD
      exact ⟨cD, oD, vs, t, rfl, (N3 _ hcD).1, q1, q2⟩
    rintro v h8 st8 ⟨r2, u3, u4, rfl, hr2, ho2⟩
    refine ⟨[(r2, W.listOf #[.int (encF es ((T i).take (i' + 1))).1 u3, .int (encF es ((T i).take (i' + 1))).2 u4] 0)], ⟨r2, u3, u4, 0, rfl, rfl⟩, List.forall_mem_cons.mpr ⟨⟨hr2, ?_⟩, fun _ q => nomatch q⟩⟩
    rw [encF_take hil]
    exact ho2
  case hk2 =>
    rintro v h8 tk8 F8 N8 st8 ⟨_, ⟨r8, u1, u2, c8, rfl, rfl⟩, hos⟩
    rw [hIlen, show 5 = (T i).length from (hT5 i).symm, List.take_length] at hos
    have ho8 := hos _ (.head _)
    have N9 := news_take F2 st8 N8 (ho8.2 (fun q => absurd hIlen (by rw [q]; decide))) ho8.1
    clear N2 N3 N8 F2 k3 hos XG TG
    dsimp only
    k_steps
    rename Fr _ _ _ _ => F7
    rename News _ _ _ _ => N7
    exact hQ ext tb' _ _ _ _ _ (fr_kst F7 (by (repeat (first | exact trivial | (refine And.intro ?_ ?_; (k_dflt rfl)))))) (fun q hq => N7 q (.tail _ (.tail _ (.tail _ hq)))) hT1 hext


end
section
/-- the word of a stretch -/
structure WordOk (base room : Int) (k : Nat) (lo wd : Int) (dg : List Int) : Prop where
  hbr : (base = 16 ∧ room = 6 ∧ k = 5) ∨ (base = 64 ∧ room = 4 ∧ k = 3)
  sz : 1 ≤ (shortF base lo wd k 1 (base ^ k)).1 ∧ (shortF base lo wd k 1 (base ^ k)).1 ≤ room
  num : 0 ≤ (shortF base lo wd k 1 (base ^ k)).2
  w16 : base = 16 → (shortF base lo wd k 1 (base ^ k)).2 < 16777216 ∧ (apF 6 (shortF base lo wd k 1 (base ^ k)).2 []).length ≤ 6 ∧ wr16 (shortF base lo wd k 1 (base ^ k)).1 (shortF base lo wd k 1 (base ^ k)).2 = dg.map letter
  w64 : base = 64 → (shortF base lo wd k 1 (base ^ k)).2 * 64 ^ (4 - (shortF base lo wd k 1 (base ^ k)).1).toNat < 16777216 ∧ wr64 (shortF base lo wd k 1 (base ^ k)).1 (shortF base lo wd k 1 (base ^ k)).2 = dg.map letter
  len : (dg.length : Int) = (shortF base lo wd k 1 (base ^ k)).1
  dig : ∀ x ∈ dg, 0 ≤ x ∧ x < base
theorem placeS12 : ∀ {w : World} {p : Program} {loose : List Str} {mean : ExcName → Option Value} {mg mb : Str → Option Value} (dp ut : Nat) (fr : Option (List Env)) (gd : Option (List Code)) (s : Shared) (G : Heap) (L fa td : Addr) (m : Str → Option Value) (tl : List (Addr × Obj)) (u1 u2 b1 b2 : Tok) (base room lo wd : Int) (k : Nat) (dg : List Int)
   (Q : Flow → Shared → Prop) (X : (heapK w.params).In G) (TT : Top p loose mean mg mb G)
   (F : Fr G L s.heap (kstB m [("low", .int lo u1), ("width", .int wd u2), ("base", .int base b1), ("room", .int room b2), ("things", .ref td)])) (N : News G L s.heap tl)
   (hW : WordOk base room k lo wd dg) (hl0 : 0 ≤ lo) (hw0 : 1 ≤ wd) (hlw : lo + wd ≤ 2 ^ 24)
   (hdp : dp + 200 < recursionLimit) (hu : ut + 800 < cLine)
   (hQ : ∀ (h' : Heap) (tk : Nat) (m : Str → Option Value) (v1 v2 : Tok), Fr G L h' (kstB m [("size", .int dg.length v1), ("written", .bytes (dg.map letter).toArray v2), ("base", .int base b1), ("room", .int room b2), ("things", .ref td)]) → News G L h' tl → Q .next { s with heap := h', toks := tk }),
   wpAny (model P.row.prog w) (Aro dp ut fr gd) (execs (((forBody placeFor).drop 1).take 2) (lawEnv L fa)) Q (fun _ _ => False) s := by
  k_with_none
  k_with "assign Tuple" => ((k_here; (with_reducible show wpAny _ _ (assign (Expr.Tuple _ _ _) _ (Value.ref _)) _ _ _); k_dflt (refine' kun_list ?k1 ?k2 ?k3 ?k4 ?k5 ?k6 ?_; (case k1 => k_asm); (case k2 => k_asm); (case k3 => (first | (with_reducible assumption) | exact IsList.stays (by assumption) (Fr.keep (by assumption)) | exact News.isList (by k_asm) (by k_mem))); (case k4 => exact rfl); (case k5 => exact rfl); (case k6 => exact rfl); k_whole); intro h' F' N'; (try k_sweep)))
  w_top off
  k_fill
  intro w p loose mean mg mb dp ut fr gd s G L fa td m tl u1 u2 b1 b2 base room lo wd k dg Q X TT F N hW hl0 hw0 hlw hdp hu hQ
  have e1 : ((forBody placeFor).drop 1).take 2 = [.Assign [.Tuple [.Name _ _, .Name _ _] _ _] (.Call (.Name _ _) [.Name _ _, .Name _ _, .Name _ _, .Name _ _] _ _) _, .Assign [.Name _ _] (.Call (.Name _ _) [.Name _ _, .Name _ _, .Name _ _] _ _) _] := rfl
  rw [e1]
  clear e1
  dsimp only [lawEnv]
  dsimp only [kstB] at F
  obtain ⟨hbr, hsz, hnum, h16, h64, hlen, hdig⟩ := hW
  k_steps
  refine shortest (p := p) (loose := loose) (mean := mean) (mg := mg) (mb := mb) _ _ _ _ base room lo wd k _ _ _ _ (Frag.In.keeps X F.keep) (TT.keeps F.keep) hbr hw0 (by omega) hl0 (by omega) (by show dp + 30 < _; omega) (by show ut + 100 < _; omega) ?_
  intro r h1 tk1 v1 v2 st hr0 hr
  have N1 := news_take F st (N.grown st) hr0 hr
  have F1 := F.kept st
  clear F N st hr0 hr
  generalize hnm : (shortF base lo wd k 1 (base ^ k)).2 = num at *
  generalize hsm : (shortF base lo wd k 1 (base ^ k)).1 = sz at *
  subst hlen
  k_steps
  rename Fr _ _ _ _ => F2
  rename News _ _ _ _ => N2
  have hc : ∀ (s' : Shared) (t1 t2 t3 : Tok), (heapK w.params).In s'.heap → Top p loose mean mg mb s'.heap → Calls w (Aro dp ut fr gd) s' (.ref 102) [.int base t1, .int dg.length t2, .int num t3] fun v h' => ∃ u, v = .bytes (dg.map letter).toArray u := by
    intro s' t1 t2 t3 X' T'
    rcases hbr with ⟨rfl, rfl, rfl⟩ | ⟨rfl, rfl, rfl⟩
    · obtain ⟨q1, q2, q3⟩ := h16 rfl
      rw [← q3]
      exact written16 (p := p) (loose := loose) (mean := mean) (mg := mg) (mb := mb) dp ut fr gd s' _ _ _ _ _ X' T' hsz.1 hsz.2 hnum q1 q2 (by omega) (by omega)
    · obtain ⟨q1, q3⟩ := h64 rfl
      rw [← q3]
      exact written64 (p := p) (loose := loose) (mean := mean) (mg := mg) (mb := mb) dp ut fr gd s' _ _ _ _ _ X' T' hsz.1 hsz.2 hnum q1 (by omega) (by omega)
  refine Calls.use (hc _ _ _ _ (Frag.In.keeps X F2.keep) (TT.keeps F2.keep)) F2 N2 ?_
  rintro v h3 tk3 F3 N3 st ⟨u, rfl⟩
  clear F2 N2 hc
  k_steps
  rename Fr _ _ _ _ => F4
  rename News _ _ _ _ => N4
  exact hQ _ _ _ _ _ (fr_kst F4 (by (repeat (first | exact trivial | (refine And.intro ?_ ?_; (k_dflt rfl)))))) (fun q hq => N4 q (.tail _ hq))


end
section
/-- _law_read's table in the ledger -/
noncomputable def TabL (t : Obj) (tl : List (Addr × Obj)) : Prop :=
  t = tabObj #[] ∨ ∃ c1 c2 o1 o2, t = tabObj #[rawInt 121, rawInt 19, .ref c1, rawInt 122, rawInt 18, .ref c2] ∧ 128 < c1 ∧ 128 < c2 ∧ c1 ≠ c2 ∧ CodeOf o1 "_law_read.<locals>.<lambda>" ∧ CodeOf o2 "_law_read.<locals>.<lambda>" ∧ (c1, o1) ∈ tl ∧ (c2, o2) ∈ tl
theorem TabL.mono {t : Obj} {tl tl' : List (Addr × Obj)} (x : TabL t tl) (sub : ∀ q ∈ tl, q ∈ tl') : TabL t tl' := by
  rcases x with x | ⟨c1, c2, o1, o2, a, b, c, d, e, f, g, h⟩
  · exact .inl x
  · exact .inr ⟨c1, c2, o1, o2, a, b, c, d, e, f, sub _ g, sub _ h⟩
theorem TabL.heap {G h : Heap} {L : Addr} {t : Obj} {tl full : List (Addr × Obj)} (x : TabL t tl) (N : News G L h ((111, t) :: full)) (hfull : ∀ q ∈ tl, q ∈ full) : ∃ tabs, TabR h tabs ∧ ∀ q ∈ tabs, q ∈ (111, t) :: tl := by
  rcases x with rfl | ⟨c1, c2, o1, o2, rfl, b, c, d, e, f, g, k⟩
  · exact ⟨[(111, tabObj #[])], ⟨fun q hq => by rw [List.mem_singleton.mp hq]; exact (N _ (.head _)).1, .inl rfl⟩, fun q hq => by rw [List.mem_singleton.mp hq]; exact .head _⟩
  · have hm : ∀ q ∈ [(111, tabObj #[rawInt 121, rawInt 19, .ref c1, rawInt 122, rawInt 18, .ref c2]), (c1, o1), (c2, o2)], q ∈ (111, tabObj #[rawInt 121, rawInt 19, .ref c1, rawInt 122, rawInt 18, .ref c2]) :: tl := fun q hq => by
      rcases List.mem_cons.mp hq with rfl | hq
      · exact .head _
      rcases List.mem_cons.mp hq with rfl | hq
      · exact .tail _ g
      · rw [List.mem_singleton.mp hq]; exact .tail _ k
    have hm2 : ∀ q ∈ _, q ∈ (111, _) :: full := fun q hq => by
      rcases List.mem_cons.mp (hm q hq) with rfl | k
      · exact .head _
      · exact .tail _ (hfull q k)
    exact ⟨_, ⟨fun q hq => (N q (hm2 q hq)).1, .inr ⟨c1, c2, o1, o2, rfl, b, c, d, e, f⟩⟩, hm⟩
/-- the ledger behind a reading -/
theorem read_news {G h h' : Heap} {L : Addr} {m : Str → Option Value} {t : Obj} {tl full : List (Addr × Obj)} {tabs tabs' : List (Addr × Obj)} (F : Fr G L h m) (N : News G L h ((111, t) :: full)) (hfull : ∀ q ∈ tl, q ∈ full) (t111 : ∀ p ∈ full, p.1 ≠ 111) (hsub : ∀ q ∈ tabs, q ∈ (111, t) :: tl)
    (hk : ∀ b o, b ≠ 111 → h.get? b = some o → h'.get? b = some o) (hT : TabR h' tabs') (hnew : ∀ q ∈ tabs', q.1 = 111 ∨ q ∈ tabs ∨ h.objs.size ≤ q.1) :
    Fr G L h' m ∧ ∃ ext t', News G L h' ((111, t') :: (ext ++ full)) ∧ TabL t' (ext ++ tl) ∧ ∀ q ∈ ext, @LT.lt Nat _ 111 q.1 ∧ ∀ p ∈ full, p.1 < q.1 := by
  have g := N _ (.head _)
  have F' : Fr G L h' m := fr_wr F g.2.2 g.2.1 fun b o hb e => hk b o (fun q => hb (List.mem_singleton.mpr q)) e
  have old : ∀ p ∈ full, h'.get? p.1 = some p.2 ∧ p.1 ≠ L ∧ G.get? p.1 = none := fun p hp => ⟨hk _ _ (t111 p hp) (N p (.tail _ hp)).1, (N p (.tail _ hp)).2⟩
  have big : ∀ q : Addr × Obj, h.objs.size ≤ q.1 → q.1 ≠ L ∧ G.get? q.1 = none ∧ @LT.lt Nat _ 111 q.1 ∧ ∀ p ∈ full, p.1 < q.1 := fun q hq =>
    ⟨Nat.ne_of_gt (Nat.lt_of_lt_of_le F.ns.lt hq), Heap.get?_none_of_le (Nat.le_trans F.above (Nat.le_of_lt (Nat.lt_of_lt_of_le F.ns.lt hq))), Nat.lt_of_lt_of_le (Heap.lt_size g.1) hq, fun p hp => Nat.lt_of_lt_of_le (Heap.lt_size (N p (.tail _ hp)).1) hq⟩
  refine ⟨F', ?_⟩
  rcases hT.2 with rfl | ⟨c1, c2, o1, o2, rfl, b, c, d, e, f⟩
  · refine ⟨[], tabObj #[], fun p hp => ?_, .inl rfl, fun _ q => nomatch q⟩
    rcases List.mem_cons.mp hp with rfl | hp
    · exact ⟨hT.1 _ (.head _), g.2⟩
    · exact old p hp
  · have k0 := hT.1 _ (.head _)
    have k1 := hT.1 _ (.tail _ (.head _))
    have k2 := hT.1 _ (.tail _ (.tail _ (.head _)))
    have cs : ∀ (c : Addr) (o : Obj), 128 < c → (c, o) ∈ [(111, tabObj #[rawInt 121, rawInt 19, .ref c1, rawInt 122, rawInt 18, .ref c2]), (c1, o1), (c2, o2)] → (c, o) ∈ tl ∨ h.objs.size ≤ c := fun c o hc hm => by
      have hc1 : c ≠ 111 := by intro q; rw [q] at hc; exact absurd hc (by decide)
      rcases hnew _ hm with q | q | q
      · exact absurd q hc1
      · rcases List.mem_cons.mp (hsub _ q) with q | q
        · exact absurd (congrArg Prod.fst q) hc1
        · exact .inl q
      · exact .inr q
    have fin : ∀ ext : List (Addr × Obj), (∀ q ∈ ext, h'.get? q.1 = some q.2 ∧ h.objs.size ≤ q.1) → (c1, o1) ∈ ext ++ tl → (c2, o2) ∈ ext ++ tl → ∃ ext t', News G L h' ((111, t') :: (ext ++ full)) ∧ TabL t' (ext ++ tl) ∧ ∀ q ∈ ext, @LT.lt Nat _ 111 q.1 ∧ ∀ p ∈ full, p.1 < q.1 := fun ext h1 h2 h3 => by
      refine ⟨ext, _, fun p hp => ?_, .inr ⟨c1, c2, o1, o2, rfl, b, c, d, e, f, h2, h3⟩, fun q hq => (big q (h1 q hq).2).2.2⟩
      rcases List.mem_cons.mp hp with rfl | hp
      · exact ⟨k0, g.2⟩
      rcases List.mem_append.mp hp with hp | hp
      · have := big p (h1 p hp).2
        exact ⟨(h1 p hp).1, this.1, this.2.1⟩
      · exact old p hp
    rcases cs c1 o1 b (.tail _ (.head _)) with q1 | q1 <;> rcases cs c2 o2 c (.tail _ (.tail _ (.head _))) with q2 | q2
    · exact fin [] (fun _ q => nomatch q) q1 q2
    · exact fin [(c2, o2)] (fun q hq => by rw [List.mem_singleton.mp hq]; exact ⟨k2, q2⟩) (.tail _ q1) (.head _)
    · exact fin [(c1, o1)] (fun q hq => by rw [List.mem_singleton.mp hq]; exact ⟨k1, q1⟩) (.head _) (.tail _ q2)
    · exact fin [(c1, o1), (c2, o2)] (fun q hq => by
        rcases List.mem_cons.mp hq with rfl | hq
        · exact ⟨k1, q1⟩
        · rw [List.mem_singleton.mp hq]; exact ⟨k2, q2⟩) (.head _) (.tail _ (.head _))


end
section
section
theorem alph_cut {base : Int} (hb : base = 16 ∨ base = 64) : (alph.drop (clipAt (List.toArray alph).size (base - 1))).take (clipAt (List.toArray alph).size base - clipAt (List.toArray alph).size (base - 1)) = [letter (base - 1)] := by
  rcases hb with rfl | rfl <;> decide
theorem news_swap' {G h : Heap} {L : Addr} {a b : Addr × Obj} {tl : List (Addr × Obj)} (N : News G L h (a :: b :: tl)) : News G L h (b :: a :: tl) := fun q hq => by
  rcases List.mem_cons.mp hq with rfl | hq
  · exact N _ (.tail _ (.head _))
  rcases List.mem_cons.mp hq with rfl | hq
  · exact N _ (.head _)
  · exact N _ (.tail _ (.tail _ hq))
theorem placeS3 : ∀ {w : World} {p : Program} {loose : List Str} {mean : ExcName → Option Value} {mg mb : Str → Option Value} (dp ut : Nat) (fr : Option (List Env)) (gd : Option (List Code)) (s : Shared) (G : Heap) (L fa tx le td pl : Addr) (m : Str → Option Value) (t : Obj) (tl tD : List (Addr × Obj)) (o1 o2 o3 o7 o8 oD : Obj) (i : Nat) (t1 t2 b1 b2 v1 v2 : Tok) (n : Nat) (T : Nat → List Int) (vsE : List Value) (es dg : List Int) (cE : Nat) (base room : Int)
   (Q : Flow → Shared → Prop) (X : (heapK w.params).In G) (TT : Top p loose mean mg mb G)
   (F : Fr G L s.heap (kstB m [("size", .int dg.length v1), ("written", .bytes (dg.map letter).toArray v2), ("base", .int base b1), ("room", .int room b2), ("things", .ref td)])) (N : News G L s.heap ((111, t) :: tl)) (hT : TabL t tD) (hsD : ∀ q ∈ tD, q ∈ tl) (t111 : ∀ p ∈ tl, p.1 ≠ 111)
   (hm1 : (L + 1, o1) ∈ tl) (h1 : o1.data = .cell (some (.bytes alph.toArray t1))) (hm2 : (L + 2, o2) ∈ tl) (h2 : o2.data = .cell (some (.int (i : Nat) t2))) (hm3 : (L + 3, o3) ∈ tl) (h3 : o3.data = .cell (some (.ref tx))) (hm7 : (L + 7, o7) ∈ tl) (h7 : o7.data = .cell (some (.ref le))) (hm8 : (L + 8, o8) ∈ tl) (h8 : o8.data = .cell (some (.ref pl)))
   (hpl : (pl, oD) ∈ tl) (hPO : PlacesO w pl oD) (hTx : TextsIn tl tx n T) (hin : i < n) (hn : n ≤ 1000) (hle : (le, W.listOf (List.toArray vsE) cE) ∈ tl) (hI : IntsAre vsE es) (he : EndsOk es)
   (hbr : (base = 16 ∧ room = 6) ∨ (base = 64 ∧ room = 4)) (hd1 : 1 ≤ dg.length) (hd2 : (dg.length : Int) ≤ room) (hdg : ∀ x ∈ dg, 0 ≤ x ∧ x < base)
   (hread : ∀ c : Int, c = 0 ∨ c = base - 1 → readF es (valF base (dg ++ List.replicate (room - dg.length).toNat c)) = T i)
   (hdp : dp + 200 < recursionLimit) (hu : ut + 800 < cLine)
   (hQ : ∀ (h' : Heap) (tk : Nat) (m : Str → Option Value) (ext : List (Addr × Obj)) (t' : Obj), Fr G L h' (kstB m [("size", .int dg.length v1), ("written", .bytes (dg.map letter).toArray v2), ("base", .int base b1), ("room", .int room b2), ("things", .ref td)]) → News G L h' ((111, t') :: (ext ++ tl)) → TabL t' (ext ++ tD) → (∀ q ∈ ext, @LT.lt Nat _ 111 q.1 ∧ ∀ p ∈ tl, p.1 < q.1) → Q .next { s with heap := h', toks := tk }),
   wpAny (model P.row.prog w) (Aro dp ut fr gd) (execs (((forBody placeFor).drop 3).take 1) (lawEnv L fa)) Q (fun _ _ => False) s := by
  k_with_none
  k_with "assign Tuple" => ((k_here; (with_reducible show wpAny _ _ (assign (Expr.Tuple _ _ _) _ (Value.ref _)) _ _ _); k_dflt (refine' kun_list ?k1 ?k2 ?k3 ?k4 ?k5 ?k6 ?_; (case k1 => k_asm); (case k2 => k_asm); (case k3 => (first | (with_reducible assumption) | exact IsList.stays (by assumption) (Fr.keep (by assumption)) | exact News.isList (by k_asm) (by k_mem))); (case k4 => exact rfl); (case k5 => exact rfl); (case k6 => exact rfl); k_whole); intro h' F' N'; (try k_sweep)))
  k_with "subscriptTail" => (((with_reducible show wpAny _ _ (subscriptTail _ (Expr.Slice _ _ none _) (Value.bytes _ _) (Value.ref _)) _ _ _); (with_reducible rename Fr _ _ _ _ => F'); (with_reducible rename News _ _ _ _ => N'); (refine slice_m (s := ⟨_, _, _, _, _⟩) F' N' (by constructor) (by constructor) (by first | decide | assumption | omega) ?_); intro h' _ _ F' N'; (try dsimp only [Option.elim])))
  w_top off
  k_fill
  intro w p loose mean mg mb dp ut fr gd s G L fa tx le td pl m t tl tD o1 o2 o3 o7 o8 oD i t1 t2 b1 b2 v1 v2 n T vsE es dg cE base room Q X TT F N hT hsD t111 hm1 h1 hm2 h2 hm3 h3 hm7 h7 hm8 h8 hpl hPO hTx hin hn hle hI he hbr hd1 hd2 hdg hread hdp hu hQ
  have e1 : ((forBody placeFor).drop 3).take 1 = [.For (.Name _ _) (.List [_, .Subscript (.Name _ _) (.Slice _ _ _ _) _] _) [.If (.Compare (.Call (.Name _ _) [.Name _ _, .Name _ _, .Name _ _, .BinOp _ _ _ _] _ _) [_] [.Subscript (.Name _ _) (.Name _ _) _] _) [_] [] _] [] _] := rfl
  rw [e1]
  clear e1
  dsimp only [lawEnv]
  dsimp only [kstB] at F
  refine wpAny_execs_cons ?_
  refine forList (h₀ := G) (L := L) (fun v s₁ => ∃ (r : Addr) (c : Nat) (ua ub : Tok) (h : Heap) (tk : Nat), v = .ref r ∧ s₁ = { s with heap := h, toks := tk } ∧ (∀ p ∈ (111, t) :: tl, p.1 ≠ r) ∧ Fr G L h (kstB m [("size", .int dg.length v1), ("written", .bytes (dg.map letter).toArray v2), ("base", .int base b1), ("room", .int room b2), ("things", .ref td)]) ∧ News G L h ((r, W.listOf (List.toArray [.bytes [letter 0].toArray ua, .bytes [letter (base - 1)].toArray ub]) c) :: (111, t) :: tl)) ?_ ?_
  · k_steps
    rename Fr _ _ _ _ => F2
    rename News _ _ _ _ => N2
    rename (@LT.lt Nat _ 111 _ ∧ _) => l2
    have hcut := alph_cut (base := base) (by omega)
    first
    | rw [hcut] at N2
    | (rw [show (List.toArray alph).toList = alph from rfl, hcut] at N2)
    refine ⟨_, _, _, _, _, _, rfl, rfl, fun p hp => ?_, F2, N2⟩
    rcases List.mem_cons.mp hp with rfl | hp
    · exact Nat.ne_of_lt l2.1
    · exact tlA0 l2.2 p hp
  clear F N
  rintro v s₁ ⟨r, c, ua, ub, h, tk, rfl, rfl, hr, F, N⟩
  refine ⟨r, _, c, _, _, rfl, rfl, F, N, fun _ m₁ nx => ∃ m ext t', m₁ = kstB m [("size", .int dg.length v1), ("written", .bytes (dg.map letter).toArray v2), ("base", .int base b1), ("room", .int room b2), ("things", .ref td)] ∧ nx = (111, t') :: (ext ++ tl) ∧ TabL t' (ext ++ tD) ∧ ∀ q ∈ ext, @LT.lt Nat _ 111 q.1 ∧ ∀ p ∈ tl, p.1 < q.1, ⟨m, [], t, rfl, rfl, hT, fun _ q => nomatch q⟩, ?_, ?_⟩
  · have hr111 : @Ne Nat 111 r := hr _ (.head _)
    clear F N hT hr
    rintro j v m₁ nx h tk I it hv ⟨m, ext, t', rfl, rfl, hT, hext⟩ F N hne
    have hvc : ∃ c u, v = .bytes [letter c].toArray u ∧ (c = 0 ∨ c = base - 1) := by
      match j, hv with
      | 0, hv => cases hv; exact ⟨0, _, rfl, .inl rfl⟩
      | 1, hv => cases hv; exact ⟨_, _, rfl, .inr rfl⟩
    obtain ⟨cc, uc, rfl, hcc⟩ := hvc
    have sub : ∀ q ∈ tl, q ∈ ext ++ tl := fun q hq => List.mem_append_right _ hq
    replace hm1 := sub _ hm1
    replace hm2 := sub _ hm2
    replace hm3 := sub _ hm3
    replace hm7 := sub _ hm7
    replace hm8 := sub _ hm8
    dsimp only [kstB] at F
    k_steps
    refine KBy.add_bytes (by simp only [List.size_toArray, List.length_map, List.length_flatten, List.map_replicate, List.sum_replicate_nat, List.length_singleton]; omega) ?_
    intro tw kw
    rw [List.flatten_replicate_singleton, List.append_toArray, ← List.map_replicate, ← List.map_append]
    k_steps
    rename Fr _ _ _ _ => F2
    rename News _ _ _ _ => N2
    have N3 : News G L _ ((111, t') :: (I, it) :: (r, _) :: (ext ++ tl)) := news_swap' (news_swap N2)
    have hful : ∀ q ∈ ext ++ tD, q ∈ (I, it) :: (r, W.listOf (List.toArray [.bytes [letter 0].toArray ua, .bytes [letter (base - 1)].toArray ub]) c) :: (ext ++ tl) := fun q hq => .tail _ (.tail _ ((List.mem_append.mp hq).elim (fun q => List.mem_append_left _ q) fun q => List.mem_append_right _ (hsD _ q)))
    obtain ⟨tabs, htab, hsub⟩ := hT.heap N3 hful
    have N4 : News G L _ (ext ++ tl) := fun q hq => N2 q (.tail _ (.tail _ (.tail _ hq)))
    refine lawRead (p := p) (loose := loose) (mean := mean) (mg := mg) (mb := mb) dp ut fr gd _ pl le vsE es (dg ++ List.replicate (room - dg.length).toNat cc) base _ _ tabs (Frag.In.keeps X F2.keep) (TT.keeps F2.keep) htab (hPO _ (N4 _ (sub _ hpl)).1) (isList_of (N4 _ (sub _ hle)).1) hI he ?hbase ?hdg (by omega) (by omega) _ _ ?_
    case hbase => simp only [List.length_append, List.length_replicate]; omega
    case hdg =>
      intro x hx
      rcases List.mem_append.mp hx with hx | hx
      · exact hdg x hx
      · rw [List.eq_of_mem_replicate hx]; omega
    rintro v h5 tk5 hk5 ⟨rr, c5, vt, tabs', rfl, hr0, hro, hIr, hTR, hnew⟩
    have ht : ∀ p ∈ (I, it) :: (r, W.listOf (List.toArray [.bytes [letter 0].toArray ua, .bytes [letter (base - 1)].toArray ub]) c) :: (ext ++ tl), p.1 ≠ 111 := by
      intro p hp
      rcases List.mem_cons.mp hp with rfl | hp
      · exact (hne _ (.tail _ (.head _))).symm
      rcases List.mem_cons.mp hp with rfl | hp
      · exact hr111.symm
      rcases List.mem_append.mp hp with hp | hp
      · exact Nat.ne_of_gt (hext p hp).1
      · exact t111 p hp
    obtain ⟨F5, ext5, t5, N5, hT5, hext5⟩ := read_news F2 N3 hful ht hsub hk5 hTR hnew
    have N6 : News G L h5 ((I, it) :: (r, W.listOf (List.toArray [.bytes [letter 0].toArray ua, .bytes [letter (base - 1)].toArray ub]) c) :: (111, t5) :: ((ext5 ++ ext) ++ tl)) := fun q hq => by
      rcases List.mem_cons.mp hq with rfl | hq
      · exact N5 _ (.tail _ (List.mem_append_right _ (.head _)))
      rcases List.mem_cons.mp hq with rfl | hq
      · exact N5 _ (.tail _ (List.mem_append_right _ (.tail _ (.head _))))
      rcases List.mem_cons.mp hq with rfl | hq
      · exact N5 _ (.head _)
      rw [List.append_assoc] at hq
      rcases List.mem_append.mp hq with hq | hq
      · exact N5 _ (.tail _ (List.mem_append_left _ hq))
      · exact N5 _ (.tail _ (List.mem_append_right _ (.tail _ (.tail _ hq))))
    rw [hread cc hcc] at hIr
    have sub6 : ∀ q ∈ tl, q ∈ (ext5 ++ ext) ++ tl := fun q hq => List.mem_append_right _ hq
    replace hm2 : (L + 2, o2) ∈ (ext5 ++ ext) ++ tl := by rw [List.append_assoc]; exact List.mem_append_right _ hm2
    replace hm3 : (L + 3, o3) ∈ (ext5 ++ ext) ++ tl := by rw [List.append_assoc]; exact List.mem_append_right _ hm3
    have hT5' : TabL t5 ((ext5 ++ ext) ++ tD) := by rw [List.append_assoc]; exact hT5
    clear F2 N2 N3 N4 N5 hk5 hTR hnew htab
    dsimp only
    k_steps
    refine textsItemIn hTx N6 (fun q hq => .tail _ (.tail _ (.tail _ (sub6 q hq)))) (by omega) (by omega) hn fun r9 vt9 c9 hr9 hI9 => ?_
    rw [Int.toNat_natCast] at hI9
    k_steps
    refine ke_ne_ints (isList_of hro) (isList_of (N6 _ (.tail _ (.tail _ (.tail _ (sub6 _ hr9))))).1) hIr hI9 (by show ut + 64 < _; omega) ?_
    rw [decide_eq_true (rfl : T i = T i), Bool.not_true]
    k_steps
    rename Fr _ _ _ _ => F8
    rename News _ _ _ _ => N8
    refine ⟨_, _, _, _, rfl, F8, N8, fun p hp => ?_, _, ext5 ++ ext, t5, (kstB_self (by (repeat (first | exact trivial | (refine And.intro ?_ ?_; (k_dflt rfl)))))).symm, rfl, hT5', fun q hq => ?_⟩
    · rcases List.mem_cons.mp hp with rfl | hp
      · exact hne (111, t') (.tail _ (.head _))
      rw [List.append_assoc] at hp
      rcases List.mem_append.mp hp with hp | hp
      · exact Nat.ne_of_gt ((hext5 p hp).2 (I, it) (.head _))
      · exact hne p (.tail _ (.tail _ hp))
    · rcases List.mem_append.mp hq with hq | hq
      · exact ⟨(hext5 q hq).1, fun p hp => (hext5 q hq).2 p (.tail _ (.tail _ (List.mem_append_right _ hp)))⟩
      · exact hext q hq
  · rintro m₁ nx h tk ⟨m, ext, t', rfl, rfl, hT, hext⟩ F N
    exact wpAny_execs_nil (hQ h tk m ext t' F N hT hext)


end
end
section
theorem execs_then {M : Model} {A : Around} {env : Env} {E : Value → Shared → Prop} {Q : Flow → Shared → Prop} {body : List Stmt} (n : Nat) {s : Shared}
    (h : wpAny M A (execs (body.take n) env) (fun fl s' => match fl with | .next => wpAny M A (execs (body.drop n) env) Q E s' | f => Q f s') E s) : wpAny M A (execs body env) Q E s := by
  have := execs_cut (body.take n) (body.drop n) h
  rwa [List.take_append_drop] at this
theorem placeS4 : ∀ {w : World} {p : Program} {loose : List Str} {mean : ExcName → Option Value} {mg mb : Str → Option Value} (dp ut : Nat) (fr : Option (List Env)) (gd : Option (List Code)) (s : Shared) (G : Heap) (L fa td : Addr) (m : Str → Option Value) (tl : List (Addr × Obj)) (o2 : Obj) (i : Nat) (t2 v1 v2 b1 b2 : Tok) (base room sz : Int) (wb : Array UInt8) (ths : List Value) (c : Nat)
   (Q : Flow → Shared → Prop) (X : (heapK w.params).In G) (TT : Top p loose mean mg mb G)
   (F : Fr G L s.heap (kstB m [("size", .int sz v1), ("written", .bytes wb v2), ("base", .int base b1), ("room", .int room b2), ("things", .ref td)])) (N : News G L s.heap ((td, W.listOf (List.toArray ths) c) :: tl)) (ttd : ∀ p ∈ tl, p.1 ≠ td)
   (hm2 : (L + 2, o2) ∈ tl) (h2 : o2.data = .cell (some (.int (i : Nat) t2))) (hth : ths.length ≤ 1000)
   (hQ : ∀ (pr : Addr) (h' : Heap) (tk : Nat) (m : Str → Option Value) (c' : Nat) (u1 u2 : Tok), Fr G L h' (kstB m [("base", .int base b1), ("room", .int room b2), ("things", .ref td)]) → News G L h' ((td, W.listOf (List.toArray (ths ++ [Value.ref pr])) c') :: (pr, W.listOf #[.bytes wb u1, .int (i : Nat) u2] 0) :: tl) → @LT.lt Nat _ td pr → (∀ p ∈ tl, p.1 < pr) → Q .next { s with heap := h', toks := tk }),
   wpAny (model P.row.prog w) (Aro dp ut fr gd) (execs ((forBody placeFor).drop 4) (lawEnv L fa)) Q (fun _ _ => False) s := by
  k_with_none
  k_with "assign Tuple" => ((k_here; (with_reducible show wpAny _ _ (assign (Expr.Tuple _ _ _) _ (Value.ref _)) _ _ _); k_dflt (refine' kun_list ?k1 ?k2 ?k3 ?k4 ?k5 ?k6 ?_; (case k1 => k_asm); (case k2 => k_asm); (case k3 => (first | (with_reducible assumption) | exact IsList.stays (by assumption) (Fr.keep (by assumption)) | exact News.isList (by k_asm) (by k_mem))); (case k4 => exact rfl); (case k5 => exact rfl); (case k6 => exact rfl); k_whole); intro h' F' N'; (try k_sweep)))
  w_top off
  k_fill
  intro w p loose mean mg mb dp ut fr gd s G L fa td m tl o2 i t2 v1 v2 b1 b2 base room sz wb ths c Q X TT F N ttd hm2 h2 hth hQ
  have e1 : (forBody placeFor).drop 4 = [.Expr (.Call (.Attribute (.Name _ _) _ _) [.List [.Name _ _, .Name _ _] _] _ _) _] := rfl
  rw [e1]
  clear e1
  dsimp only [lawEnv]
  dsimp only [kstB] at F
  k_steps
  rename (@LT.lt Nat _ td _ ∧ _) => l1
  rename Fr _ _ _ _ => F2
  rename News _ _ _ _ => N2
  rw [List.push_toArray] at N2
  exact hQ _ _ _ _ _ _ _ (fr_kst F2 (by (repeat (first | exact trivial | (refine And.intro ?_ ?_; (k_dflt rfl)))))) (news_swap' N2) l1.1 (allLt_mem l1.2)
/-- the written texts in the ledger -/
noncomputable def ThingsIn (Wd : Nat → List Int) (ths : List Value) (i : Nat) (led : List (Addr × Obj)) : Prop :=
  ths.length = i ∧ ∀ j, j < i → ∃ r u1 u2 c, ths[j]? = some (Value.ref r) ∧ (r, W.listOf #[.bytes ((Wd j).map letter).toArray u1, .int (j : Nat) u2] c) ∈ led
theorem ThingsIn.mono {Wd : Nat → List Int} {ths : List Value} {i : Nat} {led led' : List (Addr × Obj)} (x : ThingsIn Wd ths i led) (sub : ∀ q ∈ led, q ∈ led') : ThingsIn Wd ths i led' :=
  ⟨x.1, fun j hj => by obtain ⟨r, u1, u2, c, a, b⟩ := x.2 j hj; exact ⟨r, u1, u2, c, a, sub _ b⟩⟩
theorem ThingsIn.snoc {Wd : Nat → List Int} {ths : List Value} {i : Nat} {led : List (Addr × Obj)} {pr : Addr} {u1 u2 : Tok} {c : Nat} (x : ThingsIn Wd ths i led) (h : (pr, W.listOf #[.bytes ((Wd i).map letter).toArray u1, .int (i : Nat) u2] c) ∈ led) : ThingsIn Wd (ths ++ [Value.ref pr]) (i + 1) led := by
  refine ⟨by rw [List.length_append, x.1]; rfl, fun j hj => ?_⟩
  by_cases hji : j < i
  · obtain ⟨r, a1, a2, a3, a, b⟩ := x.2 j hji
    exact ⟨r, a1, a2, a3, by rw [List.getElem?_append_left (by rw [x.1]; exact hji)]; exact a, b⟩
  · have : j = i := by omega
    subst this
    exact ⟨pr, u1, u2, c, by rw [← x.1]; simp, h⟩
theorem m_hd {α : Type} {x : α} {l : List α} : x ∈ x :: l := List.mem_cons_self
theorem m_tl {α : Type} {x y : α} {l : List α} (h : x ∈ l) : x ∈ y :: l := List.mem_cons_of_mem _ h
theorem in_r {α : Type} {x : α} {a b : List α} (h : x ∈ b) : x ∈ a ++ b := List.mem_append_right _ h
theorem in_l {α : Type} {x : α} {a b : List α} (h : x ∈ a) : x ∈ a ++ b := List.mem_append_left _ h
theorem sub_nil {α : Type} {l : List α} : ∀ q ∈ ([] : List α), q ∈ l := fun _ h => nomatch h
theorem sub_cons {α : Type} {a : α} {r l : List α} (h : a ∈ l) (t : ∀ q ∈ r, q ∈ l) : ∀ q ∈ a :: r, q ∈ l := List.forall_mem_cons.mpr ⟨h, t⟩
theorem sub_app {α : Type} {a b l : List α} (h1 : ∀ q ∈ a, q ∈ l) (h2 : ∀ q ∈ b, q ∈ l) : ∀ q ∈ a ++ b, q ∈ l := fun q hq => (List.mem_append.mp hq).elim (h1 q) (h2 q)
theorem sub_tl {α : Type} {y : α} {r l : List α} (h : ∀ q ∈ r, q ∈ l) : ∀ q ∈ r, q ∈ y :: l := fun q hq => .tail _ (h q hq)
theorem sub_r {α : Type} {r a b : List α} (h : ∀ q ∈ r, q ∈ b) : ∀ q ∈ r, q ∈ a ++ b := fun q hq => List.mem_append_right _ (h q hq)
theorem sub_l {α : Type} {r a b : List α} (h : ∀ q ∈ r, q ∈ a) : ∀ q ∈ r, q ∈ a ++ b := fun q hq => List.mem_append_left _ (h q hq)
theorem news_mem {G h : Heap} {L : Addr} {l l' : List (Addr × Obj)} (N : News G L h l) (sub : ∀ q ∈ l', q ∈ l) : News G L h l' := fun q hq => N q (sub q hq)


end
section
theorem TabD.mono {tb : Array Value} {tl tl' : List (Addr × Obj)} {c' : Addr} (x : TabD tb tl c') (sub : ∀ q ∈ tl, q ∈ tl') : TabD tb tl' c' := by
  rcases x with x | ⟨cD, oD, a, b, c⟩
  · exact .inl x
  · exact .inr ⟨cD, oD, a, sub _ b, c⟩
theorem placeLoop : ∀ {w : World} {p : Program} {loose : List Str} {mean : ExcName → Option Value} {mg mb : Str → Option Value} (dp ut : Nat) (fr : Option (List Env)) (gd : Option (List Code)) (s : Shared) (G : Heap) (L fa tx le pl c' : Addr) (m : Str → Option Value) (tb : Array Value) (t : Obj) (tl tD : List (Addr × Obj)) (o1 o2 o3 o7 o8 oD : Obj) (v2 : Option Value) (t1 b1 b2 : Tok) (n : Nat) (T Wd : Nat → List Int) (vsE : List Value) (es : List Int) (cE k : Nat) (base room : Int)
   (Q : Flow → Shared → Prop) (X : (heapK w.params).In G) (TT : Top p loose mean mg mb G) (C1 : CodeHd G 127 125)
   (F : Fr G L s.heap (kstB m [("base", .int base b1), ("room", .int room b2)])) (N : News G L s.heap ((L + 2, o2) :: (125, tabObj tb) :: (111, t) :: tl)) (h2 : o2.data = .cell v2) (hTD : TabD tb tD c') (hTL : TabL t tD) (hsD : ∀ q ∈ tD, q ∈ tl)
   (tt2 : ∀ p ∈ tl, p.1 ≠ L + 2) (t125 : ∀ p ∈ tl, p.1 ≠ 125) (t111 : ∀ p ∈ tl, p.1 ≠ 111) (hL : @LT.lt Nat _ 128 L)
   (hm1 : (L + 1, o1) ∈ tl) (h1 : o1.data = .cell (some (.bytes alph.toArray t1))) (hm3 : (L + 3, o3) ∈ tl) (h3 : o3.data = .cell (some (.ref tx))) (hm7 : (L + 7, o7) ∈ tl) (h7 : o7.data = .cell (some (.ref le))) (hm8 : (L + 8, o8) ∈ tl) (h8 : o8.data = .cell (some (.ref pl)))
   (hpl : (pl, oD) ∈ tl) (hPO : PlacesO w pl oD) (hTx : TextsIn tl tx n T) (hT5 : ∀ j, (T j).length = 5) (hT4 : ∀ j, ∀ x ∈ T j, 0 ≤ x ∧ x < 4) (hn : n ≤ 1000) (hle : (le, W.listOf (List.toArray vsE) cE) ∈ tl) (hI : IntsAre vsE es) (he : EndsOk es)
   (hW : ∀ j, j < n → WordOk base room k (encF es (T j)).1 (encF es (T j)).2 (Wd j))
   (hread : ∀ j, j < n → ∀ c : Int, c = 0 ∨ c = base - 1 → readF es (valF base (Wd j ++ List.replicate (room - (Wd j).length).toNat c)) = T j)
   (hdp : dp + 200 < recursionLimit) (hu : ut + 800 < cLine)
   (hQ : ∀ (td : Addr) (ths : List Value) (c : Nat) (h' : Heap) (tk : Nat) (m : Str → Option Value) (ext : List (Addr × Obj)) (tb' : Array Value) (t' o2' : Obj) (v2' : Option Value), Fr G L h' (kstB m [("base", .int base b1), ("room", .int room b2), ("things", .ref td)]) → News G L h' ((td, W.listOf (List.toArray ths) c) :: (L + 2, o2') :: (125, tabObj tb') :: (111, t') :: (ext ++ tl)) →
     o2'.data = .cell v2' → TabD tb' (ext ++ tD) c' → TabL t' (ext ++ tD) → ThingsIn Wd ths n (ext ++ tl) → (∀ q ∈ ext, td < q.1 ∧ L + 2 < q.1 ∧ ∀ p ∈ tl, p.1 < q.1) → (∀ p ∈ tl, p.1 < td) → @LT.lt Nat _ (L + 2) td → Q .next { s with heap := h', toks := tk }),
   wpAny (model P.row.prog w) (Aro dp ut fr gd) (execs ((forBody (nthL 10 lawB)).take 2) (lawEnv L fa)) Q (fun _ _ => False) s := by
  k_with_none
  k_with "assign Tuple" => ((k_here; (with_reducible show wpAny _ _ (assign (Expr.Tuple _ _ _) _ (Value.ref _)) _ _ _); k_dflt (refine' kun_list ?k1 ?k2 ?k3 ?k4 ?k5 ?k6 ?_; (case k1 => k_asm); (case k2 => k_asm); (case k3 => (first | (with_reducible assumption) | exact IsList.stays (by assumption) (Fr.keep (by assumption)) | exact News.isList (by k_asm) (by k_mem))); (case k4 => exact rfl); (case k5 => exact rfl); (case k6 => exact rfl); k_whole); intro h' F' N'; (try k_sweep)))
  k_with "m_in" => first | (with_reducible exact m_hd) | (with_reducible refine m_tl ?_; walk_at "m_in") | (with_reducible refine in_r ?_; walk_at "m_in") | (with_reducible refine in_l ?_; walk_at "m_in")
  k_with "m_suf" => first | exact fun _ h => h | (with_reducible refine sub_tl ?_; walk_at "m_suf") | (with_reducible refine sub_r ?_; walk_at "m_suf") | (with_reducible refine sub_l ?_; walk_at "m_suf")
  k_with "m_sub" => first | exact sub_nil | ((with_reducible refine sub_cons ?_ ?_); (focus walk_at "m_in"); (focus walk_at "m_sub")) | ((with_reducible refine sub_app ?_ ?_); (focus walk_at "m_sub"); (focus walk_at "m_sub")) | walk_at "m_suf"
  w_top off
  k_fill
  intro w p loose mean mg mb dp ut fr gd s G L fa tx le pl c' m tb t tl tD o1 o2 o3 o7 o8 oD v2 t1 b1 b2 n T Wd vsE es cE k base room Q X TT C1 F N h2 hTD hTL hsD tt2 t125 t111 hL hm1 h1 hm3 h3 hm7 h7 hm8 h8 hpl hPO hTx hT5 hT4 hn hle hI he hW hread hdp hu hQ
  have e1 : (forBody (nthL 10 lawB)).take 2 = [.Assign [.Name _ _] (.List [] _) _, .For (.Name _ _) (.Call (.Name _ _) _ _ _) (forBody placeFor) [] _] := rfl
  rw [e1]
  clear e1
  dsimp only [lawEnv]
  dsimp only [kstB] at F
  refine execs_mid 1 (fun s' => ∃ (td : Addr) (c : Nat) (m : Str → Option Value), (∀ p ∈ tl, p.1 < td) ∧ @LT.lt Nat _ (L + 2) td ∧ At s G L (kstB m [("base", .int base b1), ("room", .int room b2), ("things", .ref td)]) ((td, W.listOf (List.toArray []) c) :: (L + 2, o2) :: (125, tabObj tb) :: (111, t) :: tl) s') ?_ ?_
  · dsimp only [List.take]
    k_steps
    rename Fr _ _ _ _ => F2
    rename News _ _ _ _ => N2
    rename (_ ∧ _ ∧ _ ∧ AllLt _ tl) => l1
    exact ⟨rfl, _, _, _, allLt_mem l1.2.2.2, l1.1, _, _, rfl, fr_kst F2 (by (repeat (first | exact trivial | (refine And.intro ?_ ?_; (k_dflt rfl))))), N2⟩
  clear F N
  rintro s' ⟨td, c, m, htd, hLtd, h, tk, rfl, F, N⟩
  dsimp only [List.drop]
  refine wpAny_execs_cons ?_
  refine forRange (h₀ := G) (L := L) (fun v s₁ => ∃ (r : Addr) (t₀ u₀ v₀ : Tok) (h : Heap) (tk : Nat), v = .ref r ∧ s₁ = { s with heap := h, toks := tk } ∧ IsRange h r 0 (n : Nat) 1 t₀ u₀ v₀ ∧ Fr G L h (kstB m [("base", .int base b1), ("room", .int room b2), ("things", .ref td)]) ∧ News G L h ((td, W.listOf (List.toArray []) c) :: (L + 2, o2) :: (125, tabObj tb) :: (111, t) :: tl)) ?_ ?_
  · dsimp only [kstB] at F
    k_steps
    refine textsLen (hTx.at N fun p hp => .tail _ (.tail _ (.tail _ (.tail _ hp)))) hn fun t9 tk9 => ?_
    k_steps
    exact ⟨_, _, _, _, _, _, rfl, rfl, by assumption, by assumption, by assumption⟩
  clear F N
  rintro v s₁ ⟨r, t₀, u₀, v₀, h, tk, rfl, rfl, hR, F, N⟩
  refine ⟨r, n, t₀, u₀, v₀, _, _, rfl, hR, by omega, rfl, F, N, fun i m₁ nx => ∃ m ths c ext tb t o2 v2, m₁ = kstB m [("base", .int base b1), ("room", .int room b2), ("things", .ref td)] ∧ nx = (td, W.listOf (List.toArray ths) c) :: (L + 2, o2) :: (125, tabObj tb) :: (111, t) :: (ext ++ tl) ∧ o2.data = .cell v2 ∧ TabD tb (ext ++ tD) c' ∧ TabL t (ext ++ tD) ∧ ThingsIn Wd ths i (ext ++ tl) ∧ ∀ q ∈ ext, td < q.1 ∧ L + 2 < q.1 ∧ ∀ p ∈ tl, p.1 < q.1,
    ⟨m, [], c, [], tb, t, o2, v2, rfl, rfl, h2, hTD, hTL, ⟨rfl, fun j hj => absurd hj (Nat.not_lt_zero _)⟩, fun _ q => nomatch q⟩, ?_, ?_⟩
  · clear F N hR hTD hTL h2
    rintro i t9 m₁ nx h tk I it hin ⟨m, ths, c, ext, tb, t, o2, v2, rfl, rfl, h2, hTD, hTL, hTh, hext⟩ F N hne
    have tI : ∀ p ∈ ext ++ tl, p.1 ≠ I := fun p hp => hne p (.tail _ (.tail _ (.tail _ (.tail _ hp))))
    have tE2 : ∀ p ∈ ext ++ tl, p.1 ≠ L + 2 := fun p hp => (List.mem_append.mp hp).elim (fun q => Nat.ne_of_gt (hext p q).2.1) (tt2 p)
    have tE125 : ∀ p ∈ ext ++ tl, p.1 ≠ 125 := fun p hp => (List.mem_append.mp hp).elim (fun q => Nat.ne_of_gt (Nat.lt_trans (by show @LT.lt Nat _ 125 (L + 2); omega) (hext p q).2.1)) (t125 p)
    have tE111 : ∀ p ∈ ext ++ tl, p.1 ≠ 111 := fun p hp => (List.mem_append.mp hp).elim (fun q => Nat.ne_of_gt (Nat.lt_trans (by show @LT.lt Nat _ 111 (L + 2); omega) (hext p q).2.1)) (t111 p)
    have tEtd : ∀ p ∈ ext ++ tl, p.1 ≠ td := fun p hp => (List.mem_append.mp hp).elim (fun q => Nat.ne_of_gt (hext p q).1) (fun q => Nat.ne_of_lt (htd p q))
    have nI1 : @Ne Nat td I := hne _ (.head _)
    have nI2 : @Ne Nat (L + 2) I := hne _ (.tail _ (.head _))
    have nI3 : @Ne Nat 125 I := hne _ (.tail _ (.tail _ (.head _)))
    have nI4 : @Ne Nat 111 I := hne _ (.tail _ (.tail _ (.tail _ (.head _))))
    walk_at "assign Name"
    k_dflt (refine' storeX_C ?F ?N ?c ?U ?d ?_ ?a ?b; (case a => rfl); (case b => rfl); (case F => k_asm); (case N => k_asm); (case c => rfl); (case U => k_updF); (case d => k_asm); k_whole; intro h' o' F' N' d'; (try dsimp only at N'); (try k_sweep))
    rename Fr _ _ _ _ => F1
    rename News _ _ _ _ => N1
    rename (Obj.data _ = Data.cell (some (Value.int _ _))) => h2'
    clear h2
    have sub : ∀ q ∈ tl, q ∈ ext ++ tl := fun q hq => List.mem_append_right _ hq
    have N2 := news_mem (l' := (125, tabObj tb) :: (I, it) :: (td, W.listOf (List.toArray ths) c) :: (L + 2, o') :: (111, t) :: (ext ++ tl)) N1 (by
      walk_at "m_sub")
    refine execs_then 1 (placeS0 (p := p) dp ut fr gd _ G L fa c' tx le td m tb _ (ext ++ tD) _ o3 o7 i t9 b1 b2 n T vsE es cE base room _ X TT C1 F1 N2 hTD ?hsD0 ?ht0 (by k_mem) h2' (.tail _ (.tail _ (.tail _ (.tail _ (sub _ hm3))))) h3 (.tail _ (.tail _ (.tail _ (.tail _ (sub _ hm7))))) h7 (hTx.mono fun q hq => .tail _ (.tail _ (.tail _ (.tail _ (sub _ hq))))) hT5 hT4 hin hn (.tail _ (.tail _ (.tail _ (.tail _ (sub _ hle))))) hI he hdp hu ?_)
    case hsD0 => exact fun q hq => .tail _ (.tail _ (.tail _ (.tail _ ((List.mem_append.mp hq).elim (fun q => List.mem_append_left _ q) fun q => List.mem_append_right _ (hsD _ q)))))
    case ht0 =>
      intro p hp
      rcases List.mem_cons.mp hp with rfl | hp
      · exact nI3.symm
      rcases List.mem_cons.mp hp with rfl | hp
      · show @Ne Nat td 125; omega
      rcases List.mem_cons.mp hp with rfl | hp
      · show @Ne Nat (L + 2) 125; omega
      rcases List.mem_cons.mp hp with rfl | hp
      · show @Ne Nat 111 125; omega
      · exact tE125 p hp
    intro ext0 tb' h3' tk3 m3 u1 u2 F3 N3 hTD3 hext0
    clear F1 N1 N2
    dsimp only
    have hWi := hW i hin
    obtain ⟨w1, w2, w3⟩ := encF_inv he 5 (T i) (hT5 i) (hT4 i)
    refine execs_then 2 (placeS12 (p := p) dp ut fr gd _ G L fa td m3 _ u1 u2 b1 b2 base room _ _ k (Wd i) _ X TT F3 N3 hWi w1 (by omega) w3 hdp hu ?_)
    intro h4 tk4 m4 v1 v2' F4 N4
    clear F3 N3
    dsimp only
    rw [List.drop_drop]
    have N5 := news_mem (l' := (111, t) :: ((125, tabObj tb') :: (I, it) :: (td, W.listOf (List.toArray ths) c) :: (L + 2, o') :: (ext0 ++ (ext ++ tl)))) N4 (by
      walk_at "m_sub")
    have sub4 : ∀ q ∈ tl, q ∈ (125, tabObj tb') :: (I, it) :: (td, W.listOf (List.toArray ths) c) :: (L + 2, o') :: (ext0 ++ (ext ++ tl)) := fun q hq => .tail _ (.tail _ (.tail _ (.tail _ (List.mem_append_right _ (sub q hq)))))
    refine execs_then 1 (placeS3 (p := p) dp ut fr gd _ G L fa tx le td pl m4 t _ (ext ++ tD) o1 o' o3 o7 o8 oD i t1 t9 b1 b2 v1 v2' n T vsE es (Wd i) cE base room _ X TT F4 N5 hTL ?hsD1 ?ht1 (sub4 _ hm1) h1 (by k_mem) h2' (sub4 _ hm3) h3 (sub4 _ hm7) h7 (sub4 _ hm8) h8 (sub4 _ hpl) hPO (hTx.mono sub4) hin hn (sub4 _ hle) hI he ?hbr ?hd1 ?hd2 hWi.dig (hread i hin) hdp hu ?_)
    case hsD1 => exact fun q hq => (List.mem_append.mp hq).elim (fun q => .tail _ (.tail _ (.tail _ (.tail _ (List.mem_append_right _ (List.mem_append_left _ q)))))) fun q => sub4 _ (hsD _ q)
    case ht1 =>
      intro p hp
      simp only [List.mem_cons, List.mem_append] at hp
      rcases hp with hp | hp | hp | hp | hp | hp
      · rw [hp]; show @Ne Nat 125 111; omega
      · rw [hp]; exact nI4.symm
      · rw [hp]; show @Ne Nat td 111; omega
      · rw [hp]; show @Ne Nat (L + 2) 111; omega
      · exact Nat.ne_of_gt (Nat.lt_trans (by show @LT.lt Nat _ 111 125; omega) (hext0 p hp).1)
      · exact tE111 p (List.mem_append.mpr hp)
    case hbr => rcases hWi.hbr with ⟨a, b, _⟩ | ⟨a, b, _⟩ <;> omega
    case hd1 => have := hWi.sz.1; rw [← hWi.len] at this; omega
    case hd2 => rw [hWi.len]; exact hWi.sz.2
    intro h5 tk5 m5 ext3 t3 F5 N6 hTL5 hext3
    clear F4 N4 N5
    dsimp only
    rw [List.drop_drop]
    have N7 := news_mem (l' := (td, W.listOf (List.toArray ths) c) :: ((L + 2, o') :: (I, it) :: (125, tabObj tb') :: (111, t3) :: (ext3 ++ (ext0 ++ (ext ++ tl))))) N6 (by
      walk_at "m_sub")
    refine placeS4 (p := p) dp ut fr gd _ G L fa td m5 _ o' i t9 v1 v2' b1 b2 base room _ _ ths c _ X TT F5 N7 ?httd (.head _) h2' (by rw [hTh.1]; omega) ?_
    case httd =>
      intro p hp
      simp only [List.mem_cons, List.mem_append] at hp
      rcases hp with hp | hp | hp | hp | hp | hp | hp
      · rw [hp]; show @Ne Nat (L + 2) td; omega
      · rw [hp]; exact nI1.symm
      · rw [hp]; show @Ne Nat 125 td; omega
      · rw [hp]; show @Ne Nat 111 td; omega
      · exact Nat.ne_of_gt ((hext3 p hp).2 (td, _) (.tail _ (.tail _ (.head _))))
      · exact Nat.ne_of_gt ((hext0 p hp).2 (td, _) (.tail _ (.head _)))
      · exact tEtd p (List.mem_append.mpr hp)
    intro pr h6 tk6 m6 c6 x1 x2 F6 N8 hpr1 hpr2
    clear F5 N6 N7
    show ∃ h' tk' m' nx, _
    have N9 := news_mem (l' := (I, it) :: (td, W.listOf (List.toArray (ths ++ [Value.ref pr])) c6) :: (L + 2, o') :: (125, tabObj tb') :: (111, t3) :: (((pr, W.listOf #[.bytes ((Wd i).map letter).toArray x1, .int (i : Nat) x2] 0) :: (ext3 ++ (ext0 ++ ext))) ++ tl)) N8 (by
      walk_at "m_sub")
    refine ⟨h6, tk6, _, _, rfl, (N9 _ (.head _)).1, F6, news_mem N9 fun q hq => .tail _ hq, ?_, m6, _, _, _, _, _, _, _, rfl, rfl, h2', ?_, ?_, ?_, ?_⟩
    · intro p hp
      simp only [List.mem_cons, List.mem_append] at hp
      rcases hp with hp | hp | hp | hp | (hp | hp | hp | hp) | hp
      · rw [hp]; exact nI1
      · rw [hp]; exact nI2
      · rw [hp]; exact nI3
      · rw [hp]; exact nI4
      · rw [hp]; exact Nat.ne_of_gt (hpr2 (I, it) (.tail _ (.head _)))
      · exact Nat.ne_of_gt ((hext3 p hp).2 (I, it) (.tail _ (.head _)))
      · exact Nat.ne_of_gt ((hext0 p hp).2 (I, it) (.head _))
      · exact tI p (List.mem_append_left _ hp)
      · exact tI p (List.mem_append_right _ hp)
    · refine hTD3.mono fun q hq => ?_
      simp only [List.mem_cons, List.mem_append] at hq ⊢
      rcases hq with hq | hq | hq <;> simp only [hq, true_or, or_true]
    · refine hTL5.mono fun q hq => ?_
      simp only [List.mem_cons, List.mem_append] at hq ⊢
      rcases hq with hq | hq | hq <;> simp only [hq, true_or, or_true]
    · refine ThingsIn.snoc (hTh.mono fun q hq => ?_) (.head _)
      simp only [List.mem_cons, List.mem_append] at hq ⊢
      rcases hq with hq | hq <;> simp only [hq, true_or, or_true]
    · intro q hq
      simp only [List.mem_cons, List.mem_append] at hq
      have mtl : ∀ p ∈ tl, p ∈ ext3 ++ (ext0 ++ (ext ++ tl)) := fun p hp => by
        simp only [List.mem_append]; simp only [hp, or_true]
      rcases hq with hq | hq | hq | hq
      · rw [hq]; exact ⟨hpr1, hpr2 (L + 2, o') (.head _), fun p hp => hpr2 p (.tail _ (.tail _ (.tail _ (.tail _ (mtl p hp)))))⟩
      · have := (hext3 q hq).2
        exact ⟨this (td, _) (.tail _ (.tail _ (.head _))), this (L + 2, o') (.tail _ (.tail _ (.tail _ (.head _)))), fun p hp => this p (sub4 p hp)⟩
      · have := (hext0 q hq).2
        exact ⟨this (td, _) (.tail _ (.head _)), this (L + 2, o') (.tail _ (.tail _ (.head _))), fun p hp => this p (.tail _ (.tail _ (.tail _ (.tail _ (sub p hp)))))⟩
      · exact hext q hq
  · rintro m₁ nx h tk ⟨m, ths, c, ext, tb, t, o2, v2, rfl, rfl, h2, hTD, hTL, hTh, hext⟩ F N
    exact wpAny_execs_nil (hQ td ths c h tk m ext tb t o2 v2 F N h2 hTD hTL hTh hext htd hLtd)


end
end
section
theorem lk_lt : ∃ y, typeLookup (.type "object") "__lt__" = pure y := ⟨some (.builtin "object.__lt__"), by rw [typeLookup_type, builtinLookup_eq_fast]; kernel_rfl⟩
theorem lk_eq : ∃ y, typeLookup (.type "object") "__eq__" = pure y := ⟨some (.builtin "object.__eq__"), by rw [typeLookup_type, builtinLookup_eq_fast]; kernel_rfl⟩
theorem mro_ob : mroOf (.type "object") = pure [.type "object"] := by kernel_rfl
theorem kNs_ns {h : Heap} {n : Addr} {x : KT} {f0 f1 f2 f3 f4 f5 ds : Addr} (e : h.get? n = some (kNs x f0 f1 f2 f3 f4 f5 ds)) : ∃ mN, h.Ns n mN ∧ mN "__lt__" = some (.ref f1) ∧ mN "__eq__" = some (.ref f3) := by
  refine ⟨_, ⟨_, _, _, e, rfl, ?_, fun _ => rfl⟩, by kernel_rfl, by kernel_rfl⟩
  intro e he
  simp only [List.mem_toArray, List.mem_cons, List.not_mem_nil, or_false] at he
  rcases he with rfl | rfl | rfl | rfl | rfl | rfl | rfl | rfl | rfl | rfl | rfl | rfl | rfl <;> exact ⟨_, _, rfl⟩
theorem KA.own_lt {a : KA} {V v : Value} {h : Heap} {x dx : Addr} (hat : a.at V h) (hx : h.get? x = some (kInst a.c dx v)) : h.OwnSpecial x a.c a.f1 "object" "__lt__" := by
  obtain ⟨a1, a2, a3, a4, a5, a6, a7, a8, a9, a10⟩ := hat
  obtain ⟨mN, n1, n2, n3⟩ := kNs_ns a2
  obtain ⟨y, hy⟩ := lk_lt
  exact ⟨_, _, _, _, a.ns, _, _, _, _, _, _, _, _, _, _, _, _, _, _, mN, y, hx, rfl, a1, n1, n2, a6, rfl, mro_ob, hy⟩
theorem KA.own_eq {a : KA} {V v : Value} {h : Heap} {x dx : Addr} (hat : a.at V h) (hx : h.get? x = some (kInst a.c dx v)) : h.OwnSpecial x a.c a.f3 "object" "__eq__" := by
  obtain ⟨a1, a2, a3, a4, a5, a6, a7, a8, a9, a10⟩ := hat
  obtain ⟨mN, n1, n2, n3⟩ := kNs_ns a2
  obtain ⟨y, hy⟩ := lk_eq
  exact ⟨_, _, _, _, a.ns, _, _, _, _, _, _, _, _, _, _, _, _, _, _, mN, y, hx, rfl, a1, n1, n3, a7, rfl, mro_ob, hy⟩
section
variable {prog : Program} {w : World} {A : Around} {E : Value → Shared → Prop} {h : Heap} {g : Array GenState} {d : Drawn} {t : Nat} {os : OsState}
theorem lt_inst {x C f : Addr} {B : String} {b : Value} {Q : Bool → Shared → Prop} (hu : A.units < cLine) (X : h.OwnSpecial x C f B "__lt__")
    (hc : wpAny (model prog w) A (call (.ref f) [.ref x, b]) (fun v s' => ∃ c, v = .bool c ∧ Q c s') E ⟨h, g, d, t, os⟩) : wpAny (model prog w) A (keyLt' oneType' (.ref x) b) Q E ⟨h, g, d, t, os⟩ := by
  rw [keyLt'_oneType, oneLt'_eq]
  simp only [if_true]
  refine wpAny_bind (wpAny_cRoomFor hu ?_)
  refine wpAny_bind (wpAny_callSpecialIfBound?_own X (wpAny_mono hc (fun v s' hv => ?_) fun _ _ e => e))
  obtain ⟨c, rfl, hq⟩ := hv
  exact wpAny_truthy_bool hq
end
theorem KA.at_stays {a : KA} {V : Value} {h h' : Heap} (hat : a.at V h) (st : h.StaysIn h') : a.at V h' := by
  obtain ⟨a1, a2, a3, a4, a5, a6, a7, a8, a9, a10⟩ := hat
  exact ⟨st _ _ a1, st _ _ a2, st _ _ a3, st _ _ a4, st _ _ a5, st _ _ a6, st _ _ a7, st _ _ a8, st _ _ a9, st _ _ a10⟩
/-- what the key's function stands on -/
structure KeyAt (w : World) (h : Heap) (L : Addr) (a : KA) (f pl : Addr) : Prop where
  ok : a.ok
  at' : a.at (.ref f) h
  fn : ∃ pm c' ctv oc o8, h.get? f = some (kla_obj "<lambda>" "law.<locals>.<lambda>" lamC.1 lamC.2.1 lamC.2.2.1 [("places", L + 8)] pm c' ctv) ∧ h.get? c' = some oc ∧ CodeOf oc "law.<locals>.<lambda>" ∧ h.get? (L + 8) = some o8 ∧ o8.data = .cell (some (.ref pl))
  pl : Places w h pl
theorem KeyAt.stays {w : World} {h h' : Heap} {L : Addr} {a : KA} {f pl : Addr} (x : KeyAt w h L a f pl) (st : h.StaysIn h') : KeyAt w h' L a f pl where
  ok := x.ok
  at' := KA.at_stays x.at' st
  fn := by obtain ⟨pm, c', ctv, oc, o8, b1, b2, b3, b4, b5⟩ := x.fn; exact ⟨pm, c', ctv, oc, o8, st _ _ b1, st _ _ b2, b3, st _ _ b4, b5⟩
  pl := x.pl.stays st
/-- the comparison's contract -/
theorem KeyAt.cmp {w : World} {h : Heap} {L : Addr} {a : KA} {f pl : Addr} {p : Program} {loose : List Str} {mean : ExcName → Option Value} {mg mb : Str → Option Value} (K : KeyAt w h L a f pl) (X : (heapK w.params).In h) (T : Top p loose mean mg mb h)
    {g : Array GenState} {d : Drawn} {os : OsState} {n m : Nat} {vx vy : Addr} {x y : List Int} {v1 v2 : Value} {t1 t2 : Tok} (hx : h.IsList vx #[.bytes (x.map letter).toArray t1, v1]) (hy : h.IsList vy #[.bytes (y.map letter).toArray t2, v2])
    (hxl : x.length ≤ 6) (hyl : y.length ≤ 6) (hx1 : ∀ z ∈ x, 0 ≤ z ∧ z < 64) (hy1 : ∀ z ∈ y, 0 ≤ z ∧ z < 64) (hn : n + 60 < recursionLimit) (hm : m + 200 < cLine) : CmpOk w g d os n m (.ref f) (.ref vx) (.ref vy) (gapF x y) h := by
  intro A h' tk R hh hd hu st hR
  obtain ⟨pm, c', ctv, oc, o8, b1, b2, ⟨vs, tq, q1, q2⟩, b4, b5⟩ := K.fn
  obtain ⟨hA, dA, fA, gA, uA⟩ := A
  dsimp only at hh hd hu
  subst hh
  exact gapStep (p := p) (loose := loose) (mean := mean) (mg := mg) (mb := mb) dA uA fA gA ⟨h', g, d, tk, os⟩ R f c' (L + 8) pl vx vy pm ctv o8 x y v1 v2 t1 t2 (Frag.In.keeps X st) (T.keeps st) (st _ _ b1) ⟨c', oc, vs, tq, rfl, st _ _ b2, q1, q2⟩ (st _ _ b4) b5 (K.pl.stays st) (IsList.stays hx st) (IsList.stays hy st) hxl hyl hx1 hy1 (by omega) (by omega) fun h2 tk2 u st2 => hR h2 tk2 u st2


end
section
/-- the written texts in the heap -/
noncomputable def ThingsAt (Wd : Nat → List Int) (ths : List Value) (n : Nat) (h : Heap) : Prop :=
  ths.length = n ∧ ∀ j, j < n → ∃ r u1 v1, ths[j]? = some (Value.ref r) ∧ h.IsList r #[.bytes ((Wd j).map letter).toArray u1, v1]
theorem ThingsAt.stays {Wd : Nat → List Int} {ths : List Value} {n : Nat} {h h' : Heap} (x : ThingsAt Wd ths n h) (st : h.StaysIn h') : ThingsAt Wd ths n h' :=
  ⟨x.1, fun j hj => let ⟨r, u1, v1, a, b⟩ := x.2 j hj; ⟨r, u1, v1, a, IsList.stays b st⟩⟩
theorem ThingsIn.at {Wd : Nat → List Int} {ths : List Value} {n : Nat} {led news : List (Addr × Obj)} {G h : Heap} {L : Addr} (x : ThingsIn Wd ths n led) (N : News G L h news) (sub : ∀ q ∈ led, q ∈ news) : ThingsAt Wd ths n h :=
  ⟨x.1, fun j hj => let ⟨r, u1, u2, c, a, b⟩ := x.2 j hj; ⟨r, u1, _, a, isList_of (N _ (sub _ b)).1⟩⟩
section
variable {w : World} {p : Program} {loose : List Str} {mean : ExcName → Option Value} {mg mb : Str → Option Value} {dp ut : Nat} {fr : Option (List Env)} {gd : Option (List Code)} {s : Shared} {L : Addr} {a : KA} {f pl td : Addr} {Wd : Nat → List Int} {ths : List Value} {n : Nat}
/-- a key of a thing -/
theorem keyMake {A : Around} {r : Addr} {h : Heap} {tk : Nat} {Q : Value → Shared → Prop} (hA : A.handled = none) (hdd : A.depth + 60 < recursionLimit) (hu : A.units + 300 < cLine) (X : (heapK w.params).In h) (K : KeyAt w h L a f pl)
    (hQ : ∀ (x dd : Addr) (h' : Heap) (tk' : Nat), h.StaysIn h' → h.get? x = none → h'.get? x = some (kInst a.c dd (.ref r)) → Q (.ref x) { s with heap := h', toks := tk' }) :
    wpAny (model P.row.prog w) A (call (.ref a.c) [.ref r]) Q (fun _ _ => False) { s with heap := h, toks := tk } :=
  keyCall X K.at' K.ok (fun x dd h' tk' st hge hx => hQ x dd h' tk' st (Heap.get?_none_of_le hge) hx) hA hdd hu
theorem KeyAt.cmpThings {h : Heap} {i j : Nat} {r1 r2 : Addr} {g : Array GenState} {d : Drawn} {os : OsState} {nn mm : Nat} (K : KeyAt w h L a f pl) (X : (heapK w.params).In h) (T : Top p loose mean mg mb h) (hth : ThingsAt Wd ths n h)
    (hW : ∀ j, j < n → (Wd j).length ≤ 6 ∧ ∀ x ∈ Wd j, 0 ≤ x ∧ x < 64) (hi : i < n) (hj : j < n) (e1 : ths[i]? = some (.ref r1)) (e2 : ths[j]? = some (.ref r2)) (hn : nn + 60 < recursionLimit) (hm : mm + 200 < cLine) : CmpOk w g d os nn mm (.ref f) (.ref r1) (.ref r2) (gapF (Wd i) (Wd j)) h := by
  obtain ⟨q1, u1, v1, a1, b1⟩ := hth.2 i hi
  obtain ⟨q2, u2, v2, a2, b2⟩ := hth.2 j hj
  rw [e1] at a1
  cases a1
  rw [e2] at a2
  cases a2
  exact K.cmp X T b1 b2 (hW i hi).1 (hW j hj).1 (hW i hi).2 (hW j hj).2 hn hm
theorem sortThings {Q : Value → Shared → Prop} {lt : Nat → Nat → Bool} (X : (heapK w.params).In s.heap) (T : Top p loose mean mg mb s.heap) (K : KeyAt w s.heap L a f pl) (hl : s.heap.IsList td ths.toArray) (hth : ThingsAt Wd ths n s.heap)
    (hW : ∀ j, j < n → (Wd j).length ≤ 6 ∧ ∀ x ∈ Wd j, 0 ≤ x ∧ x < 64) (hlt : ∀ i j, i < n → j < n → (lt i j = true ↔ gapF (Wd i) (Wd j) < 0)) (h2 : 2 ≤ n) (h64 : n < 64) (hin : inT n lt (kas_sort n) = true) (hlen : (evT lt (kas_sort n)).size ≤ 100)
    (hdp : dp + 400 < recursionLimit) (hu : ut + 1000 < cLine)
    (hQ : ∀ D h' tk c, s.heap.StaysIn h' → s.heap.get? D = none → h'.get? D = some (W.listOf ((evT lt (kas_sort n)).toList.map fun i => ths.getD i Value.none).toArray c) → Q (.ref D) { s with heap := h', toks := tk }) :
    wpAny (model P.row.prog w) (Aro dp ut fr gd) (call (.builtin "sorted") [.ref td] [(Str.ofString "key", .ref a.c)]) Q (fun _ _ => False) s := by
  obtain ⟨hz, hat⟩ := id hth
  subst hz
  refine sk_sorted (Kobj := fun i o => ∃ dd r, ths[i]? = some (Value.ref r) ∧ o = kInst a.c dd (.ref r)) (lt := lt) (T := .ref a.c) hl h2 h64 ?turn ?ask ?hT (bne_iff_ne.mpr (by intro q; cases q)) (by simp) hin hlen hQ
  case turn =>
    intro i v hv h tk st
    have hi : i < ths.length := (List.getElem?_eq_some_iff.mp hv).1
    obtain ⟨r, u1, v1, e, _⟩ := hat i hi
    rw [hv] at e
    cases e
    refine keyMake (s := s) rfl (by show dp + 60 < _; omega) (by show ut + 1 + 1 + 300 < _; omega) (Frag.In.keeps X st) (K.stays st) fun x dd h' tk' st2 hx0 hx => ?_
    exact ⟨x, _, h', tk', rfl, ⟨dd, r, hv, rfl⟩, rfl, st2, hx0, hx⟩
  case ask =>
    rintro i j x y ox oy hi hj h tk st ⟨dx, r1, e1, rfl⟩ ⟨dy, r2, e2, rfl⟩ hx hy
    have Kh := K.stays st
    refine lt_inst (by show ut + 1 + 1 < _; omega) (KA.own_lt Kh.at' hx) ?_
    obtain ⟨pm, c', ctv, oc, o8, b1, _⟩ := Kh.fn
    refine keyLt (n := dp + 100) (m := ut + 500) (Frag.In.keeps X st) Kh.at' Kh.ok hx hy b1 (Kh.cmpThings (Frag.In.keeps X st) (T.keeps st) (hth.stays st) hW hi hj e1 e2 (by omega) (by omega)) ?_ rfl (by show dp + 60 ≤ _; omega) (by show ut + 1 + 1 + 300 ≤ _; omega) (by show dp + 60 < _; omega) (by show ut + 1 + 1 + 300 < _; omega)
    intro b h' tk' st2 hb
    refine ⟨b, rfl, ?_, h', tk', rfl, st2⟩
    have h9 := hlt i j hi hj
    cases b with
    | true => exact (h9.mpr (hb.mp rfl)).symm
    | false =>
      cases hq : lt i j with
      | false => rfl
      | true => exact hb.mpr (h9.mp hq)
  case hT =>
    rintro i o x h ⟨dd, r, _, rfl⟩ hx A Q E s' st hq
    exact wpAny_typeOf_ref (st _ _ hx) hq
/-- two keys' equality -/
theorem eqThings {A : Around} {h : Heap} {tk i j : Nat} {x y dx dy r1 r2 : Addr} {Q : Value → Shared → Prop} (hA : A.handled = none) (hdp : A.depth + 300 < recursionLimit) (hu : A.units + 900 < cLine) (X : (heapK w.params).In h) (T : Top p loose mean mg mb h) (K : KeyAt w h L a f pl) (hth : ThingsAt Wd ths n h)
    (hW : ∀ j, j < n → (Wd j).length ≤ 6 ∧ ∀ x ∈ Wd j, 0 ≤ x ∧ x < 64) (hi : i < n) (hj : j < n) (e1 : ths[i]? = some (.ref r1)) (e2 : ths[j]? = some (.ref r2)) (hx : h.get? x = some (kInst a.c dx (.ref r1))) (hy : h.get? y = some (kInst a.c dy (.ref r2)))
    (hQ : ∀ h' tk', h.StaysIn h' → Q (.bool (decide (gapF (Wd i) (Wd j) = 0))) { s with heap := h', toks := tk' }) :
    wpAny (model P.row.prog w) A (compareOp .Eq (.ref x) (.ref y)) Q (fun _ _ => False) { s with heap := h, toks := tk } := by
  refine compareOp_own_same (op := .Eq) rfl ⟨by decide, by decide, by decide, by decide⟩ (KA.own_eq K.at' hx) hy rfl (by omega) ?_
  obtain ⟨pm, c', ctv, oc, o8, b1, _⟩ := K.fn
  refine keyEq (n := A.depth + 100) (m := A.units + 500) X K.at' K.ok hx hy b1 (K.cmpThings X T hth hW hi hj e1 e2 (by omega) (by omega)) ?_ hA (by omega) (by omega) (by omega) (by omega)
  intro b h' tk' st2 hb
  have e9 : b = decide (gapF (Wd i) (Wd j) = 0) := by
    cases b with
    | true => exact (decide_eq_true (hb.mp rfl)).symm
    | false => exact (decide_eq_false fun q => Bool.noConfusion (hb.mpr q)).symm
  exact ⟨_, rfl, e9 ▸ hQ h' tk' st2⟩
end


end
section
theorem callWith_clsK {prog : Program} {w : World} {A : Around} {E : Value → Shared → Prop} {s : Shared} {C ns ba : Addr} {k k3 : Tok} {pos : Pos} {env : Env} {e : Expr} {rest : List Expr} {Q : Value → Shared → Prop} (hC0 : s.heap.get? C = some (kClsD ns C ba k k3))
    (h : wpAny (model prog w) A (spliced (backTo pos (starEach (e :: rest) env))) (fun vs s₁ => s.heap.StaysIn s₁.heap ∧ wpAny (model prog w) A (call (.ref C) vs) Q E s₁) E s)
    (he : starEach (e :: rest) env = (false, eval e env) :: starEach rest env := by rfl)
    (hplain : (backTo pos (starEach rest env)).any (·.1) = false := by rfl) :
    wpAny (model prog w) A (callWith pos (.ref C) [] (backTo pos (starEach (e :: rest) env)) []) Q E s := by
  rw [he] at h ⊢
  have hst : ((backTo pos ((false, eval e env) :: starEach rest env)).any (fun x => x.fst) || ([] : List (Option Str × Sem Value)).any fun x => x.fst.isNone) = false := by
    show ((false || (backTo pos (starEach rest env)).any (·.1)) || false) = false
    rw [hplain]; rfl
  unfold callWith
  refine wpAny_bind (wpAny_holding (Calls.evalArgs_plain (wpAny_mono h (fun vs s₁ h₁ => ?_) fun _ _ x => x)))
  obtain ⟨hk, hc⟩ := h₁
  obtain ⟨hh, g, d, t, os⟩ := s₁
  have hC := hk _ _ hC0
  have f1 := tc_lookup
  have hT : (⟨hh, g, d, t, os⟩ : Shared).TypeIs (.ref C) "type" := ⟨_, hC, rfl⟩
  refine wpAny_bind (wpAny_standAt ?_)
  show wpAny _ _ (keeperOf (.ref C) >>= _) _ _ _
  unfold keeperOf specialOf
  repeat (any_goals (first | assumption | with_reducible refine wpAny_loadPart_at hC ?_ | with_reducible refine wpAny_load' hC ?_ | wp_step))
  rw [if_pos (by rfl), hst]
  show wpAny _ _ (call (.ref C) vs [] >>= fun r => do holding [r] point; pure r) _ _ _
  exact wpAny_bind (wpAny_mono hc (fun r s' hr => wpAny_bind (wpAny_holding (wpAny_point (wpAny_pure hr)))) fun _ _ x => x)
/-- a list of bools -/
theorem bools_carried : ∀ bs : List Bool, CarriedAll (bs.map Value.bool) (bs.map PyData.bool)
  | [] => .nil
  | b :: r => .cons (.bool b) (bools_carried r)
theorem bools_canLay : ∀ bs : List Bool, PyData.canLayAll0 (bs.map PyData.bool) = true
  | [] => rfl
  | _ :: r => by simp [PyData.canLayAll0, PyData.canLay0, bools_canLay r]
theorem bools_depth : ∀ bs : List Bool, PyData.depthAll (bs.map PyData.bool) = 0
  | [] => rfl
  | _ :: r => by simp [PyData.depthAll, PyData.depth, bools_depth r]
theorem bools_shaped (bs : List Bool) : SeqAt.shaped (.list (bs.map PyData.bool)) = true := by
  simp [SeqAt.shaped, PyData.canLay0, PyData.depth, bools_canLay, bools_depth]
theorem bools_same : ∀ bs : List Bool, PySem.Spec.sameAll (bs.map PyData.bool) (bs.map PyData.bool) = true
  | [] => by simp [PySem.Spec.sameAll]
  | b :: r => by simp [PySem.Spec.sameAll, PySem.Spec.same, bools_same r]
theorem ne_bools {prog : Program} {w : World} {A : Around} {E : Value → Shared → Prop} {s : Shared} {a b : Addr} {bs : List Bool} {Q : Value → Shared → Prop} (ha : s.heap.IsList a (bs.map Value.bool).toArray) (hb : s.heap.IsList b (bs.map Value.bool).toArray) (hu : A.units + 64 < cLine) (h : Q (.bool false) s) :
    wpAny (model prog w) A (compareOp .NotEq (.ref a) (.ref b)) Q E s :=
  ne_dataH_same (reads_newData ha (bools_carried bs)) (reads_newData hb (bools_carried bs)) (bools_shaped _) (bools_shaped _) hu (SeqAt.noMix_of_shape (.list .bool) rfl _ _ (list_map_has fun _ => rfl) (list_map_has fun _ => rfl)) (by
    have : PySem.Spec.same (.list (bs.map PyData.bool)) (.list (bs.map PyData.bool)) = true := by simp only [PySem.Spec.same]; exact bools_same bs
    rw [this]; exact h)


end
section
section
noncomputable def cmpL (s : Stmt) : Expr := atX 0 (subX (atX 0 (subS s)))
noncomputable def cmpR (s : Stmt) : Expr := atX 1 (subX (atX 0 (subS s)))
noncomputable def lawFor : List Stmt := forBody (nthL 10 lawB)
theorem compB : ∀ {w : World} {A : Around} {s : Shared} {G : Heap} {L fa D : Addr} {m : Str → Option Value} {news : List (Addr × Obj)} {o6 : Obj} {tv : List Value} {n : Nat} {os : Nat → Int} {p : Program} {loose : List Str} {mean : ExcName → Option Value} {mg mb : Str → Option Value} {Q : Value → Shared → Prop} {E : Value → Shared → Prop}
    (X : (heapK w.params).In G) (TT : Top p loose mean mg mb G) (F : Fr G L s.heap m) (N : News G L s.heap news) (hm6 : (L + 6, o6) ∈ news) (h6 : o6.data = .cell (some (.ref D))) (hD : s.heap.IsList D tv.toArray) (hl : tv.length = n) (hn : n ≤ 1000)
    (hth : ∀ i, i < n → ∃ r b u, tv[i]? = some (Value.ref r) ∧ s.heap.IsList r #[b, .int (os i) u]) (hh : A.handled = none)
    (hQ : ∀ D2 us c h' tk, Fr G L h' m → News G L h' ((D2, W.listOf (List.toArray us) c) :: news) → (∀ p ∈ news, p.1 ≠ D2) → s.heap.StaysIn h' → IntsAre us ((List.range n).map os) → Q (.ref D2) { s with heap := h', toks := tk }),
    wpAny (model P.row.prog w) A (eval (cmpL (nthL 3 lawFor)) (lawEnv L fa)) Q E s := by
  k_with_none
  k_with "assign Tuple" => ((k_here; (with_reducible show wpAny _ _ (assign (Expr.Tuple _ _ _) _ (Value.ref _)) _ _ _); k_dflt (refine' kun_list ?k1 ?k2 ?k3 ?k4 ?k5 ?k6 ?_; (case k1 => k_asm); (case k2 => k_asm); (case k3 => (first | (with_reducible assumption) | exact IsList.stays (by assumption) (Fr.keep (by assumption)) | exact News.isList (by k_asm) (by k_mem))); (case k4 => exact rfl); (case k5 => exact rfl); (case k6 => exact rfl); k_whole); intro h' F' N'; (try k_sweep)))
  k_with "eval Name" => (k_dflt (first
  | (refine' cn_loc ?F ?v ?_ ?a ?b ?c; (case F => assumption); (case v => assumption); (case a => exact rfl); (case b => exact rfl); (case c => decide); k_whole)
  | (refine' cn_cell ?c ?o ?d ?_ ?a ?b ?e; (case a => rfl); (case b => rfl); (case e => decide); (case c => rfl); (case o => assumption); (case d => assumption); k_whole)
  | (refine' cn_blt ?F ?X ?T ?e ?v ?n ?_ ?a ?b ?g ?h ?d; (case F => assumption); (case X => assumption); (case T => assumption); (case e => k_is); (case v => boot_fast); (case n => decide); (case a => rfl); (case b => rfl); (case g => rfl); (case h => rfl); (case d => decide); k_whole)))
  w_top off
  k_fill
  intro w A s G L fa D m news o6 tv n os p loose mean mg mb Q E X TT F N hm6 h6 hD hl hn hth hh hQ
  have e1 : cmpL (nthL 3 lawFor) = .ListComp (.Subscript (.Name _ _) (.Constant _ _ _) _) [⟨.Name _ _, .Name _ _, [], _⟩] ⟨_, _, _, _, _⟩ _ := rfl
  have e2 : lawScope = ⟨.function, _, _, _, _⟩ := rfl
  rw [e1]
  clear e1
  dsimp only [lawEnv]
  rw [e2]
  clear e2
  refine compL (h₀ := G) (L := L) (fun _ => true) (fun v y => ∃ r b k u, v = .ref r ∧ s.heap.IsList r #[b, .int k u] ∧ y = .int k u) (cl := []) ?hclos ?hcell ?hkind ?hnames ?hx ?h
  case hclos => rfl
  case hcell => decide
  case hkind => rfl
  case hnames => decide
  case hx => rfl
  case h =>
    k_steps
    refine src_list hh hD F N fun it h' S => ?_
    have hz1 : (1000 : Nat) ≤ sizeLine := by decide
    refine ⟨_, _, _, _, _, S, by rw [List.size_toArray]; omega, fun g C i v s₃ m₃ E' _ _ _ _ _ => comp_tests_nil (C := C) (env := lawEnv L fa), ?_, ?_⟩
    · rintro g C i v s₃ m₃ E' hst ⟨hi, hv⟩ F3 hm3
      rw [List.size_toArray] at hi
      obtain ⟨r, b, u, e, hr⟩ := hth i (by omega)
      have : v = .ref r := by rw [List.getElem?_toArray, e] at hv; exact (Option.some.inj hv).symm
      subst this
      k_steps
      refine item_listL (l := [b, .int (os i) u]) (IsList.stays hr fun b o e => F3.keep _ _ (hst _ _ e)) (by decide) (by decide) rfl ?_
      exact ⟨⟨r, b, _, u, rfl, hr, rfl⟩, _, _, rfl, fun _ _ e => e⟩
    · intro D2 us c h2 tk2 vs F2 N2 hD2 _ hst2 hl2 hP hpair
      rw [filter_tt] at hpair
      obtain ⟨q1, q2⟩ := paired_at hpair
      rw [List.size_toArray] at hl2
      refine hQ D2 us c h2 tk2 F2 N2 hD2 hst2 (ints_of (by omega) fun j hj => ?_)
      have hv := (hP j _ (List.getElem?_eq_getElem (by omega))).2
      obtain ⟨y, hy, r, b, k, u, e3, e4, rfl⟩ := q2 j _ (List.getElem?_eq_getElem (by omega))
      obtain ⟨r2, b2, u2, e5, hr2⟩ := hth j hj
      rw [List.getElem?_toArray, e5] at hv
      rw [e3] at hv
      cases hv
      obtain ⟨o1, z1, _, n1, d1⟩ := e4
      obtain ⟨o2, z2, _, n2, d2⟩ := hr2
      rw [z1] at z2
      cases z2
      rw [d1] at d2
      cases d2
      exact ⟨_, hy, _, rfl⟩


end
section
section
variable {prog : Program} {w : World} {A : Around} {E : Value → Shared → Prop} {s : Shared} {env : Env} {h₀ : Heap} {L : Addr}
/-- a block over a range, handed to a local name -/
theorem compRA {elt iter : Expr} {x y : Str} {px py : Pos} {scope : Scope} {cl : List (Str × Addr)} {pos spos : Pos} {Q : Flow → Shared → Prop} (Y : Int → Value → Prop)
    (hsw : swapsWith (.ListComp elt [⟨.Name x px, iter, [], 0⟩] scope pos) (some (.Name y py)) spos.line env = pure true)
    (hclos : closureFor scope env = pure cl) (hcell : ∀ y ∈ scope.names, y.2 ≠ .cell) (hkind : scope.kind = .function)
    (hnames : ∀ y ∈ scope.names, y.2 = .local → scope.names.lookup y.1 = some .local) (hx : scope.names.lookup x = some .local)
    (hy : env.kindOf y = some .local) (hp : (env.scope.kind == .class || (env.scope.kind == .module && env.locals != env.globals)) = false) (hL : env.locals = L) (hh : A.handled = none)
    (h : wpAny (model prog w) A (eval iter env) (Gets fun xv s₁ => ∃ r a n t₀ u₀ v₀ m news, xv = .ref r ∧ IsRange s₁.heap r a (a + (n : Nat)) 1 t₀ u₀ v₀ ∧ 0 ≤ a ∧ a < 1000000 ∧ n < 1000000 ∧ Fr h₀ L s₁.heap m ∧ News h₀ L s₁.heap news ∧
      (∀ g C k t (s₃ : Shared) m₃ E', s₁.heap.StaysIn g → a ≤ k → k < a + (n : Nat) → Fr g C s₃.heap m₃ → m₃ x = some (.int k t) → wpAny (model prog w) A (eval elt (compEnvC scope cl C env)) (fun y s₄ => Y k y ∧ Keeps s₃ s₄) E' s₃) ∧
      (∀ D us c h' tk, Fr h₀ L h' (fun z => if z = y then some (.ref D) else m z) → News h₀ L h' ((D, W.listOf (List.toArray us) c) :: news) → (∀ p ∈ news, p.1 ≠ D) → us.length = n → (∀ j : Nat, j < n → ∃ y, us[j]? = some y ∧ Y (a + (j : Nat)) y) → Q .next { s₁ with heap := h', toks := tk })) E s)
    (hs : ∀ x, foldedSetIterable iter env x = pure x := by intro _; rfl) :
    wpAny (model prog w) A (exec (.Assign [.Name y py] (.ListComp elt [⟨.Name x px, iter, [], 0⟩] scope pos) spos) env) Q E s := by
  subst hL
  refine wpAny_Assign_ListComp_free (fun _ => true) (fun v y => ∃ k t, v = .int k t ∧ Y k y) hsw hclos hcell hkind hnames hx hy hp (wpAny_mono h (fun xv s₁ h₁ => ?_) fun _ _ e => e) hs
  obtain ⟨r, a, n, t₀, u₀, v₀, m, news, rfl, hr, ha, ha1, hn, F, N, he, hQ⟩ := h₁
  refine src_range hh hr ha ha1 hn F N fun it h' S => ?_
  obtain ⟨I, fp, St, rfl, W, hst, hfp, F, N, hI0, hIL, hIN, hst2, hlive⟩ := S.ex
  have hz : (1000000 : Nat) ≤ sizeLine := by decide
  have gF : ∀ C (s₃ : Shared) m₃, h'.objs.size ≤ C → s₃.heap.Ns C m₃ → (∀ b o, b ∉ [I] → h'.get? b = some o → s₃.heap.get? b = some o) → Fr (hideAll h' [I]) C s₃.heap m₃ := fun C s₃ m₃ hC hn hk =>
    ⟨hn, keep_wr hk, by rw [hideAll_size]; exact hC⟩
  refine ⟨I, fp, [I], n, _, St, m, rfl, walks_lt W, by omega, hst, hfp, fun q => hIL (List.mem_singleton.mp q).symm, F.ns, ⟨fun C i v s₃ m₃ E' hC hP hn hm hk _ => comp_tests_nil (C := C) (env := env), fun C i v s₃ m₃ E' hC hP _ hn hm hk _ => ?_⟩, ?_⟩
  · obtain ⟨hi, t, rfl⟩ := hP
    exact wpAny_mono (he _ C _ t s₃ m₃ E' hst2 (by omega) (by omega) (gF C s₃ m₃ hC hn hk) hm) (fun y s₄ h₄ => ⟨⟨_, t, rfl, h₄.1⟩, h₄.2⟩) fun _ _ e => e
  · intro D h9 tk ys vs hD _ hpl hlen hP hpair hns hk
    obtain ⟨c, hDo⟩ := hpl
    rw [filter_tt] at hpair
    obtain ⟨h1, h2⟩ := paired_at hpair
    have hDL : D ≠ env.locals := fun e => by obtain ⟨oL, _, _, hL, _⟩ := F.ns; rw [← e] at hL; rw [hD] at hL; cases hL
    have k9 : ∀ b o, b ≠ env.locals → b ≠ I → h'.get? b = some o → h9.get? b = some o := fun b o hb hb2 e => hk b o hb (fun q => hb2 (List.mem_singleton.mp q)) e
    have F9 : Fr h₀ env.locals h9 (fun z => if z = y then some (.ref D) else m z) := ⟨hns, fun b o e => k9 b o (Nat.ne_of_lt (Nat.lt_of_lt_of_le (Heap.lt_size e) F.above)) (fun q => by rw [q, hI0] at e; cases e) (F.keep b o e), F.above⟩
    refine hQ D ys.toList c h9 tk F9 ?_ (fun q hq e => ?_) (by rw [← h1]; exact hlen) fun j hj => ?_
    · intro q hq
      rcases List.mem_cons.mp hq with rfl | hq
      · refine ⟨hDo, hDL, ?_⟩
        cases q : h₀.get? D with
        | none => rfl
        | some o => have := F.keep _ _ q; rw [hD] at this; cases this
      · exact ⟨k9 _ _ (N q hq).2.1 (hIN q hq) (N q hq).1, (N q hq).2⟩
    · have := (N q hq).1
      rw [e, hD] at this; cases this
    · obtain ⟨t, hv⟩ := (hP j vs[j] (List.getElem?_eq_getElem (by omega))).2
      obtain ⟨y, hy, k, t2, e2, hY⟩ := h2 j _ (List.getElem?_eq_getElem (by omega))
      rw [hv] at e2
      cases e2
      exact ⟨y, hy, hY⟩
end


end
section
theorem alikeC : ∀ {w : World} {dp ut : Nat} {fr : Option (List Env)} {gd : Option (List Code)} {s : Shared} {G : Heap} {L fa D f pl : Addr} {a : KA} {m : Str → Option Value} {news : List (Addr × Obj)} {o5 o6 : Obj} {tv ths : List Value} {n : Nat} {od : Nat → Nat} {Wd : Nat → List Int} {p : Program} {loose : List Str} {mean : ExcName → Option Value} {mg mb : Str → Option Value} {Q : Flow → Shared → Prop}
    (X : (heapK w.params).In G) (TT : Top p loose mean mg mb G) (F : Fr G L s.heap m) (N : News G L s.heap news) (hm5 : (L + 5, o5) ∈ news) (h5 : o5.data = .cell (some (.ref a.c))) (hm6 : (L + 6, o6) ∈ news) (h6 : o6.data = .cell (some (.ref D))) (hD : s.heap.IsList D tv.toArray) (hl : tv.length = n) (h1n : 1 ≤ n) (hn : n ≤ 1000)
    (K : KeyAt w s.heap L a f pl) (hth : ThingsAt Wd ths n s.heap) (hW : ∀ j, j < n → (Wd j).length ≤ 6 ∧ ∀ x ∈ Wd j, 0 ≤ x ∧ x < 64) (hod : ∀ i, i < n → od i < n ∧ tv[i]? = ths[od i]?) (hdp : dp + 400 < recursionLimit) (hu : ut + 1000 < cLine)
    (hQ : ∀ D2 us c h' tk, Fr G L h' (fun z => if z = "alike" then some (.ref D2) else m z) → News G L h' ((D2, W.listOf (List.toArray us) c) :: news) → (∀ p ∈ news, p.1 ≠ D2) → us = ((List.range (n - 1)).map fun j => Value.bool (decide (gapF (Wd (od j)) (Wd (od (j + 1))) = 0))) → Q .next { s with heap := h', toks := tk }),
    wpAny (model P.row.prog w) (Aro dp ut fr gd) (exec (nthL 4 lawFor) (lawEnv L fa)) Q (fun _ _ => False) s := by
  k_with_none
  k_with "assign Tuple" => ((k_here; (with_reducible show wpAny _ _ (assign (Expr.Tuple _ _ _) _ (Value.ref _)) _ _ _); k_dflt (refine' kun_list ?k1 ?k2 ?k3 ?k4 ?k5 ?k6 ?_; (case k1 => k_asm); (case k2 => k_asm); (case k3 => (first | (with_reducible assumption) | exact IsList.stays (by assumption) (Fr.keep (by assumption)) | exact News.isList (by k_asm) (by k_mem))); (case k4 => exact rfl); (case k5 => exact rfl); (case k6 => exact rfl); k_whole); intro h' F' N'; (try k_sweep)))
  k_with "eval Name" => (k_dflt (first
  | (refine' cn_loc ?F ?v ?_ ?a ?b ?c; (case F => assumption); (case v => assumption); (case a => exact rfl); (case b => exact rfl); (case c => decide); k_whole)
  | (refine' cn_cell ?c ?o ?d ?_ ?a ?b ?e; (case a => rfl); (case b => rfl); (case e => decide); (case c => rfl); (case o => assumption); (case d => assumption); k_whole)
  | (refine' cn_blt ?F ?X ?T ?e ?v ?n ?_ ?a ?b ?g ?h ?d; (case F => assumption); (case X => assumption); (case T => assumption); (case e => k_is); (case v => boot_fast); (case n => decide); (case a => rfl); (case b => rfl); (case g => rfl); (case h => rfl); (case d => decide); k_whole)))
  w_top off
  k_fill
  intro w dp ut fr gd s G L fa D f pl a m news o5 o6 tv ths n od Wd p loose mean mg mb Q X TT F N hm5 h5 hm6 h6 hD hl h1n hn K hth hW hod hdp hu hQ
  have e1 : nthL 4 lawFor = .Assign [.Name _ _] (.ListComp (.Compare (.Call (.Name _ _) [.Subscript (.Name _ _) (.BinOp _ _ _ _) _] _ _) [_] [.Call (.Name _ _) [.Subscript (.Name _ _) (.Name _ _) _] _ _] _) [⟨.Name _ _, .Call (.Name _ _) [_, .Call (.Name _ _) [_] _ _] _ _, [], _⟩] ⟨_, _, _, _, _⟩ _) _ := rfl
  have e2 : lawScope = ⟨.function, _, _, _, _⟩ := rfl
  rw [e1]
  clear e1
  dsimp only [lawEnv]
  rw [e2]
  clear e2
  refine compRA (h₀ := G) (L := L) (fun k y => y = Value.bool (decide (gapF (Wd (od (k.toNat - 1))) (Wd (od k.toNat)) = 0))) (cl := [("told", L + 6), ("key", L + 5)]) ?hsw ?hclos ?hcell ?hkind ?hnames ?hx rfl rfl rfl rfl ?h
  case hsw => rfl
  case hclos => rfl
  case hcell => decide
  case hkind => rfl
  case hnames => decide
  case hx => rfl
  case h =>
    have hXs := Frag.In.keeps X F.keep
    have hTs := TT.keeps F.keep
    have c5s := (N _ hm5).1
    have c6s := (N _ hm6).1
    k_steps
    refine call_len_list hD (by rw [List.size_toArray]; omega) ?_
    rw [List.size_toArray, hl]
    k_steps
    rename IsRange _ _ _ _ _ _ _ _ => hR
    rename (∀ (b : Addr) (o : Obj), _ → _) => hkp
    rename Fr _ _ _ _ => F5
    rename News _ _ _ _ => N5
    have en : (n : Int) = 1 + ((n - 1 : Nat) : Int) := by omega
    rw [en] at hR
    refine ⟨_, 1, n - 1, _, _, _, _, _, rfl, hR, by decide, by decide, by omega, F5, N5, ?_, ?_⟩
    · intro g C k t s₃ m₃ E' hst hk1 hk2 F3 hm3
      have hk3 : s.heap.StaysIn s₃.heap := fun b o e => F3.keep _ _ (hst _ _ (hkp b o e))
      have X3 := Frag.In.keeps hXs hk3
      have T3 := hTs.keeps hk3
      have K3 := K.stays hk3
      have hth3 := hth.stays hk3
      have c5 := hk3 _ _ c5s
      have c6 := hk3 _ _ c6s
      have hD3 := IsList.stays hD hk3
      clear F5 N5 hR hQ K hth hD X TT hXs hTs c5s c6s
      obtain ⟨q1, q2⟩ := hod (k.toNat - 1) (by omega)
      obtain ⟨q3, q4⟩ := hod k.toNat (by omega)
      obtain ⟨r1, u1, w1, e1, _⟩ := hth3.2 _ q1
      obtain ⟨r2, u2, w2, e2, _⟩ := hth3.2 _ q3
      k_steps
      refine callWith_clsK (KA.at_stays K3.at' fun _ _ e => e).1 ?_
      k_steps
      refine item_listL hD3 (by omega) (by omega) (by rw [show (k - 1).toNat = k.toNat - 1 from Int.pred_toNat k, q2, e1]) ?_
      k_steps
      · exact fun _ _ e => e
      refine wpAny_mono (keyMake (s := s₃) rfl (by show dp + 60 < _; omega) (by show ut + 300 < _; omega) X3 K3 (Q := fun v s' => _) fun x dx h4 tk4 st4 hx0 hx => ?_) (fun _ _ q => q) fun _ _ e => e.elim
      have X4 := Frag.In.keeps X3 st4
      have T4 := T3.keeps st4
      have K4 := K3.stays st4
      have F4 := F3.kept st4
      have c54 := st4 _ _ c5
      have c64 := st4 _ _ c6
      have hD4 := IsList.stays hD3 st4
      have hth4 := hth3.stays st4
      clear X3 T3 K3 F3 c5 c6 hD3
      k_steps
      refine callWith_clsK (KA.at_stays K4.at' fun _ _ e => e).1 ?_
      k_steps
      refine item_listL hD4 (by omega) (by omega) (by rw [q4, e2]) ?_
      k_steps
      · exact fun _ _ e => e
      refine wpAny_mono (keyMake (s := s₃) rfl (by show dp + 60 < _; omega) (by show ut + 300 < _; omega) X4 K4 (Q := fun v s' => _) fun y dy h5 tk5 st5 hy0 hy => ?_) (fun _ _ q => q) fun _ _ e => e.elim
      k_unfold
      refine wpAny_mono (eqThings (s := s₃) (A := Aro dp ut fr gd) rfl (by show dp + 300 < _; omega) (by show ut + 900 < _; omega) (Frag.In.keeps X4 st5) (T4.keeps st5) (K4.stays st5) (hth4.stays st5) hW q1 q3 e1 e2 (st5 _ _ hx) hy (Q := fun v s' => _) fun h6 tk6 st6 => ?_) (fun _ _ q => q) fun _ _ e => e.elim
      k_unfold
      exact ⟨rfl, _, _, rfl, fun b o e => st6 _ _ (st5 _ _ (st4 _ _ e))⟩
    · intro D2 us c h5 tk5 F6 N6 hD2 hl6 hY
      refine hQ D2 us c h5 tk5 F6 N6 hD2 (List.ext_getElem? fun j => ?_)
      by_cases hj : j < n - 1
      · obtain ⟨y, hy, rfl⟩ := hY j hj
        have e9 : (1 + (j : Int)).toNat = j + 1 := by omega
        rw [hy, e9, Nat.add_sub_cancel]
        simp [hj]
      · rw [List.getElem?_eq_none (by omega), List.getElem?_eq_none (by simp; omega)]


end
section
theorem alikeD : ∀ {w : World} {dp ut : Nat} {fr : Option (List Env)} {gd : Option (List Code)} {s : Shared} {G : Heap} {L fa D tx oa : Addr} {m : Str → Option Value} {news : List (Addr × Obj)} {o3 o4 o6 : Obj} {tv ords : List Value} {n : Nat} {od : Nat → Nat} {T : Nat → List Int} {p : Program} {loose : List Str} {mean : ExcName → Option Value} {mg mb : Str → Option Value} {Q : Value → Shared → Prop}
    (X : (heapK w.params).In G) (TT : Top p loose mean mg mb G) (F : Fr G L s.heap m) (N : News G L s.heap news) (hm3 : (L + 3, o3) ∈ news) (h3 : o3.data = .cell (some (.ref tx))) (hm4 : (L + 4, o4) ∈ news) (h4 : o4.data = .cell (some (.ref oa))) (hm6 : (L + 6, o6) ∈ news) (h6 : o6.data = .cell (some (.ref D))) (hD : s.heap.IsList D tv.toArray) (hl : tv.length = n) (h1n : 1 ≤ n) (hn : n ≤ 1000)
    (hO : s.heap.IsList oa ords.toArray) (hI : IntsAre ords ((List.range n).map fun i => (od i : Int))) (hT : TextsAt s.heap tx n T) (hod : ∀ i, i < n → od i < n) (hdp : dp + 400 < recursionLimit) (hu : ut + 1000 < cLine)
    (hQ : ∀ D2 us c h' tk, Fr G L h' m → News G L h' ((D2, W.listOf (List.toArray us) c) :: news) → (∀ p ∈ news, p.1 ≠ D2) → s.heap.StaysIn h' → us = ((List.range (n - 1)).map fun j => Value.bool (decide (T (od j) = T (od (j + 1))))) → Q (.ref D2) { s with heap := h', toks := tk }),
    wpAny (model P.row.prog w) (Aro dp ut fr gd) (eval (cmpR (nthL 5 lawFor)) (lawEnv L fa)) Q (fun _ _ => False) s := by
  k_with_none
  k_with "assign Tuple" => ((k_here; (with_reducible show wpAny _ _ (assign (Expr.Tuple _ _ _) _ (Value.ref _)) _ _ _); k_dflt (refine' kun_list ?k1 ?k2 ?k3 ?k4 ?k5 ?k6 ?_; (case k1 => k_asm); (case k2 => k_asm); (case k3 => (first | (with_reducible assumption) | exact IsList.stays (by assumption) (Fr.keep (by assumption)) | exact News.isList (by k_asm) (by k_mem))); (case k4 => exact rfl); (case k5 => exact rfl); (case k6 => exact rfl); k_whole); intro h' F' N'; (try k_sweep)))
  k_with "eval Name" => (k_dflt (first
  | (refine' cn_loc ?F ?v ?_ ?a ?b ?c; (case F => assumption); (case v => assumption); (case a => exact rfl); (case b => exact rfl); (case c => decide); k_whole)
  | (refine' cn_cell ?c ?o ?d ?_ ?a ?b ?e; (case a => rfl); (case b => rfl); (case e => decide); (case c => rfl); (case o => assumption); (case d => assumption); k_whole)
  | (refine' cn_blt ?F ?X ?T ?e ?v ?n ?_ ?a ?b ?g ?h ?d; (case F => assumption); (case X => assumption); (case T => assumption); (case e => k_is); (case v => boot_fast); (case n => decide); (case a => rfl); (case b => rfl); (case g => rfl); (case h => rfl); (case d => decide); k_whole)))
  w_top off
  k_fill
  intro w dp ut fr gd s G L fa D tx oa m news o3 o4 o6 tv ords n od T p loose mean mg mb Q X TT F N hm3 h3 hm4 h4 hm6 h6 hD hl h1n hn hO hI hT hod hdp hu hQ
  have e1 : cmpR (nthL 5 lawFor) = .ListComp (.Compare (.Subscript (.Name _ _) (.Subscript (.Name _ _) (.BinOp _ _ _ _) _) _) [_] [.Subscript (.Name _ _) (.Subscript (.Name _ _) (.Name _ _) _) _] _) [⟨.Name _ _, .Call (.Name _ _) [_, .Call (.Name _ _) [_] _ _] _ _, [], _⟩] ⟨_, _, _, _, _⟩ _ := rfl
  have e2 : lawScope = ⟨.function, _, _, _, _⟩ := rfl
  rw [e1]
  clear e1
  dsimp only [lawEnv]
  rw [e2]
  clear e2
  refine compR (h₀ := G) (L := L) (fun k y => y = Value.bool (decide (T (od (k.toNat - 1)) = T (od k.toNat)))) (cl := [("texts", L + 3), ("order", L + 4)]) ?hclos ?hcell ?hkind ?hnames ?hx rfl ?h
  case hclos => rfl
  case hcell => decide
  case hkind => rfl
  case hnames => decide
  case hx => rfl
  case h =>
    have hXs := Frag.In.keeps X F.keep
    have hTs := TT.keeps F.keep
    have c3s := (N _ hm3).1
    have c4s := (N _ hm4).1
    k_steps
    refine call_len_list hD (by rw [List.size_toArray]; omega) ?_
    rw [List.size_toArray, hl]
    k_steps
    rename IsRange _ _ _ _ _ _ _ _ => hR
    rename (∀ (b : Addr) (o : Obj), _ → _) => hkp
    rename Fr _ _ _ _ => F5
    rename News _ _ _ _ => N5
    have en : (n : Int) = 1 + ((n - 1 : Nat) : Int) := by omega
    rw [en] at hR
    refine ⟨_, 1, n - 1, _, _, _, _, _, rfl, hR, by decide, by decide, by omega, F5, N5, ?_, ?_⟩
    · intro g C k t s₃ m₃ E' hst hk1 hk2 F3 hm3
      have hk3 : s.heap.StaysIn s₃.heap := fun b o e => F3.keep _ _ (hst _ _ (hkp b o e))
      have X3 := Frag.In.keeps hXs hk3
      have T3 := hTs.keeps hk3
      have hT3 := hT.stays hk3
      have hO3 := IsList.stays hO hk3
      have c3 := hk3 _ _ c3s
      have c4 := hk3 _ _ c4s
      have N3 : News g C s₃.heap [] := News.nil
      clear F5 N5 hR hQ hD X TT hXs hTs c3s c4s
      have gk1 : ((List.range n).map fun i => (od i : Int)).getD (k - 1).toNat 0 = (od (k.toNat - 1) : Int) := by
        rw [show (k - 1).toNat = k.toNat - 1 from Int.pred_toNat k]; simp [show k.toNat - 1 < n by omega]
      have gk2 : ((List.range n).map fun i => (od i : Int)).getD k.toNat 0 = (od k.toNat : Int) := by
        simp [show k.toNat < n by omega]
      have p1 := hod (k.toNat - 1) (by omega)
      have p2 := hod k.toNat (by omega)
      k_steps
      rw [gk1]
      refine textsItem hT3 (by omega) (by omega) hn fun r1 v1 n1 g1 i1 => ?_
      rw [Int.toNat_natCast] at i1
      k_steps
      rw [gk2]
      refine textsItem hT3 (by omega) (by omega) hn fun r2 v2 n2 g2 i2 => ?_
      rw [Int.toNat_natCast] at i2
      k_steps
      refine ke_eq_ints (isList_of g1) (isList_of g2) i1 i2 (by show ut + 64 < _; omega) ?_
      try k_unfold
      exact ⟨rfl, _, _, rfl, fun _ _ e => e⟩
    · intro D2 us c h5 tk5 F6 N6 hD2 _ hst6 hl6 hY
      refine hQ D2 us c h5 tk5 F6 N6 hD2 (fun b o e => hst6 _ _ (hkp b o e)) (List.ext_getElem? fun j => ?_)
      by_cases hj : j < n - 1
      · obtain ⟨y, hy, rfl⟩ := hY j hj
        have e9 : (1 + (j : Int)).toNat = j + 1 := by omega
        rw [hy, e9, Nat.add_sub_cancel]
        simp [hj]
      · rw [List.getElem?_eq_none (by omega), List.getElem?_eq_none (by simp; omega)]


end
end
section
/-- the first number at or above a quotient -/
noncomputable def cdF (lo u : Int) : Int := -(Int.fdiv (-lo) u)
theorem cdF_spec {lo u : Int} (hu : 0 < u) : lo ≤ cdF lo u * u ∧ cdF lo u * u < lo + u := by
  unfold cdF
  rw [Int.fdiv_eq_ediv_of_nonneg _ (Int.le_of_lt hu)]
  have h1 := Int.ediv_mul_le (-lo) (Int.ne_of_gt hu)
  have h2 := Int.lt_ediv_add_one_mul_self (-lo) hu
  rw [Int.neg_mul]
  rw [Int.add_mul, Int.one_mul] at h2
  omega
theorem shortF_spec {b lo wd : Int} (hb : 0 < b) (hw : 1 ≤ wd) : ∀ (n : Nat) (size : Int), ∃ j : Nat, j ≤ n ∧ (shortF b lo wd n size (b ^ n)).1 = size + (n - j : Nat) ∧ (shortF b lo wd n size (b ^ n)).2 = cdF lo (b ^ j) ∧ (cdF lo (b ^ j) + 1) * b ^ j ≤ lo + wd
  | 0, size => by
    refine ⟨0, Nat.le_refl _, by show size = _; simp, rfl, ?_⟩
    have := cdF_spec (lo := lo) (u := 1) (by decide)
    rw [Int.pow_zero, Int.mul_one]
    rw [Int.mul_one] at this
    omega
  | n + 1, size => by
    rw [shortF]
    split
    · obtain ⟨j, h1, h2, h3, h4⟩ := shortF_spec hb hw n (size + 1)
      rw [pow_fdiv (Int.ne_of_gt hb)]
      refine ⟨j, by omega, ?_, h3, h4⟩
      rw [h2]; omega
    · rename_i hlt
      exact ⟨n + 1, Nat.le_refl _, by simp, rfl, Int.not_lt.mp hlt⟩
/-- figures of a number -/
noncomputable def digB (b : Int) : Nat → Int → List Int
  | 0, _ => []
  | n + 1, x => digB b n (x / b) ++ [x % b]
theorem digB_len (b : Int) : ∀ (n : Nat) (x : Int), (digB b n x).length = n
  | 0, _ => rfl
  | n + 1, x => by rw [digB, List.length_append, digB_len b n]; rfl
theorem digB_in {b : Int} (hb : 0 < b) : ∀ (n : Nat) (x : Int), ∀ d ∈ digB b n x, 0 ≤ d ∧ d < b
  | 0, _, d, h => by cases h
  | n + 1, x, d, h => by
    rcases List.mem_append.mp h with h | h
    · exact digB_in hb n _ d h
    · rw [List.mem_singleton.mp h]
      exact ⟨Int.emod_nonneg _ (Int.ne_of_gt hb), Int.emod_lt_of_pos _ hb⟩
theorem valF_digB {b : Int} (hb : 0 < b) : ∀ (n : Nat) (x : Int), 0 ≤ x → x < b ^ n → valF b (digB b n x) = x
  | 0, x, h0, h1 => by
    rw [Int.pow_zero] at h1
    show (0 : Int) = x
    omega
  | n + 1, x, h0, h1 => by
    have hd : x / b < b ^ n := by
      rw [Int.pow_succ] at h1
      exact Int.ediv_lt_of_lt_mul hb h1
    rw [digB, valF_snoc, valF_digB hb n _ (Int.ediv_nonneg h0 (Int.le_of_lt hb)) hd]
    have := Int.mul_ediv_add_emod x b
    rw [Int.mul_comm] at this
    exact this
theorem digB_zero (b : Int) : ∀ n : Nat, digB b n 0 = List.replicate n 0
  | 0 => rfl
  | n + 1 => by rw [digB, Int.zero_ediv, Int.zero_emod, digB_zero b n, List.replicate_succ']
theorem letter16 {d : Int} (h0 : 0 ≤ d) (h1 : d < 16) : letter d = UInt8.ofNat (65 + d.toNat) := by
  have h : d = 0 ∨ d = 1 ∨ d = 2 ∨ d = 3 ∨ d = 4 ∨ d = 5 ∨ d = 6 ∨ d = 7 ∨ d = 8 ∨ d = 9 ∨ d = 10 ∨ d = 11 ∨ d = 12 ∨ d = 13 ∨ d = 14 ∨ d = 15 := by omega
  rcases h with rfl | rfl | rfl | rfl | rfl | rfl | rfl | rfl | rfl | rfl | rfl | rfl | rfl | rfl | rfl | rfl <;> decide
theorem ap_dig : ∀ (m k : Nat) (x : Int) (val : List UInt8), m ≤ k → 0 ≤ x → x < 16 ^ m → ∃ d : List Int, apF k x val = d.map letter ++ val ∧ d.length ≤ m ∧ digB 16 m x = List.replicate (m - d.length) 0 ++ d
  | 0, k, x, val, _, h0, h1 => by
    rw [Int.pow_zero] at h1
    have : x = 0 := by omega
    subst this
    exact ⟨[], by rw [apF_zero]; rfl, Nat.le_refl _, rfl⟩
  | m + 1, k, x, val, hk, h0, h1 => by
    by_cases hx : x = 0
    · subst hx
      exact ⟨[], by rw [apF_zero]; rfl, Nat.zero_le _, by rw [digB_zero]; simp⟩
    · cases k with
      | zero => omega
      | succ k =>
        rw [apF, if_neg hx, Int.fdiv_eq_ediv_of_nonneg _ (by decide), Int.fmod_eq_emod_of_nonneg _ (by decide)]
        have hm0 := Int.emod_nonneg x (b := 16) (by decide)
        have hm1 := Int.emod_lt_of_pos x (b := 16) (by decide)
        rw [Int.pow_succ] at h1
        obtain ⟨d, e1, e2, e3⟩ := ap_dig m k (x / 16) (UInt8.ofNat (65 + (x % 16).toNat) :: val) (by omega) (Int.ediv_nonneg h0 (by decide)) (Int.ediv_lt_of_lt_mul (by decide) h1)
        refine ⟨d ++ [x % 16], ?_, by simp; omega, ?_⟩
        · rw [e1, List.map_append, List.map_cons, List.map_nil, letter16 hm0 hm1]; simp
        · rw [digB, e3, List.length_append, List.length_singleton, Nat.add_sub_add_right, List.append_assoc]
theorem wr16_dig {size : Nat} {x : Int} (h6 : size ≤ 6) (h0 : 0 ≤ x) (h1 : x < 16 ^ size) : wr16 size x = (digB 16 size x).map letter ∧ (apF 6 x []).length ≤ 6 := by
  obtain ⟨d, e1, e2, e3⟩ := ap_dig size 6 x [] h6 h0 h1
  rw [List.append_nil] at e1
  have el : (apF 6 x []).length = d.length := by rw [e1, List.length_map]
  refine ⟨?_, by omega⟩
  unfold wr16
  rw [e3, List.map_append, List.map_replicate, el, e1]
  have : ((size : Int) - (d.length : Int)).toNat = size - d.length := by omega
  rw [this]
  rfl
theorem wr64_dig {size : Nat} {x : Int} (h1 : 1 ≤ size) (h4 : size ≤ 4) : wr64 size x = (digB 64 size x).map letter := by
  have h : size = 1 ∨ size = 2 ∨ size = 3 ∨ size = 4 := by omega
  have d2 : x / 4096 = x / 64 / 64 := dd x (b := 64) (c := 64) (by decide)
  unfold wr64 four
  rcases h with rfl | rfl | rfl | rfl
  · have e : x * 64 ^ (4 - ((1 : Nat) : Int)).toNat = x * 262144 := rfl
    rw [e]
    show [letter (x * 262144 / 262144 % 64)] = [letter (x % 64)]
    rw [Int.mul_ediv_cancel _ (by decide)]
  · have e : x * 64 ^ (4 - ((2 : Nat) : Int)).toNat = x * 4096 := rfl
    rw [e]
    show [letter (x * 4096 / 262144 % 64), letter (x * 4096 / 4096 % 64)] = [letter (x / 64 % 64), letter (x % 64)]
    rw [Int.mul_ediv_cancel _ (by decide), show x * 4096 / 262144 = x / 64 from dm x (b := 64) (c := 4096) (by decide)]
  · have e : x * 64 ^ (4 - ((3 : Nat) : Int)).toNat = x * 64 := rfl
    rw [e]
    show [letter (x * 64 / 262144 % 64), letter (x * 64 / 4096 % 64), letter (x * 64 / 64 % 64)] = [letter (x / 64 / 64 % 64), letter (x / 64 % 64), letter (x % 64)]
    rw [Int.mul_ediv_cancel _ (by decide), show x * 64 / 4096 = x / 64 from dm x (b := 64) (c := 64) (by decide), show x * 64 / 262144 = x / 4096 from dm x (b := 4096) (c := 64) (by decide), d2]
  · have e : x * 64 ^ (4 - ((4 : Nat) : Int)).toNat = x := by show x * 1 = x; exact Int.mul_one x
    rw [e]
    show [letter (x / 262144 % 64), letter (x / 4096 % 64), letter (x / 64 % 64), letter (x % 64)] = [letter (x / 64 / 64 / 64 % 64), letter (x / 64 / 64 % 64), letter (x / 64 % 64), letter (x % 64)]
    rw [show x / 262144 = x / 4096 / 64 from dd x (b := 4096) (c := 64) (by decide), d2]


end
section
theorem valF_append (b : Int) : ∀ (r l : List Int), valF b (l ++ r) = valF b l * b ^ r.length + valF b r
  | [], l => by rw [List.append_nil, List.length_nil, Int.pow_zero]; show _ = _ * 1 + 0; omega
  | d :: r, l => by
    have e1 : l ++ d :: r = (l ++ [d]) ++ r := by simp
    have e2 : valF b (d :: r) = d * b ^ r.length + valF b r := by
      have := valF_append b r [d]
      have e3 : valF b [d] = d := by show 0 * b + d = d; omega
      rw [e3] at this
      exact this
    rw [e1, valF_append b r (l ++ [d]), valF_snoc, e2, List.length_cons, Int.pow_succ, Int.add_mul, Int.mul_comm (b ^ r.length) b, Int.mul_assoc]
    omega
theorem valF_rep0 (b : Int) : ∀ n : Nat, valF b (List.replicate n 0) = 0
  | 0 => rfl
  | n + 1 => by rw [List.replicate_succ', valF_snoc, valF_rep0 b n]; omega
theorem valF_repb (b : Int) : ∀ n : Nat, valF b (List.replicate n (b - 1)) = b ^ n - 1
  | 0 => by rw [Int.pow_zero]; rfl
  | n + 1 => by rw [List.replicate_succ', valF_snoc, valF_repb b n, Int.pow_succ, Int.sub_mul]; omega
/-- the stretches nest -/
theorem stepE_nest {es : List Int} (he : EndsOk es) {st : Int × Int} {sg : Int} (h0 : 0 ≤ sg) (h3 : sg ≤ 3) (hw : 0 < st.2) :
    16 * st.1 ≤ (stepE es st sg).1 ∧ 0 < (stepE es st sg).2 ∧ (stepE es st sg).1 + (stepE es st sg).2 = 16 * st.1 + st.2 * es.getD (sg + 1).toNat 0 ∧ st.2 * es.getD (sg + 1).toNat 0 ≤ 16 * st.2 := by
  obtain ⟨a1, a2, a3⟩ := ends_at he h0 h3
  have e1 : 0 ≤ st.2 * es.getD sg.toNat 0 := Int.mul_nonneg (Int.le_of_lt hw) a1
  have e2 : 0 < st.2 * (es.getD (sg + 1).toNat 0 - es.getD sg.toNat 0) := Int.mul_pos hw (by omega)
  have e3 : st.2 * es.getD (sg + 1).toNat 0 ≤ st.2 * 16 := Int.mul_le_mul_of_nonneg_left a3 (Int.le_of_lt hw)
  unfold stepE
  dsimp only
  refine ⟨by omega, e2, ?_, by omega⟩
  rw [Int.mul_sub]; omega
theorem fold_nest {es : List Int} (he : EndsOk es) : ∀ (txt : List Int) (st : Int × Int), 0 < st.2 → (∀ x ∈ txt, 0 ≤ x ∧ x < 4) →
    st.1 * 16 ^ txt.length ≤ (txt.foldl (stepE es) st).1 ∧ 0 < (txt.foldl (stepE es) st).2 ∧ (txt.foldl (stepE es) st).1 + (txt.foldl (stepE es) st).2 ≤ (st.1 + st.2) * 16 ^ txt.length
  | [], st, hw, _ => by
    rw [List.length_nil, Int.pow_zero, List.foldl_nil]; omega
  | x :: r, st, hw, hx => by
    have h1 := hx x (.head _)
    obtain ⟨a1, a2, a3, a4⟩ := stepE_nest he (st := st) h1.1 (by omega) hw
    obtain ⟨b1, b2, b3⟩ := fold_nest he r (stepE es st x) a2 fun y hy => hx y (.tail _ hy)
    rw [List.foldl_cons, List.length_cons, Int.pow_succ]
    have hp : (0 : Int) ≤ 16 ^ r.length := Int.le_of_lt (Int.pow_pos (by decide))
    have c1 : (16 * st.1) * 16 ^ r.length ≤ (stepE es st x).1 * 16 ^ r.length := Int.mul_le_mul_of_nonneg_right a1 hp
    have c2 : ((stepE es st x).1 + (stepE es st x).2) * 16 ^ r.length ≤ (16 * (st.1 + st.2)) * 16 ^ r.length := Int.mul_le_mul_of_nonneg_right (by omega) hp
    have e1 : st.1 * (16 ^ r.length * 16) = (16 * st.1) * 16 ^ r.length := by rw [Int.mul_comm (16 ^ r.length) 16, ← Int.mul_assoc, Int.mul_comm st.1 16]
    have e2 : (st.1 + st.2) * (16 ^ r.length * 16) = (16 * (st.1 + st.2)) * 16 ^ r.length := by rw [Int.mul_comm (16 ^ r.length) 16, ← Int.mul_assoc, Int.mul_comm (st.1 + st.2) 16]
    rw [e1, e2]
    exact ⟨by omega, b2, by omega⟩
/-- the chosen sign -/
theorem pick_eq {es : List Int} {value low width unit sg : Int} : ∀ (n : Nat) (sign : Int), sign ≤ sg → sg ≤ sign + n → (∀ s, sign ≤ s → s < sg → (16 * low + width * es.getD (s + 1).toNat 0) * unit ≤ value) → (sg < sign + n → ¬ (16 * low + width * es.getD (sg + 1).toNat 0) * unit ≤ value) →
    pickF es value low width unit n sign = sg
  | 0, sign, h1, h2, _, _ => by rw [pickF]; omega
  | n + 1, sign, h1, h2, h3, h4 => by
    rw [pickF]
    by_cases hq : sign < sg
    · rw [if_pos (h3 sign (Int.le_refl _) hq)]
      exact pick_eq n (sign + 1) (by omega) (by omega) (fun s a b => h3 s (by omega) b) fun q => h4 (by omega)
    · have : sign = sg := by omega
      subst this
      rw [if_neg (h4 (by omega))]
theorem ends_mono {es : List Int} (he : EndsOk es) {s t : Int} (h0 : 0 ≤ s) (hst : s ≤ t) (h4 : t ≤ 4) : es.getD s.toNat 0 ≤ es.getD t.toNat 0 := by
  obtain ⟨a, b, c, rfl, h1, h2, h3, h5⟩ := he.ex
  have hs : s = 0 ∨ s = 1 ∨ s = 2 ∨ s = 3 ∨ s = 4 := by omega
  have ht : t = 0 ∨ t = 1 ∨ t = 2 ∨ t = 3 ∨ t = 4 := by omega
  have e0 : ([0, a, b, c, 16] : List Int).getD (0 : Int).toNat 0 = 0 := rfl
  have e1 : ([0, a, b, c, 16] : List Int).getD (1 : Int).toNat 0 = a := rfl
  have e2 : ([0, a, b, c, 16] : List Int).getD (2 : Int).toNat 0 = b := rfl
  have e3 : ([0, a, b, c, 16] : List Int).getD (3 : Int).toNat 0 = c := rfl
  have e4 : ([0, a, b, c, 16] : List Int).getD (4 : Int).toNat 0 = 16 := rfl
  rcases hs with rfl | rfl | rfl | rfl | rfl <;> rcases ht with rfl | rfl | rfl | rfl | rfl <;> simp only [e0, e1, e2, e3, e4] <;> omega
theorem encF_split {es txt : List Int} (i : Nat) : encF es txt = (txt.drop i).foldl (stepE es) (encF es (txt.take i)) := by
  unfold encF
  rw [← List.foldl_append, List.take_append_drop]
/-- what is read is what was written -/
theorem turns_read {es : List Int} (he : EndsOk es) {txt : List Int} {v : Int} (hl : txt.length = 5) (hx : ∀ x ∈ txt, 0 ≤ x ∧ x < 4) (h1 : (encF es txt).1 ≤ v) (h2 : v < (encF es txt).1 + (encF es txt).2) :
    ∀ i : Nat, i ≤ 5 → turnsF es v i = ((encF es (txt.take i)).1, (encF es (txt.take i)).2, txt.take i)
  | 0, _ => rfl
  | i + 1, hi => by
    have ih := turns_read he hl hx h1 h2 i (by omega)
    have hil : i < txt.length := by omega
    have hsg := hx _ (List.getElem_mem hil)
    obtain ⟨w1, w2, w3⟩ := encF_inv he i (txt.take i) (by rw [List.length_take]; omega) fun x hm => hx x (List.mem_of_mem_take hm)
    obtain ⟨a1, a2, a3, a4⟩ := stepE_nest he (st := encF es (txt.take i)) hsg.1 (by omega) w2
    have hn := fold_nest he (txt.drop (i + 1)) (encF es (txt.take (i + 1))) (by rw [encF_take hil]; exact a2) fun x hm => hx x (List.mem_of_mem_drop hm)
    rw [← encF_split, encF_take hil, List.length_drop, hl, show 5 - (i + 1) = 4 - i by omega] at hn
    obtain ⟨b1, b2, b3⟩ := hn
    have hp : (0 : Int) < 16 ^ (4 - i) := Int.pow_pos (by decide)
    have hpick : pickF es v (encF es (txt.take i)).1 (encF es (txt.take i)).2 (16 ^ (4 - i)) 3 0 = txt[i] := by
      refine pick_eq 3 0 hsg.1 (by omega) (fun s s0 s1 => ?_) fun _ => ?_
      · have m1 := ends_mono he (s := s + 1) (t := txt[i]) (by omega) (by omega) (by omega)
        have m2 : (encF es (txt.take i)).2 * es.getD (s + 1).toNat 0 ≤ (encF es (txt.take i)).2 * es.getD (txt[i]).toNat 0 := Int.mul_le_mul_of_nonneg_left m1 (Int.le_of_lt w2)
        have m3 : (16 * (encF es (txt.take i)).1 + (encF es (txt.take i)).2 * es.getD (s + 1).toNat 0) * 16 ^ (4 - i) ≤ (stepE es (encF es (txt.take i)) txt[i]).1 * 16 ^ (4 - i) := Int.mul_le_mul_of_nonneg_right (by unfold stepE; dsimp only; omega) (Int.le_of_lt hp)
        omega
      · rw [← a3]; omega
    rw [turnsF, ih, turnF]
    dsimp only
    rw [List.length_take, Nat.min_eq_left (by omega), hpick, encF_take hil]
    refine Prod.ext rfl (Prod.ext rfl ?_)
    show txt.take i ++ [txt[i]] = txt.take (i + 1)
    rw [List.take_add_one, List.getElem?_eq_getElem hil]; rfl
theorem read_ok {es : List Int} (he : EndsOk es) {txt : List Int} {v : Int} (hl : txt.length = 5) (hx : ∀ x ∈ txt, 0 ≤ x ∧ x < 4) (h1 : (encF es txt).1 ≤ v) (h2 : v < (encF es txt).1 + (encF es txt).2) : readF es v = txt := by
  unfold readF
  rw [turns_read he hl hx h1 h2 5 (Nat.le_refl _)]
  show txt.take 5 = txt
  exact List.take_of_length_le (by omega)


end
section
theorem valF_cons (b x : Int) (l : List Int) : valF b (x :: l) = x * b ^ l.length + valF b l := by
  have := valF_append b l [x]
  have e3 : valF b [x] = x := by show 0 * b + x = x; omega
  rw [e3] at this
  exact this
/-- the numbers that begin with the figures, R in all -/
noncomputable def loW (b : Int) (R : Nat) (dg : List Int) : Int := valF b dg * b ^ (R - dg.length)
noncomputable def hiW (b : Int) (R : Nat) (dg : List Int) : Int := (valF b dg + 1) * b ^ (R - dg.length)
theorem w_cons (b x : Int) (l : List Int) {R : Nat} (h : l.length ≤ R) : loW b (R + 1) (x :: l) = x * b ^ R + loW b R l ∧ hiW b (R + 1) (x :: l) = x * b ^ R + hiW b R l := by
  have e : b ^ l.length * b ^ (R - l.length) = b ^ R := by rw [← Int.pow_add]; congr 1; omega
  unfold loW hiW
  rw [valF_cons, List.length_cons, Nat.add_sub_add_right]
  constructor
  · rw [Int.add_mul, Int.mul_assoc, e]
  · rw [Int.add_assoc, Int.add_mul, Int.mul_assoc, e]
theorem w_bounds {b : Int} (hb : 0 < b) : ∀ (l : List Int) (R : Nat), l.length ≤ R → (∀ x ∈ l, 0 ≤ x ∧ x < b) → 0 ≤ loW b R l ∧ loW b R l < hiW b R l ∧ hiW b R l ≤ b ^ R
  | [], R, _, _ => by
    have hp : (0 : Int) < b ^ R := Int.pow_pos hb
    have e1 : loW b R [] = 0 := by show 0 * b ^ (R - 0) = 0; omega
    have e2 : hiW b R [] = b ^ R := by show (0 + 1) * b ^ (R - 0) = b ^ R; rw [Nat.sub_zero]; omega
    rw [e1, e2]; omega
  | x :: l, 0, h, _ => by simp at h
  | x :: l, R + 1, h, hx => by
    obtain ⟨e1, e2⟩ := w_cons b x l (R := R) (by simpa using h)
    obtain ⟨a1, a2, a3⟩ := w_bounds hb l R (by simpa using h) fun y hy => hx y (.tail _ hy)
    have h1 := hx x (.head _)
    have hp : (0 : Int) < b ^ R := Int.pow_pos hb
    have m1 : 0 ≤ x * b ^ R := Int.mul_nonneg h1.1 (Int.le_of_lt hp)
    have m2 : (x + 1) * b ^ R ≤ b * b ^ R := Int.mul_le_mul_of_nonneg_right (by omega) (Int.le_of_lt hp)
    rw [e1, e2, Int.pow_succ, Int.mul_comm (b ^ R) b]
    rw [Int.add_mul, Int.one_mul] at m2
    omega
theorem gap_spec {b : Int} (hb : 0 < b) : ∀ (a c : List Int) (R : Nat), a.length ≤ R → c.length ≤ R → (∀ x ∈ a, 0 ≤ x ∧ x < b) → (∀ x ∈ c, 0 ≤ x ∧ x < b) →
    (gapF a c < 0 → hiW b R a ≤ loW b R c) ∧ (0 < gapF a c → hiW b R c ≤ loW b R a) ∧ (gapF a c = 0 → loW b R a < hiW b R c ∧ loW b R c < hiW b R a)
  | [], c, R, ha, hc, hxa, hxc => by
    obtain ⟨a1, a2, a3⟩ := w_bounds hb [] R ha hxa
    obtain ⟨c1, c2, c3⟩ := w_bounds hb c R hc hxc
    have e1 : loW b R [] = 0 := by show 0 * b ^ (R - 0) = 0; omega
    have e2 : hiW b R [] = b ^ R := by show (0 + 1) * b ^ (R - 0) = b ^ R; rw [Nat.sub_zero]; omega
    have e3 : gapF [] c = 0 := by cases c <;> rfl
    rw [e3]
    refine ⟨fun h => absurd h (by decide), fun h => absurd h (by decide), fun _ => ?_⟩
    rw [e1, e2]; omega
  | x :: l, [], R, ha, hc, hxa, hxc => by
    obtain ⟨a1, a2, a3⟩ := w_bounds hb (x :: l) R ha hxa
    have e1 : loW b R [] = 0 := by show 0 * b ^ (R - 0) = 0; omega
    have e2 : hiW b R [] = b ^ R := by show (0 + 1) * b ^ (R - 0) = b ^ R; rw [Nat.sub_zero]; omega
    have e3 : gapF (x :: l) [] = 0 := rfl
    rw [e3]
    refine ⟨fun h => absurd h (by decide), fun h => absurd h (by decide), fun _ => ?_⟩
    rw [e1, e2]; omega
  | x :: l, y :: r, 0, ha, _, _, _ => by simp at ha
  | x :: l, y :: r, R + 1, ha, hc, hxa, hxc => by
    have ha' : l.length ≤ R := by simpa using ha
    have hc' : r.length ≤ R := by simpa using hc
    obtain ⟨e1, e2⟩ := w_cons b x l ha'
    obtain ⟨f1, f2⟩ := w_cons b y r hc'
    obtain ⟨a1, a2, a3⟩ := w_bounds hb l R ha' fun z hz => hxa z (.tail _ hz)
    obtain ⟨c1, c2, c3⟩ := w_bounds hb r R hc' fun z hz => hxc z (.tail _ hz)
    have hp : (0 : Int) < b ^ R := Int.pow_pos hb
    rw [e1, e2, f1, f2, gapF]
    by_cases hxy : x = y
    · subst hxy
      rw [if_pos rfl]
      obtain ⟨g1, g2, g3⟩ := gap_spec hb l r R ha' hc' (fun z hz => hxa z (.tail _ hz)) fun z hz => hxc z (.tail _ hz)
      exact ⟨fun h => by have := g1 h; omega, fun h => by have := g2 h; omega, fun h => by have := g3 h; omega⟩
    · rw [if_neg hxy]
      refine ⟨fun h => ?_, fun h => ?_, fun h => absurd (show x = y by omega) hxy⟩
      · have m : (x + 1) * b ^ R ≤ y * b ^ R := Int.mul_le_mul_of_nonneg_right (by omega) (Int.le_of_lt hp)
        rw [Int.add_mul, Int.one_mul] at m; omega
      · have m : (y + 1) * b ^ R ≤ x * b ^ R := Int.mul_le_mul_of_nonneg_right (by omega) (Int.le_of_lt hp)
        rw [Int.add_mul, Int.one_mul] at m; omega
/-- the stretches lie as the texts -/
theorem fold_lex {es : List Int} (he : EndsOk es) : ∀ (t u : List Int) (st : Int × Int), 0 < st.2 → t.length = u.length → (∀ x ∈ t, 0 ≤ x ∧ x < 4) → (∀ x ∈ u, 0 ≤ x ∧ x < 4) → t ≠ u →
    (lexLe t u = true ∧ (t.foldl (stepE es) st).1 + (t.foldl (stepE es) st).2 ≤ (u.foldl (stepE es) st).1) ∨ (lexLe t u = false ∧ (u.foldl (stepE es) st).1 + (u.foldl (stepE es) st).2 ≤ (t.foldl (stepE es) st).1)
  | [], [], _, _, _, _, _, hne => absurd rfl hne
  | [], _ :: _, _, _, hl, _, _, _ => by simp at hl
  | _ :: _, [], _, _, hl, _, _, _ => by simp at hl
  | x :: t, y :: u, st, hw, hl, ht, hu, hne => by
    have hx := ht x (.head _)
    have hy := hu y (.head _)
    obtain ⟨a1, a2, a3, a4⟩ := stepE_nest he (st := st) hx.1 (by omega) hw
    obtain ⟨b1, b2, b3, b4⟩ := stepE_nest he (st := st) hy.1 (by omega) hw
    have ht' := fun z hz => ht z (.tail _ hz)
    have hu' := fun z hz => hu z (.tail _ hz)
    have hl' : t.length = u.length := by simpa using hl
    rw [List.foldl_cons, List.foldl_cons, lexLe]
    by_cases hxy : x = y
    · subst hxy
      rw [if_pos rfl]
      exact fold_lex he t u _ a2 hl' ht' hu' fun q => hne (by rw [q])
    · rw [if_neg hxy]
      obtain ⟨n1, n2, n3⟩ := fold_nest he t (stepE es st x) a2 ht'
      obtain ⟨k1, k2, k3⟩ := fold_nest he u (stepE es st y) b2 hu'
      have hp : (0 : Int) ≤ 16 ^ u.length := Int.le_of_lt (Int.pow_pos (by decide))
      rw [hl'] at n1 n3
      by_cases hlt : x < y
      · left
        refine ⟨decide_eq_true (by omega), ?_⟩
        have m1 := ends_mono he (s := x + 1) (t := y) (by omega) (by omega) (by omega)
        have m2 : st.2 * es.getD (x + 1).toNat 0 ≤ st.2 * es.getD y.toNat 0 := Int.mul_le_mul_of_nonneg_left m1 (Int.le_of_lt hw)
        have m3 : (stepE es st x).1 + (stepE es st x).2 ≤ (stepE es st y).1 := by rw [a3]; unfold stepE; dsimp only; omega
        have m4 := Int.mul_le_mul_of_nonneg_right m3 hp
        omega
      · right
        refine ⟨decide_eq_false (by omega), ?_⟩
        have m1 := ends_mono he (s := y + 1) (t := x) (by omega) (by omega) (by omega)
        have m2 : st.2 * es.getD (y + 1).toNat 0 ≤ st.2 * es.getD x.toNat 0 := Int.mul_le_mul_of_nonneg_left m1 (Int.le_of_lt hw)
        have m3 : (stepE es st y).1 + (stepE es st y).2 ≤ (stepE es st x).1 := by rw [b3]; unfold stepE; dsimp only; omega
        have m4 := Int.mul_le_mul_of_nonneg_right m3 hp
        omega
theorem lexLe_refl : ∀ t : List Int, lexLe t t = true
  | [] => rfl
  | x :: t => by rw [lexLe, if_pos rfl]; exact lexLe_refl t
/-- the word of a stretch -/
noncomputable def wordF (base : Int) (k : Nat) (lo wd : Int) : List Int := digB base (shortF base lo wd k 1 (base ^ k)).1.toNat (shortF base lo wd k 1 (base ^ k)).2
theorem word_all {base room lo wd : Int} {k : Nat} (hbr : (base = 16 ∧ room = 6 ∧ k = 5) ∨ (base = 64 ∧ room = 4 ∧ k = 3)) (h0 : 0 ≤ lo) (h1 : 1 ≤ wd) (h2 : lo + wd ≤ 2 ^ 24) :
    WordOk base room k lo wd (wordF base k lo wd) ∧ lo ≤ loW base (k + 1) (wordF base k lo wd) ∧ hiW base (k + 1) (wordF base k lo wd) ≤ lo + wd ∧ (wordF base k lo wd).length ≤ k + 1 ∧ (room - ((wordF base k lo wd).length : Int)).toNat = k + 1 - (wordF base k lo wd).length := by
  have hb : 0 < base := by rcases hbr with ⟨rfl, _, _⟩ | ⟨rfl, _, _⟩ <;> decide
  have hrk : room = (k : Int) + 1 := by rcases hbr with ⟨_, rfl, rfl⟩ | ⟨_, rfl, rfl⟩ <;> decide
  have hk24 : base ^ (k + 1) = 2 ^ 24 := by rcases hbr with ⟨rfl, rfl, rfl⟩ | ⟨rfl, rfl, rfl⟩ <;> decide
  have HB := PySem.Flt.Hid.mk hbr
  clear hbr
  obtain ⟨j, hj, e1, e2, e3⟩ := shortF_spec (lo := lo) hb h1 k 1
  have hB : (0 : Int) < base ^ j := Int.pow_pos hb
  obtain ⟨q1, q2⟩ := cdF_spec (lo := lo) hB
  have es : (1 : Int) + ((k - j : Nat) : Int) = ((k + 1 - j : Nat) : Int) := by
    rw [show k + 1 - j = (k - j) + 1 from Nat.succ_sub hj, Int.add_comm]; rfl
  have hsplit : base ^ (k + 1 - j) * base ^ j = base ^ (k + 1) := by rw [← Int.pow_add, Nat.sub_add_cancel (Nat.le_succ_of_le hj)]
  have hn0 : 0 ≤ cdF lo (base ^ j) := by
    by_cases hq : 0 ≤ cdF lo (base ^ j)
    · exact hq
    · exfalso
      have : cdF lo (base ^ j) * base ^ j ≤ (-1) * base ^ j := Int.mul_le_mul_of_nonneg_right (by omega) (Int.le_of_lt hB)
      omega
  have hn1 : cdF lo (base ^ j) < base ^ (k + 1 - j) := by
    have : (cdF lo (base ^ j) + 1) * base ^ j ≤ base ^ (k + 1 - j) * base ^ j := by rw [hsplit, hk24]; omega
    have := Int.le_of_mul_le_mul_right this hB
    omega
  have hlen : (wordF base k lo wd).length = k + 1 - j := by
    unfold wordF; rw [digB_len, e1, es, Int.toNat_natCast]
  have hval : valF base (wordF base k lo wd) = cdF lo (base ^ j) := by
    unfold wordF; rw [e1, es, Int.toNat_natCast, e2]; exact valF_digB hb _ _ hn0 hn1
  have hjj : k + 1 - (k + 1 - j) = j := Nat.sub_sub_self (Nat.le_succ_of_le hj)
  refine ⟨⟨HB.out, ?_, by rw [e2]; exact hn0, fun h16 => ?_, fun h64 => ?_, by rw [hlen, e1, es], ?_⟩, ?_, ?_, by rw [hlen]; exact Nat.sub_le _ _, by rw [hrk]; exact Int.toNat_sub (k + 1) _⟩
  · rw [e1]; exact ⟨Int.le_add_of_nonneg_right (Int.natCast_nonneg _), by rw [hrk, Int.add_comm]; exact Int.add_le_add_right (Int.ofNat_le.mpr (Nat.sub_le _ _)) 1⟩
  · have rk : room = 6 ∧ k = 5 := by
      rcases HB.out with ⟨_, a, b⟩ | ⟨e, _, _⟩
      · exact ⟨a, b⟩
      · exact absurd (h16.symm.trans e) (by decide)
    obtain ⟨rfl, rfl⟩ := rk
    subst h16
    clear HB hrk
    have hw := wr16_dig (size := 5 + 1 - j) (Nat.sub_le _ _) hn0 hn1
    unfold wordF
    rw [e1, e2, es, Int.toNat_natCast]
    have hle : (16 : Int) ^ (5 + 1 - j) ≤ 16777216 := by
      have : j = 0 ∨ j = 1 ∨ j = 2 ∨ j = 3 ∨ j = 4 ∨ j = 5 := by omega
      rcases this with rfl | rfl | rfl | rfl | rfl | rfl <;> decide
    exact ⟨by omega, hw.2, hw.1⟩
  · have rk : room = 4 ∧ k = 3 := by
      rcases HB.out with ⟨e, _, _⟩ | ⟨_, a, b⟩
      · exact absurd (h64.symm.trans e) (by decide)
      · exact ⟨a, b⟩
    obtain ⟨rfl, rfl⟩ := rk
    subst h64
    clear HB hrk
    have hw := wr64_dig (size := 3 + 1 - j) (x := cdF lo (64 ^ j)) (Nat.sub_pos_of_lt (Nat.lt_succ_of_le hj)) (Nat.sub_le _ _)
    unfold wordF
    rw [e1, e2, es, Int.toNat_natCast]
    have hj4 : ((4 : Int) - ((3 + 1 - j : Nat) : Int)).toNat = j := (Int.toNat_sub 4 _).trans (Nat.sub_sub_self (Nat.le_succ_of_le hj))
    rw [hj4]
    refine ⟨?_, hw⟩
    rw [Int.add_mul, Int.one_mul] at e3
    omega
  · exact digB_in hb _ _
  · unfold loW; rw [hval, hlen, hjj]; exact q1
  · unfold hiW; rw [hval, hlen, hjj]; exact e3


end
section
section
variable {es : List Int} {T : Nat → List Int} {base room : Int} {k : Nat}
/-- the word of the j-th text -/
noncomputable def wordT (es : List Int) (T : Nat → List Int) (base : Int) (k j : Nat) : List Int := wordF base k (encF es (T j)).1 (encF es (T j)).2
theorem lex_rank (he : EndsOk es) (hT5 : ∀ j, (T j).length = 5) (hT4 : ∀ j, ∀ x ∈ T j, 0 ≤ x ∧ x < 4) (i j : Nat) :
    (lexLe (T i) (T j) = true ↔ (encF es (T i)).1 ≤ (encF es (T j)).1) ∧ (T i ≠ T j → ((encF es (T i)).1 < (encF es (T j)).1 ∧ (encF es (T i)).1 + (encF es (T i)).2 ≤ (encF es (T j)).1) ∨ ((encF es (T j)).1 < (encF es (T i)).1 ∧ (encF es (T j)).1 + (encF es (T j)).2 ≤ (encF es (T i)).1)) := by
  obtain ⟨a1, a2, a3⟩ := encF_inv he 5 (T i) (hT5 i) (hT4 i)
  obtain ⟨b1, b2, b3⟩ := encF_inv he 5 (T j) (hT5 j) (hT4 j)
  by_cases h : T i = T j
  · rw [h]
    exact ⟨⟨fun _ => Int.le_refl _, fun _ => lexLe_refl _⟩, fun q => absurd rfl q⟩
  · have := fold_lex he (T i) (T j) (0, 16) (by decide) (by rw [hT5, hT5]) (hT4 i) (hT4 j) h
    have e1 : (T i).foldl (stepE es) (0, 16) = encF es (T i) := rfl
    have e2 : (T j).foldl (stepE es) (0, 16) = encF es (T j) := rfl
    rw [e1, e2] at this
    rcases this with ⟨q1, q2⟩ | ⟨q1, q2⟩
    · exact ⟨⟨fun _ => by omega, fun _ => q1⟩, fun _ => .inl ⟨by omega, q2⟩⟩
    · exact ⟨⟨fun q => (by rw [q1] at q; cases q), fun q => by omega⟩, fun _ => .inr ⟨by omega, q2⟩⟩
theorem word_facts (he : EndsOk es) (hT5 : ∀ j, (T j).length = 5) (hT4 : ∀ j, ∀ x ∈ T j, 0 ≤ x ∧ x < 4) (hbr : (base = 16 ∧ room = 6 ∧ k = 5) ∨ (base = 64 ∧ room = 4 ∧ k = 3)) :
    (∀ j, WordOk base room k (encF es (T j)).1 (encF es (T j)).2 (wordT es T base k j)) ∧ (∀ j, ∀ c : Int, c = 0 ∨ c = base - 1 → readF es (valF base (wordT es T base k j ++ List.replicate (room - (wordT es T base k j).length).toNat c)) = T j) ∧
    (∀ j, (wordT es T base k j).length ≤ 6 ∧ ∀ x ∈ wordT es T base k j, 0 ≤ x ∧ x < 64) ∧
    (∀ i j, (gapF (wordT es T base k i) (wordT es T base k j) < 0 ↔ (encF es (T i)).1 < (encF es (T j)).1) ∧ (gapF (wordT es T base k i) (wordT es T base k j) = 0 ↔ T i = T j)) := by
  have hb : 0 < base := by omega
  have inv : ∀ j, 0 ≤ (encF es (T j)).1 ∧ 0 < (encF es (T j)).2 ∧ (encF es (T j)).1 + (encF es (T j)).2 ≤ 16 ^ (5 + 1) := fun j => encF_inv he 5 (T j) (hT5 j) (hT4 j)
  have e24 : (16 : Int) ^ (5 + 1) = 2 ^ 24 := by decide
  simp only [e24] at inv
  have all := fun j => word_all (lo := (encF es (T j)).1) (wd := (encF es (T j)).2) hbr (inv j).1 (by have := (inv j).2.1; omega) (inv j).2.2
  refine ⟨fun j => (all j).1, fun j c hc => ?_, fun j => ?_, fun i j => ?_⟩
  · obtain ⟨w, q1, q2, q3, q4⟩ := all j
    unfold wordT
    rw [q4]
    refine read_ok he (hT5 j) (hT4 j) ?_ ?_ <;> rw [valF_append, List.length_replicate]
    · unfold loW at q1
      rcases hc with rfl | rfl
      · rw [valF_rep0]; omega
      · rw [valF_repb]
        have : (0 : Int) < base ^ (k + 1 - (wordF base k (encF es (T j)).1 (encF es (T j)).2).length) := Int.pow_pos hb
        omega
    · unfold hiW at q2
      rw [Int.add_mul, Int.one_mul] at q2
      have : (0 : Int) < base ^ (k + 1 - (wordF base k (encF es (T j)).1 (encF es (T j)).2).length) := Int.pow_pos hb
      rcases hc with rfl | rfl
      · rw [valF_rep0]; omega
      · rw [valF_repb]; omega
  · obtain ⟨w, q1, q2, q3, q4⟩ := all j
    refine ⟨by unfold wordT; omega, fun x hx => ?_⟩
    have := w.dig x hx
    omega
  · obtain ⟨w, q1, q2, q3, q4⟩ := all i
    obtain ⟨w', r1, r2, r3, r4⟩ := all j
    obtain ⟨g1, g2, g3⟩ := gap_spec hb (wordT es T base k i) (wordT es T base k j) (k + 1) q3 r3 w.dig w'.dig
    obtain ⟨l1, l2⟩ := lex_rank he hT5 hT4 i j
    obtain ⟨s1, s2, s3⟩ := w_bounds hb (wordT es T base k i) (k + 1) q3 w.dig
    obtain ⟨t1, t2, t3⟩ := w_bounds hb (wordT es T base k j) (k + 1) r3 w'.dig
    have q1' : (encF es (T i)).1 ≤ loW base (k + 1) (wordT es T base k i) := q1
    have q2' : hiW base (k + 1) (wordT es T base k i) ≤ (encF es (T i)).1 + (encF es (T i)).2 := q2
    have r1' : (encF es (T j)).1 ≤ loW base (k + 1) (wordT es T base k j) := r1
    have r2' : hiW base (k + 1) (wordT es T base k j) ≤ (encF es (T j)).1 + (encF es (T j)).2 := r2
    by_cases h : T i = T j
    · have hw : wordT es T base k i = wordT es T base k j := by unfold wordT; rw [h]
      have e0 : gapF (wordT es T base k i) (wordT es T base k j) = 0 := by
        by_cases z : gapF (wordT es T base k i) (wordT es T base k j) < 0
        · have := g1 z; rw [hw] at this; omega
        · by_cases z2 : 0 < gapF (wordT es T base k i) (wordT es T base k j)
          · have := g2 z2; rw [hw] at this; omega
          · omega
      rw [e0, h]
      exact ⟨⟨fun q => absurd q (by decide), fun q => absurd q (Int.lt_irrefl _)⟩, ⟨fun _ => rfl, fun _ => rfl⟩⟩
    · rcases l2 h with ⟨z1, z2⟩ | ⟨z1, z2⟩
      · have e0 : gapF (wordT es T base k i) (wordT es T base k j) < 0 := by
          by_cases z : gapF (wordT es T base k i) (wordT es T base k j) < 0
          · exact z
          · exfalso
            by_cases y : gapF (wordT es T base k i) (wordT es T base k j) = 0
            · have := g3 y; omega
            · have := g2 (by omega); omega
        exact ⟨⟨fun _ => z1, fun _ => e0⟩, ⟨fun q => by omega, fun q => absurd q h⟩⟩
      · have e0 : 0 < gapF (wordT es T base k i) (wordT es T base k j) := by
          by_cases z : 0 < gapF (wordT es T base k i) (wordT es T base k j)
          · exact z
          · exfalso
            by_cases y : gapF (wordT es T base k i) (wordT es T base k j) = 0
            · have := g3 y; omega
            · have := g1 (by omega); omega
        exact ⟨⟨fun q => by omega, fun q => by omega⟩, ⟨fun q => by omega, fun q => absurd q h⟩⟩
end
theorem digF_len (x : Int) : (digF x).length = 5 := rfl
theorem digF_in (x : Int) : ∀ d ∈ digF x, 0 ≤ d ∧ d < 4 := by
  intro d hd
  obtain ⟨k, _, rfl⟩ := List.mem_map.mp hd
  exact ⟨Int.fmod_nonneg_of_pos _ (by decide), Int.fmod_lt_of_pos _ (by decide)⟩
theorem lex0 : ∀ t : List Int, (∀ x ∈ t, 0 ≤ x) → lexLe (List.replicate t.length 0) t = true
  | [], _ => rfl
  | x :: t, h => by
    have hx := h x (.head _)
    rw [List.length_cons, List.replicate_succ, lexLe]
    split
    · exact lex0 t fun y hy => h y (.tail _ hy)
    · exact decide_eq_true hx
theorem lex3 : ∀ t : List Int, (∀ x ∈ t, x ≤ 3) → lexLe t (List.replicate t.length 3) = true
  | [], _ => rfl
  | x :: t, h => by
    have hx := h x (.head _)
    rw [List.length_cons, List.replicate_succ, lexLe]
    split
    · exact lex3 t fun y hy => h y (.tail _ hy)
    · exact decide_eq_true hx
theorem insO_congr {lt lt' : Nat → Nat → Bool} : ∀ n : Nat, (∀ i j, i < n → j < n → lt i j = lt' i j) → insO lt n = insO lt' n
  | 0, _ => rfl
  | n + 1, h => by
    have ih := insO_congr n fun i j hi hj => h i j (by omega) (by omega)
    have e : (insO lt n).filter (fun k => !(lt n k)) = (insO lt' n).filter (fun k => !(lt' n k)) := by
      rw [ih]
      refine List.filter_congr fun x hx => ?_
      rw [h n x (by omega) (by have := insO_lt hx; omega)]
    rw [insO, insO, insAt, insAt, e, ih]
/-- the sort's tree, for the texts' ranks -/
theorem sort_facts {es xs : List Int} {u : List Int} (he : EndsOk es) (hx : xs = u ++ [0, 1023, 228]) (hu : u.length ≤ 3) :
    inT xs.length (ltR (xs.map fun x => (encF es (digF x)).1)) (kas_sort xs.length) = true ∧ (evT (ltR (xs.map fun x => (encF es (digF x)).1)) (kas_sort xs.length)).toList = insO (ltT fun j => digF (xs.getD j 0)) xs.length ∧
    ∀ i j, i < xs.length → j < xs.length → (ltR (xs.map fun x => (encF es (digF x)).1) i j = true ↔ (encF es (digF (xs.getD i 0))).1 < (encF es (digF (xs.getD j 0))).1) := by
  have key : ∀ i j, i < xs.length → j < xs.length → (ltR (xs.map fun x => (encF es (digF x)).1) i j = true ↔ (encF es (digF (xs.getD i 0))).1 < (encF es (digF (xs.getD j 0))).1) := fun i j hi hj => by
    unfold ltR
    have b1 : Nat.blt i (xs.map fun x => (encF es (digF x)).1).length = true := by rw [List.length_map]; exact Nat.ble_eq_true_of_le hi
    have b2 : Nat.blt j (xs.map fun x => (encF es (digF x)).1).length = true := by rw [List.length_map]; exact Nat.ble_eq_true_of_le hj
    rw [b1, b2]
    simp only [Bool.true_and, decide_eq_true_eq]
    have e1 : (xs.map fun x => (encF es (digF x)).1).getD i 0 = (encF es (digF (xs.getD i 0))).1 := by simp [hi]
    have e2 : (xs.map fun x => (encF es (digF x)).1).getD j 0 = (encF es (digF (xs.getD j 0))).1 := by simp [hj]
    rw [e1, e2]
  have hl : xs.length = u.length + 3 := by rw [hx, List.length_append]; rfl
  -- two texts as a table
  have two := fun a b : Int => lex_rank (T := fun j => digF (if j = 0 then a else b)) he (fun _ => rfl) (fun _ => digF_in _) 0 1
  have low : ∀ x : Int, (encF es (digF 0)).1 ≤ (encF es (digF x)).1 := fun x => ((two 0 x).1).mp (by
    have := lex0 (digF x) fun y hy => (digF_in x y hy).1
    exact this)
  have high : ∀ x : Int, (encF es (digF x)).1 ≤ (encF es (digF 1023)).1 := fun x => ((two x 1023).1).mp (by
    have := lex3 (digF x) fun y hy => by have := (digF_in x y hy).2; omega
    exact this)
  have m1 : (encF es (digF 0)).1 < (encF es (digF 228)).1 := by
    rcases (two 0 228).2 (by decide) with ⟨a, _⟩ | ⟨a, _⟩
    · exact a
    · have := low 228; exact absurd a (by show ¬ ((encF es (digF 228)).1 < (encF es (digF 0)).1); omega)
  have m2 : (encF es (digF 228)).1 < (encF es (digF 1023)).1 := by
    rcases (two 228 1023).2 (by decide) with ⟨a, _⟩ | ⟨a, _⟩
    · exact a
    · have := high 228; exact absurd a (by show ¬ ((encF es (digF 1023)).1 < (encF es (digF 228)).1); omega)
  have hr : xs.map (fun x => (encF es (digF x)).1) = u.map (fun x => (encF es (digF x)).1) ++ [(encF es (digF 0)).1, (encF es (digF 1023)).1, (encF es (digF 228)).1] := by rw [hx, List.map_append]; rfl
  have ok := sort_ok (u := u.map fun x => (encF es (digF x)).1) (lo := (encF es (digF 0)).1) (hi := (encF es (digF 1023)).1) (mid := (encF es (digF 228)).1) (by rw [List.length_map]; exact hu) (fun x hx => by
    obtain ⟨y, _, rfl⟩ := List.mem_map.mp hx
    exact ⟨low y, high y⟩) m1 m2
  rw [← hr, List.length_map, ← hl] at ok
  refine ⟨ok.1, ok.2.trans (insO_congr _ fun i j hi hj => ?_), key⟩
  have q := lex_rank (T := fun j => digF (xs.getD j 0)) he (fun _ => rfl) (fun _ => digF_in _) j i
  have k := key i j hi hj
  unfold ltT
  cases h1 : ltR (xs.map fun x => (encF es (digF x)).1) i j with
  | true =>
    have := k.mp h1
    cases h2 : lexLe (digF (xs.getD j 0)) (digF (xs.getD i 0)) with
    | false => rfl
    | true => have := q.1.mp h2; exact absurd this (by show ¬ ((encF es (digF (xs.getD j 0))).1 ≤ (encF es (digF (xs.getD i 0))).1); omega)
  | false =>
    cases h2 : lexLe (digF (xs.getD j 0)) (digF (xs.getD i 0)) with
    | true => rfl
    | false =>
      exfalso
      have h3 : ¬ ((encF es (digF (xs.getD j 0))).1 ≤ (encF es (digF (xs.getD i 0))).1) := fun z => by have := q.1.mpr z; rw [show lexLe (digF (xs.getD j 0)) (digF (xs.getD i 0)) = true from this] at h2; cases h2
      have := k.mpr (by omega)
      rw [h1] at this; cases this


end
section
local macro_rules | `(tactic| k_all) => `(tactic| first | assumption | exact tlA0 (by assumption) | exact tlA1 (by assumption) | exact tlA2 (by assumption) | exact tlA3 (by assumption) | exact tlA4 (by assumption) | exact tlA5 (by assumption) | exact tlA6 (by assumption) | exact tlA7 (by assumption) | exact tlA8 (by assumption) | exact tlB1 (by assumption) | exact tlB2 (by assumption) | exact tlB3 (by assumption) | exact tlB4 (by assumption) | exact tlB5 (by assumption) | exact tlB6 (by assumption))
local macro_rules | `(tactic| k_all) => `(tactic| first | exact List.forall_mem_nil _ | (refine' List.forall_mem_cons.mpr ⟨?a, ?b⟩; (case a => k_ne); (case b => k_all)))
local macro_rules | `(tactic| k_mem) => `(tactic| assumption)
local macro_rules | `(tactic| k_mem) => `(tactic| first | exact List.Mem.head _ | (refine' List.Mem.tail _ ?_; k_mem))
section
theorem map_getD_range {α β : Type} (l : List α) (d : α) (f : α → β) : (List.range l.length).map (fun i => f (l.getD i d)) = l.map f := by
  refine List.ext_getElem? fun i => ?_
  by_cases hi : i < l.length
  · simp [hi]
  · rw [List.getElem?_eq_none (by simp; omega), List.getElem?_eq_none (by simp; omega)]
theorem execs_gen {M : Model} {A : Around} {env : Env} {E : Value → Shared → Prop} {Q : Flow → Shared → Prop} {body : List Stmt} (n : Nat) {s : Shared}
    (h : ∀ QQ : Flow → Shared → Prop, (∀ s', wpAny M A (execs (body.drop n) env) Q E s' → QQ .next s') → wpAny M A (execs (body.take n) env) QQ E s) : wpAny M A (execs body env) Q E s :=
  execs_then n (h (fun fl s' => match fl with | .next => wpAny M A (execs (body.drop n) env) Q E s' | f => Q f s') fun _ h => h)
theorem restBody : ∀ {w : World} {p : Program} {loose : List Str} {mean : ExcName → Option Value} {mg mb : Str → Option Value} (dp ut : Nat) (fr : Option (List Env)) (gd : Option (List Code)) (s : Shared) (G : Heap) (L fa tx oa td f pl : Addr) (a : KA) (m : Str → Option Value) (tl : List (Addr × Obj)) (o3 o4 o5 o6 : Obj) (v6 : Option Value) (b1 b2 : Tok) (n : Nat) (T Wd : Nat → List Int) (ths ords : List Value) (c cO : Nat) (base room : Int) (lt : Nat → Nat → Bool)
   (Q : Flow → Shared → Prop) (X : (heapK w.params).In G) (TT : Top p loose mean mg mb G)
   (F : Fr G L s.heap (kstB m [("base", .int base b1), ("room", .int room b2), ("things", .ref td)])) (N : News G L s.heap ((L + 6, o6) :: tl)) (h6 : o6.data = .cell v6) (t6 : ∀ p ∈ tl, p.1 ≠ L + 6)
   (hm3 : (L + 3, o3) ∈ tl) (h3 : o3.data = .cell (some (.ref tx))) (hm4 : (L + 4, o4) ∈ tl) (h4 : o4.data = .cell (some (.ref oa))) (hm5 : (L + 5, o5) ∈ tl) (h5 : o5.data = .cell (some (.ref a.c)))
   (htd : (td, W.listOf (List.toArray ths) c) ∈ tl) (hoa : (oa, W.listOf (List.toArray ords) cO) ∈ tl) (hIo : IntsAre ords ((insO (ltT T) n).map fun k : Nat => (k : Int))) (hTx : TextsIn tl tx n T) (hTh : ThingsIn Wd ths n tl)
   (hK : ∀ h : Heap, (∀ q ∈ tl, h.get? q.1 = some q.2) → KeyAt w h L a f pl) (h2n : 2 ≤ n) (hn : n < 64) (hW : ∀ j, j < n → (Wd j).length ≤ 6 ∧ ∀ x ∈ Wd j, 0 ≤ x ∧ x < 64) (hlt : ∀ i j, i < n → j < n → (lt i j = true ↔ gapF (Wd i) (Wd j) < 0))
   (hin : inT n lt (kas_sort n) = true) (hev : (evT lt (kas_sort n)).toList = insO (ltT T) n) (heq : ∀ i j, i < n → j < n → (gapF (Wd i) (Wd j) = 0 ↔ T i = T j))
   (hdp : dp + 400 < recursionLimit) (hu : ut + 1000 < cLine)
   (hQ : ∀ (h' : Heap) (tk : Nat) (m : Str → Option Value) (o6' : Obj) (v6 : Option Value), Fr G L h' m → News G L h' ((L + 6, o6') :: tl) → o6'.data = .cell v6 → Q .next { s with heap := h', toks := tk }),
   wpAny (model P.row.prog w) (Aro dp ut fr gd) (execs (lawFor.drop 2) (lawEnv L fa)) Q (fun _ _ => False) s := by
  k_with_none
  k_with "assign Tuple" => ((k_here; (with_reducible show wpAny _ _ (assign (Expr.Tuple _ _ _) _ (Value.ref _)) _ _ _); k_dflt (refine' kun_list ?k1 ?k2 ?k3 ?k4 ?k5 ?k6 ?_; (case k1 => k_asm); (case k2 => k_asm); (case k3 => (first | (with_reducible assumption) | exact IsList.stays (by assumption) (Fr.keep (by assumption)) | exact News.isList (by k_asm) (by k_mem))); (case k4 => exact rfl); (case k5 => exact rfl); (case k6 => exact rfl); k_whole); intro h' F' N'; (try k_sweep)))
  w_top off
  k_fill
  intro w p loose mean mg mb dp ut fr gd s G L fa tx oa td f pl a m tl o3 o4 o5 o6 v6 b1 b2 n T Wd ths ords c cO base room lt Q X TT F N h6 t6 hm3 h3 hm4 h4 hm5 h5 htd hoa hIo hTx hTh hK h2n hn hW hlt hin hev heq hdp hu hQ
  have e1 : lawFor.drop 2 = [.Assign [.Name _ _] (.Call (.Name _ _) [.Name _ _] [_] _) _, .If (.Compare (cmpL (nthL 3 lawFor)) [_] [.Name _ _] _) [_] [] _, nthL 4 lawFor, .If (.Compare (.Name _ _) [_] [cmpR (nthL 5 lawFor)] _) [_] [] _] := rfl
  rw [e1]
  clear e1
  dsimp only [lawEnv]
  dsimp only [kstB] at F
  have hol := insO_len (lt := ltT T) n
  have hevl : (evT lt (kas_sort n)).size = n := by rw [← Array.length_toList, hev, hol]
  have hod : ∀ i, i < n → (insO (ltT T) n).getD i 0 < n := fun i hi => by
    have : (insO (ltT T) n).getD i 0 ∈ insO (ltT T) n := by
      rw [List.getD_eq_getElem?_getD, List.getElem?_eq_getElem (by omega)]; exact List.getElem_mem _
    exact insO_lt this
  have hth := hTh.at N fun q hq => .tail _ hq
  refine execs_gen 1 fun QQ hQQ => ?_
  dsimp only [List.take]
  k_steps
  refine sortThings (p := p) (loose := loose) (mean := mean) (mg := mg) (mb := mb) (lt := lt) (Frag.In.keeps X F.keep) (TT.keeps F.keep) (hK _ fun q hq => (N q (.tail _ hq)).1) (isList_of (N _ (.tail _ htd)).1) hth hW hlt h2n hn hin (by omega) hdp hu ?_
  intro D h1 tk1 c1 st hD0 hDo
  rw [hev] at hDo
  have hDn : @Ne Nat D (L + 6) := fun q => by have := (N _ (.head _)).1; rw [show (L + 6, o6).1 = D from q.symm, hD0] at this; cases this
  have htv : ∀ i, i < n → ((insO (ltT T) n).map fun i => ths.getD i Value.none)[i]? = ths[(insO (ltT T) n).getD i 0]? := fun i hi => by
    have := hod i hi
    rw [List.getElem?_map, List.getD_eq_getElem?_getD] at *
    rw [List.getElem?_eq_getElem (by omega : i < (insO (ltT T) n).length)] at this ⊢
    simp only [Option.getD_some, Option.map_some] at this ⊢
    rw [List.getElem?_eq_getElem (by rw [hTh.1]; exact this)]
    simp [show (insO (ltT T) n)[i] < ths.length by rw [hTh.1]; exact this]
  have N1 := news_take F st (N.grown st) hD0 hDo
  have F1 := F.kept st
  have htvl : ((insO (ltT T) n).map fun i => ths.getD i Value.none).length = n := by rw [List.length_map, hol]
  generalize htve : ((insO (ltT T) n).map fun i => ths.getD i Value.none) = tv at *
  clear F N hDo hD0 st hth
  k_steps
  refine hQQ _ ?_
  clear hQQ QQ
  dsimp only [List.drop]
  refine execs_gen 1 fun QQ hQQ => ?_
  dsimp only [List.take]
  rename Fr _ _ _ _ => F2
  rename News _ _ _ _ => N2
  rename (Obj.data _ = Data.cell (some (Value.ref D))) => h6'
  have hthi : ∀ i, i < n → ∃ r b u, tv[i]? = some (Value.ref r) ∧ Heap.IsList _ r #[b, .int ((insO (ltT T) n).getD i 0 : Nat) u] := fun i hi => by
    obtain ⟨r, u1, u2, c9, e1, e2⟩ := hTh.2 _ (hod i hi)
    exact ⟨r, _, u2, by rw [htv i hi]; exact e1, isList_of (N2 _ (.tail _ (.tail _ e2))).1⟩
  k_steps
  refine compB (p := p) (n := n) (os := fun i => (((insO (ltT T) n).getD i 0 : Nat) : Int)) X TT F2 N2 (.tail _ (.head _)) h6' (isList_of (N2 _ (.head _)).1) htvl (by omega) hthi rfl ?_
  intro D2 us c2 h3' tk3 F3 N3 hD2 st3 hus
  have e9 := map_getD_range (insO (ltT T) n) 0 (fun k : Nat => (k : Int))
  rw [hol] at e9
  rw [e9] at hus
  clear F2 N2 hthi
  walk1
  refine ke_ne_ints (isList_of (N3 _ (.head _)).1) (isList_of (N3 _ (.tail _ (.tail _ (.tail _ hoa)))).1) hus hIo (by show ut + 64 < _; omega) ?_
  rw [decide_eq_true rfl, Bool.not_true]
  k_steps
  refine hQQ _ ?_
  clear hQQ QQ
  dsimp only [List.drop]
  refine execs_gen 1 fun QQ hQQ => ?_
  dsimp only [List.take]
  refine wpAny_execs_cons ?_
  have hodp : ∀ i, i < n → (insO (ltT T) n).getD i 0 < n ∧ tv[i]? = ths[(insO (ltT T) n).getD i 0]? := fun i hi => ⟨hod i hi, htv i hi⟩
  have N3t : News G L h3' tl := fun q hq => N3 q (.tail _ (.tail _ (.tail _ hq)))
  refine alikeC (p := p) (n := n) (od := fun i => (insO (ltT T) n).getD i 0) (a := a) (f := f) (pl := pl) (ths := ths) (Wd := Wd) X TT F3 N3 (.tail _ (.tail _ (.tail _ hm5))) h5 (.tail _ (.tail _ (.head _))) h6' (isList_of (N3 _ (.tail _ (.head _))).1) htvl (by omega) (by omega) (hK _ fun q hq => (N3t q hq).1) (hTh.at N3t fun q hq => hq) hW hodp hdp hu ?_
  intro D3 us3 c3 h4' tk4 F4 N4 hD3 hus3
  dsimp only
  refine wpAny_execs_nil (hQQ _ ?_)
  clear hQQ QQ F3 N3 N3t
  dsimp only [List.drop]
  refine execs_gen 1 fun QQ hQQ => ?_
  dsimp only [List.take]
  k_steps
  have N4t : News G L h4' tl := fun q hq => N4 q (.tail _ (.tail _ (.tail _ (.tail _ hq))))
  have hIo' : IntsAre ords ((List.range n).map fun i => (((insO (ltT T) n).getD i 0 : Nat) : Int)) := by rw [e9]; exact hIo
  refine alikeD (p := p) (n := n) (od := fun i => (insO (ltT T) n).getD i 0) (T := T) (oa := oa) (tx := tx) X TT F4 N4 (.tail _ (.tail _ (.tail _ (.tail _ hm3)))) h3 (.tail _ (.tail _ (.tail _ (.tail _ hm4)))) h4 (.tail _ (.tail _ (.tail _ (.head _)))) h6' (isList_of (N4 _ (.tail _ (.tail _ (.head _)))).1) htvl (by omega) (by omega) (isList_of (N4t _ hoa).1) hIo' (hTx.at N4t fun q hq => hq) hod hdp hu ?_
  intro D4 us4 c4 h5' tk5 F5 N5 hD4 st5 hus4
  have hb : us3 = us4 := by
    rw [hus3, hus4]
    refine List.map_congr_left fun j hj => ?_
    have hj' := List.mem_range.mp hj
    have q := heq _ _ (hod j (by omega)) (hod (j + 1) (by omega))
    congr 1
    exact decide_eq_decide.mpr q
  have hb3 : us3 = ((List.range (n - 1)).map fun j => decide (T ((insO (ltT T) n).getD j 0) = T ((insO (ltT T) n).getD (j + 1) 0))).map Value.bool := by rw [hb, hus4, List.map_map]; rfl
  have g3 := (N5 _ (.tail _ (.head _))).1
  have g4 := (N5 _ (.head _)).1
  rw [← hb] at g4
  rw [hb3] at g3 g4
  refine ne_bools (isList_of g3) (isList_of g4) (by show ut + 64 < _; omega) ?_
  clear g3 g4 F4 N4 N4t
  k_steps
  refine hQQ _ ?_
  dsimp only [List.drop]
  rename Fr _ _ _ _ => F9
  rename News _ _ _ _ => N9
  refine wpAny_execs_nil (hQ _ _ _ _ _ F9 (fun q hq => N9 q (.tail _ (.tail _ (.tail _ (.tail _ hq))))) h6')


end
section
theorem lawOuter : ∀ {w : World} {p : Program} {loose : List Str} {mean : ExcName → Option Value} {mg mb : Str → Option Value} (dp ut : Nat) (fr : Option (List Env)) (gd : Option (List Code)) (s : Shared) (G : Heap) (L fa tx le pl oa f c' : Addr) (a : KA) (m : Str → Option Value) (tb : Array Value) (t : Obj) (tl : List (Addr × Obj)) (o1 o2 o3 o4 o5 o6 o7 o8 oD : Obj) (v2 v6 : Option Value) (t1 : Tok) (xs u : List Int) (vsE ords : List Value) (es : List Int) (cE cO : Nat)
   (Q : Flow → Shared → Prop) (X : (heapK w.params).In G) (TT : Top p loose mean mg mb G) (C1 : CodeHd G 127 125)
   (F : Fr G L s.heap m) (N : News G L s.heap ((L + 6, o6) :: (L + 2, o2) :: (125, tabObj tb) :: (111, t) :: tl)) (h2 : o2.data = .cell v2) (h6 : o6.data = .cell v6) (hTD : TabD tb tl c') (hTL : TabL t tl)
   (tt6 : ∀ p ∈ tl, p.1 ≠ L + 6) (tt2 : ∀ p ∈ tl, p.1 ≠ L + 2) (t125 : ∀ p ∈ tl, p.1 ≠ 125) (t111 : ∀ p ∈ tl, p.1 ≠ 111) (hL : @LT.lt Nat _ 128 L)
   (hm1 : (L + 1, o1) ∈ tl) (h1 : o1.data = .cell (some (.bytes alph.toArray t1))) (hm3 : (L + 3, o3) ∈ tl) (h3 : o3.data = .cell (some (.ref tx))) (hm4 : (L + 4, o4) ∈ tl) (h4 : o4.data = .cell (some (.ref oa))) (hm5 : (L + 5, o5) ∈ tl) (h5 : o5.data = .cell (some (.ref a.c))) (hm7 : (L + 7, o7) ∈ tl) (h7 : o7.data = .cell (some (.ref le))) (hm8 : (L + 8, o8) ∈ tl) (h8 : o8.data = .cell (some (.ref pl)))
   (hpl : (pl, oD) ∈ tl) (hPO : PlacesO w pl oD) (hxs : xs = u ++ [0, 1023, 228]) (hul : u.length ≤ 3) (hTx : TextsIn tl tx xs.length fun j => digF (xs.getD j 0)) (hle : (le, W.listOf (List.toArray vsE) cE) ∈ tl) (hI : IntsAre vsE es) (he : EndsOk es)
   (hoa : (oa, W.listOf (List.toArray ords) cO) ∈ tl) (hIo : IntsAre ords ((insO (ltT fun j => digF (xs.getD j 0)) xs.length).map fun k : Nat => (k : Int))) (hK : ∀ h : Heap, (∀ q ∈ tl, h.get? q.1 = some q.2) → KeyAt w h L a f pl)
   (hdp : dp + 400 < recursionLimit) (hu : ut + 1000 < cLine)
   (hQ : ∀ (h' : Heap) (tk : Nat) (m : Str → Option Value) (tb' : Array Value) (t' : Obj) (nx : List (Addr × Obj)), Fr G L h' m → News G L h' ((125, tabObj tb') :: (111, t') :: nx) → (∀ q ∈ tl, q ∈ nx) → TabL t' nx → Q .next { s with heap := h', toks := tk }),
   wpAny (model P.row.prog w) (Aro dp ut fr gd) (exec (nthL 10 lawB) (lawEnv L fa)) Q (fun _ _ => False) s := by
  k_with_none
  k_with "assign Tuple" => ((k_here; (with_reducible show wpAny _ _ (assign (Expr.Tuple _ _ _) _ (Value.ref _)) _ _ _); k_dflt (refine' kun_list ?k1 ?k2 ?k3 ?k4 ?k5 ?k6 ?_; (case k1 => k_asm); (case k2 => k_asm); (case k3 => (first | (with_reducible assumption) | exact IsList.stays (by assumption) (Fr.keep (by assumption)) | exact News.isList (by k_asm) (by k_mem))); (case k4 => exact rfl); (case k5 => exact rfl); (case k6 => exact rfl); k_whole); intro h' F' N'; (try k_sweep)))
  k_with "m_in" => first | (with_reducible exact m_hd) | (with_reducible refine m_tl ?_; walk_at "m_in") | (with_reducible refine in_r ?_; walk_at "m_in") | (with_reducible refine in_l ?_; walk_at "m_in")
  k_with "m_suf" => first | exact fun _ h => h | (with_reducible refine sub_tl ?_; walk_at "m_suf") | (with_reducible refine sub_r ?_; walk_at "m_suf") | (with_reducible refine sub_l ?_; walk_at "m_suf")
  k_with "m_sub" => first | exact sub_nil | ((with_reducible refine sub_cons ?_ ?_); (focus walk_at "m_in"); (focus walk_at "m_sub")) | ((with_reducible refine sub_app ?_ ?_); (focus walk_at "m_sub"); (focus walk_at "m_sub")) | walk_at "m_suf"
  w_top off
  k_fill
  intro w p loose mean mg mb dp ut fr gd s G L fa tx le pl oa f c' a m tb t tl o1 o2 o3 o4 o5 o6 o7 o8 oD v2 v6 t1 xs u vsE ords es cE cO Q X TT C1 F N h2 h6 hTD hTL tt6 tt2 t125 t111 hL hm1 h1 hm3 h3 hm4 h4 hm5 h5 hm7 h7 hm8 h8 hpl hPO hxs hul hTx hle hI he hoa hIo hK hdp hu hQ
  have hxl : xs.length = u.length + 3 := by rw [hxs, List.length_append]; rfl
  obtain ⟨s1, s2, s3⟩ := sort_facts he hxs hul
  have e1 : nthL 10 lawB = .For (.Tuple [.Name _ _, .Name _ _] _ _) (.List [.Tuple [_, _] _ _, .Tuple [_, _] _ _] _) lawFor [] _ := rfl
  rw [e1]
  clear e1
  dsimp only [lawEnv]
  refine forListT (h₀ := G) (L := L) (fun v s₁ => ∃ (r r1 r2 : Addr) (c : Nat) (w1 w2 w3 w4 : Tok) (h : Heap) (tk : Nat), v = .ref r ∧ s₁ = { s with heap := h, toks := tk } ∧ (∀ p ∈ (L + 6, o6) :: (L + 2, o2) :: (125, tabObj tb) :: (111, t) :: tl, p.1 < r1 ∧ p.1 < r2 ∧ p.1 < r) ∧ Fr G L h m ∧ News G L h ((r, W.listOf (List.toArray [.ref r1, .ref r2]) c) :: (r2, seqObj "tuple" #[.int 64 w3, .int 4 w4] 0) :: (r1, seqObj "tuple" #[.int 16 w1, .int 6 w2] 0) :: (L + 6, o6) :: (L + 2, o2) :: (125, tabObj tb) :: (111, t) :: tl)) ?_ ?_
  · k_steps
    rename Fr _ _ _ _ => F2
    rename News _ _ _ _ => N2
    rename (_ ∧ _ ∧ _ ∧ _ ∧ AllLt _ tl) => l1
    rename (_ ∧ _ ∧ _ ∧ _ ∧ _ ∧ AllLt _ tl) => l2
    rename (_ ∧ _ ∧ _ ∧ _ ∧ _ ∧ _ ∧ AllLt _ tl) => l3
    refine ⟨_, _, _, _, _, _, _, _, _, _, rfl, rfl, fun p hp => ?_, F2, N2⟩
    rcases List.mem_cons.mp hp with rfl | hp
    · exact ⟨l1.1, l2.2.1, l3.2.2.1⟩
    rcases List.mem_cons.mp hp with rfl | hp
    · exact ⟨l1.2.1, l2.2.2.1, l3.2.2.2.1⟩
    rcases List.mem_cons.mp hp with rfl | hp
    · exact ⟨l1.2.2.1, l2.2.2.2.1, l3.2.2.2.2.1⟩
    rcases List.mem_cons.mp hp with rfl | hp
    · exact ⟨l1.2.2.2.1, l2.2.2.2.2.1, l3.2.2.2.2.2.1⟩
    · exact ⟨allLt_mem l1.2.2.2.2 p hp, allLt_mem l2.2.2.2.2.2 p hp, allLt_mem l3.2.2.2.2.2.2 p hp⟩
  clear F N
  rintro v s₁ ⟨r, r1, r2, c, w1, w2, w3, w4, h, tk, rfl, rfl, hrr, F, N⟩
  have N := news_mem (l' := (r, W.listOf (List.toArray [.ref r1, .ref r2]) c) :: (L + 6, o6) :: (L + 2, o2) :: (125, tabObj tb) :: (111, t) :: (r2, seqObj "tuple" #[.int 64 w3, .int 4 w4] 0) :: (r1, seqObj "tuple" #[.int 16 w1, .int 6 w2] 0) :: tl) N (by walk_at "m_sub")
  refine ⟨r, _, c, _, _, rfl, rfl, ?_, F, N, fun _ m₁ nx => ∃ tb t o2 o6 v2 v6 ext, nx = (L + 6, o6) :: (L + 2, o2) :: (125, tabObj tb) :: (111, t) :: (ext ++ (r2, seqObj "tuple" #[.int 64 w3, .int 4 w4] 0) :: (r1, seqObj "tuple" #[.int 16 w1, .int 6 w2] 0) :: tl) ∧ o2.data = .cell v2 ∧ o6.data = .cell v6 ∧ TabD tb (ext ++ tl) c' ∧ TabL t (ext ++ tl) ∧ ∀ q ∈ ext, L + 6 < q.1, ?_, ?_, ?_⟩
  · intro v hv
    simp only [List.mem_cons, List.not_mem_nil, or_false] at hv
    rcases hv with rfl | rfl <;> exact ⟨_, rfl⟩
  · exact ⟨tb, t, o2, o6, v2, v6, [], rfl, h2, h6, hTD, hTL, fun _ q => nomatch q⟩
  · clear F N hTD hTL h2 h6
    rintro i v m₁ nx h tk I it hv ⟨tb, t, o2, o6, v2, v6, ext, rfl, h2, h6, hTD, hTL, hext⟩ F N hne
    obtain ⟨base, room, k, ra, wa, wb, rfl, hra, hbr⟩ : ∃ base room k ra wa wb, v = Value.ref ra ∧ (ra, seqObj "tuple" #[.int base wa, .int room wb] 0) ∈ ext ++ (r2, seqObj "tuple" #[.int 64 w3, .int 4 w4] 0) :: (r1, seqObj "tuple" #[.int 16 w1, .int 6 w2] 0) :: tl ∧ ((base = 16 ∧ room = 6 ∧ k = 5) ∨ (base = 64 ∧ room = 4 ∧ k = 3)) := by
      match i, hv with
      | 0, hv => cases hv; exact ⟨16, 6, 5, r1, w1, w2, rfl, List.mem_append_right _ (.tail _ (.head _)), .inl ⟨rfl, rfl, rfl⟩⟩
      | 1, hv => cases hv; exact ⟨64, 4, 3, r2, w3, w4, rfl, List.mem_append_right _ (.head _), .inr ⟨rfl, rfl, rfl⟩⟩
    have nI6 : @Ne Nat (L + 6) I := hne _ (.tail _ (.head _))
    have nI2 : @Ne Nat (L + 2) I := hne _ (.tail _ (.tail _ (.head _)))
    have nI125 : @Ne Nat 125 I := hne _ (.tail _ (.tail _ (.tail _ (.head _))))
    have nI111 : @Ne Nat 111 I := hne _ (.tail _ (.tail _ (.tail _ (.tail _ (.head _)))))
    have hr6 : @LT.lt Nat _ (L + 6) r := (hrr _ (.head _)).2.2
    have hr16 : @LT.lt Nat _ (L + 6) r1 := (hrr _ (.head _)).1
    have hr26 : @LT.lt Nat _ (L + 6) r2 := (hrr _ (.head _)).2.1
    walk1
    walk1
    walk1
    walk1
    walk1
    walk1
    walk1
    walk1
    rename Fr _ _ _ _ => F2
    rename News _ _ _ _ => N2
    have em : (fun y => if y = Str.ofString "room" then some (Value.int room wb) else if y = Str.ofString "base" then some (Value.int base wa) else m₁ y) = kstB m₁ [("base", .int base wa), ("room", .int room wb)] := by
      funext y
      show _ = if y = Str.ofString "base" then some (Value.int base wa) else if y = Str.ofString "room" then some (Value.int room wb) else m₁ y
      by_cases h1 : y = Str.ofString "base"
      · rw [if_pos h1, if_pos h1, if_neg (by rw [h1]; decide)]
      · rw [if_neg h1, if_neg h1]
    rw [em] at F2
    obtain ⟨f1, f2, f3, f4⟩ := word_facts (T := fun j => digF (xs.getD j 0)) he (fun j => digF_len _) (fun j => digF_in _) hbr
    have hbp : 0 < base := by omega
    generalize hTLe : (I, it) :: (r, W.listOf (List.toArray [.ref r1, .ref r2]) c) :: (L + 6, o6) :: (ext ++ (r2, seqObj "tuple" #[.int 64 w3, .int 4 w4] 0) :: (r1, seqObj "tuple" #[.int 16 w1, .int 6 w2] 0) :: tl) = TL
    have sT : ∀ q ∈ tl, q ∈ TL := fun q hq => hTLe ▸ .tail _ (.tail _ (.tail _ (List.mem_append_right _ (.tail _ (.tail _ hq)))))
    have sE : ∀ q ∈ ext, q ∈ TL := fun q hq => hTLe ▸ .tail _ (.tail _ (.tail _ (List.mem_append_left _ hq)))
    have s6 : (L + 6, o6) ∈ TL := hTLe ▸ .tail _ (.tail _ (.head _))
    have aT : ∀ x : Nat, x ≠ I → x ≠ L + 6 → x < L + 6 → (∀ p ∈ tl, p.1 ≠ x) → ∀ p ∈ TL, p.1 ≠ x := by
      intro x h1 h2 h3 h4 p hp
      rw [← hTLe] at hp
      simp only [List.mem_cons, List.mem_append] at hp
      rcases hp with hp | hp | hp | hp | hp | hp | hp
      · rw [hp]; exact h1.symm
      · rw [hp]; show @Ne Nat r x; omega
      · rw [hp]; exact h2.symm
      · exact Nat.ne_of_gt (Nat.lt_trans h3 (hext p hp))
      · rw [hp]; show @Ne Nat r2 x; omega
      · rw [hp]; show @Ne Nat r1 x; omega
      · exact h4 p hp
    have N3 := news_mem (l' := (L + 2, o2) :: (125, tabObj tb) :: (111, t) :: TL) N2 (by
      rw [← hTLe]; walk_at "m_sub")
    refine execs_then 2 (placeLoop (p := p) dp ut fr gd _ G L fa tx le pl c' _ tb t TL (ext ++ tl) o1 o2 o3 o7 o8 oD v2 t1 _ _ xs.length (fun j => digF (xs.getD j 0)) (wordT es (fun j => digF (xs.getD j 0)) base k) vsE es cE k base room _ X TT C1 F2 N3 h2 hTD hTL ?hsD (aT _ nI2 (by show @Ne Nat (L + 2) (L + 6); omega) (by show @LT.lt Nat _ (L + 2) (L + 6); omega) tt2) (aT _ nI125 (by show @Ne Nat 125 (L + 6); omega) (by show @LT.lt Nat _ 125 (L + 6); omega) t125) (aT _ nI111 (by show @Ne Nat 111 (L + 6); omega) (by show @LT.lt Nat _ 111 (L + 6); omega) t111) hL (sT _ hm1) h1 (sT _ hm3) h3 (sT _ hm7) h7 (sT _ hm8) h8 (sT _ hpl) hPO (hTx.mono sT) (fun j => digF_len _) (fun j => digF_in _) (by omega) (sT _ hle) hI he (fun j _ => f1 j) (fun j _ => f2 j) (by omega) (by omega) ?_)
    case hsD => exact fun q hq => (List.mem_append.mp hq).elim (sE q) (sT q)
    intro td ths c9 h3' tk3 m3 ext1 tb' t' o2' v2' F4 N4 h2' hTD' hTL' hTh hext1 htd hltd
    clear F2 N2 N3 h2 hTD hTL
    dsimp only
    have htd6 : @LT.lt Nat _ (L + 6) td := htd _ s6
    have N5 := news_mem (l' := (L + 6, o6) :: ((td, W.listOf (List.toArray ths) c9) :: (L + 2, o2') :: (125, tabObj tb') :: (111, t') :: (ext1 ++ (I, it) :: (r, W.listOf (List.toArray [.ref r1, .ref r2]) c) :: (ext ++ (r2, seqObj "tuple" #[.int 64 w3, .int 4 w4] 0) :: (r1, seqObj "tuple" #[.int 16 w1, .int 6 w2] 0) :: tl)))) N4 (by
      rw [← hTLe]
      walk_at "m_sub")
    generalize ht2 : (td, W.listOf (List.toArray ths) c9) :: (L + 2, o2') :: (125, tabObj tb') :: (111, t') :: (ext1 ++ (I, it) :: (r, W.listOf (List.toArray [.ref r1, .ref r2]) c) :: (ext ++ (r2, seqObj "tuple" #[.int 64 w3, .int 4 w4] 0) :: (r1, seqObj "tuple" #[.int 16 w1, .int 6 w2] 0) :: tl)) = tl2 at N5
    have sT2 : ∀ q ∈ tl, q ∈ tl2 := fun q hq => ht2 ▸ .tail _ (.tail _ (.tail _ (.tail _ (List.mem_append_right _ (.tail _ (.tail _ (List.mem_append_right _ (.tail _ (.tail _ hq)))))))))
    have t6 : ∀ p ∈ tl2, p.1 ≠ L + 6 := by
      intro p hp
      rw [← ht2] at hp
      simp only [List.mem_cons, List.mem_append] at hp
      rcases hp with hp | hp | hp | hp | hp | hp | hp | hp | hp | hp | hp
      · rw [hp]; show @Ne Nat td (L + 6); omega
      · rw [hp]; show @Ne Nat (L + 2) (L + 6); omega
      · rw [hp]; show @Ne Nat 125 (L + 6); omega
      · rw [hp]; show @Ne Nat 111 (L + 6); omega
      · exact Nat.ne_of_gt ((hext1 p hp).2.2 _ s6)
      · rw [hp]; exact nI6.symm
      · rw [hp]; show @Ne Nat r (L + 6); omega
      · exact Nat.ne_of_gt (hext p hp)
      · rw [hp]; show @Ne Nat r2 (L + 6); omega
      · rw [hp]; show @Ne Nat r1 (L + 6); omega
      · exact tt6 p hp
    have hTh2 : ThingsIn (wordT es (fun j => digF (xs.getD j 0)) base k) ths xs.length tl2 := by
      refine ⟨hTh.1, fun j hj => ?_⟩
      obtain ⟨rr, u1, u2, c8, e1, e2⟩ := hTh.2 j hj
      refine ⟨rr, u1, u2, c8, e1, ?_⟩
      rw [← hTLe] at e2
      rw [← ht2]
      simp only [List.mem_cons, List.mem_append] at e2 ⊢
      rcases e2 with e2 | e2 | e2 | e2 | e2 | e2 | e2 | e2
      · simp only [e2, true_or, or_true]
      · simp only [e2, true_or, or_true]
      · simp only [e2, true_or, or_true]
      · have := congrArg (fun q => q.2.data) e2
        dsimp only at this
        rw [h6] at this
        cases this
      · simp only [e2, true_or, or_true]
      · simp only [e2, true_or, or_true]
      · simp only [e2, true_or, or_true]
      · simp only [e2, true_or, or_true]
    refine restBody (p := p) dp ut fr gd _ G L fa tx oa td f pl a _ tl2 o3 o4 o5 o6 v6 _ _ xs.length (fun j => digF (xs.getD j 0)) (wordT es (fun j => digF (xs.getD j 0)) base k) ths ords c9 cO base room (ltR (xs.map fun x => (encF es (digF x)).1)) _ X TT F4 N5 h6 t6 (sT2 _ hm3) h3 (sT2 _ hm4) h4 (sT2 _ hm5) h5 (ht2 ▸ .head _) (sT2 _ hoa) hIo (hTx.mono sT2) hTh2 (fun h hq => hK h fun q hm => hq q (sT2 q hm)) (by omega) (by omega) (fun j _ => f3 j) (fun i j hi hj => (s3 i j hi hj).trans (f4 i j).1.symm) s1 s2 (fun i j _ _ => (f4 i j).2) hdp hu ?_
    intro h6' tk6 m6 o6' v6' F6 N6 h6''
    refine ⟨h6', tk6, m6, (L + 6, o6') :: (L + 2, o2') :: (125, tabObj tb') :: (111, t') :: (((td, W.listOf (List.toArray ths) c9) :: (ext1 ++ ext)) ++ (r2, seqObj "tuple" #[.int 64 w3, .int 4 w4] 0) :: (r1, seqObj "tuple" #[.int 16 w1, .int 6 w2] 0) :: tl), rfl, F6, ?_, ?_, tb', t', o2', o6', v2', v6', _, rfl, h2', h6'', hTD'.mono ?_, hTL'.mono ?_, ?_⟩
    · refine news_mem N6 ?_
      rw [← ht2]
      walk_at "m_sub"
    · have sI : (I, it) ∈ TL := hTLe ▸ .head _
      intro p hp
      simp only [List.mem_cons, List.mem_append, List.cons_append] at hp
      rcases hp with hp | hp | hp | hp | hp | (hp | hp) | hp | hp | hp
      · rw [hp]; exact nI6
      · rw [hp]; exact nI2
      · rw [hp]; exact nI125
      · rw [hp]; exact nI111
      · rw [hp]; exact Nat.ne_of_gt (htd _ sI)
      · exact Nat.ne_of_gt ((hext1 p hp).2.2 _ sI)
      · exact hne p (.tail _ (.tail _ (.tail _ (.tail _ (.tail _ (List.mem_append_left _ hp))))))
      · rw [hp]; exact hne _ (.tail _ (.tail _ (.tail _ (.tail _ (.tail _ (List.mem_append_right _ (.head _)))))))
      · rw [hp]; exact hne _ (.tail _ (.tail _ (.tail _ (.tail _ (.tail _ (List.mem_append_right _ (.tail _ (.head _))))))))
      · exact hne p (.tail _ (.tail _ (.tail _ (.tail _ (.tail _ (List.mem_append_right _ (.tail _ (.tail _ hp))))))))
    · walk_at "m_sub"
    · walk_at "m_sub"
    · intro q hq
      simp only [List.mem_cons, List.mem_append] at hq
      rcases hq with hq | hq | hq
      · rw [hq]; exact htd6
      · exact (hext1 q hq).2.2 _ s6
      · exact hext q hq
  · rintro m₁ nx h tk ⟨tb, t, o2, o6, v2, v6, ext, rfl, h2, h6, hTD, hTL, hext⟩ F N
    exact hQ h tk m₁ tb t (ext ++ _ :: _ :: tl) F (fun q hq => N q (.tail _ (.tail _ hq))) (fun q hq => List.mem_append_right _ (.tail _ (.tail _ hq))) (hTL.mono fun q hq => (List.mem_append.mp hq).elim (fun q => List.mem_append_left _ q) fun q => List.mem_append_right _ (.tail _ (.tail _ q)))


end
end
section
theorem news_drop3 {G h : Heap} {L : Addr} {a b c d : Addr × Obj} {tl : List (Addr × Obj)} (N : News G L h (a :: b :: c :: d :: tl)) : News G L h (a :: tl) := fun q hq => by
  rcases List.mem_cons.mp hq with rfl | hq
  · exact N _ (.head _)
  · exact N _ (.tail _ (.tail _ (.tail _ (.tail _ hq))))
theorem lawFirst : ∀ {w : World} {p : Program} {loose : List Str} {mean : ExcName → Option Value} {mg mb : Str → Option Value} (A : Around) (s : Shared) (G : Heap) (L fa sc : Addr) (m : Str → Option Value) (o1 o2 o3 o4 o5 o6 o7 o8 oa ob oc : Obj) (vs : List Value) (ns : List Int)
   (Q : Flow → Shared → Prop) (E : Value → Shared → Prop) (X : (heapK w.params).In G) (T : Top p loose mean mg mb G) (hsm : ∃ o, G.get? 1 = some o) (hh : A.handled = none)
   (hS : G.IsList sc vs.toArray) (hI : IntsAre vs ns) (h63 : ns.length ≤ 63)
   (F : Fr G L s.heap (kstB m [("script", .ref sc)])) (N : News G L s.heap [(L + 8, o8), (L + 7, o7), (L + 6, o6), (L + 5, o5), (L + 4, o4), (L + 3, o3), (L + 2, o2), (L + 1, o1), (111, oa), (23, ob), (125, oc)])
   (h1 : o1.data = .cell none) (h2 : o2.data = .cell none) (h7 : o7.data = .cell none) (h8 : o8.data = .cell none) (hL : @LT.lt Nat _ 128 L)
   (hQ : ∀ (mm : Str → Option Value) (D le : Addr) (oD o1' o7' o8' : Obj) (t1 : Tok) (vsE : List Value) (es : List Int) (cE : Nat) (h' : Heap) (tk : Nat), Fr G L h' (kstB mm [("script", .ref sc)]) → News G L h' [(le, W.listOf (List.toArray vsE) cE), (D, oD), (L + 8, o8'), (L + 7, o7'), (L + 6, o6), (L + 5, o5), (L + 4, o4), (L + 3, o3), (L + 2, o2), (L + 1, o1'), (111, oa), (23, ob), (125, oc)] →
     o1'.data = .cell (some (.bytes alph.toArray t1)) → o7'.data = .cell (some (.ref le)) → o8'.data = .cell (some (.ref D)) → PlacesO w D oD → IntsAre vsE es → EndsOk es → (∀ x ∈ [L + 8, L + 7, L + 6, L + 5, L + 4, L + 3, L + 2, L + 1, (111 : Nat), 23, 125], @Ne Nat x D ∧ @Ne Nat x le) → Q .next { s with heap := h', toks := tk }),
   wpAny (model P.row.prog w) A (execs (lawB.take 6) (lawEnv L fa)) Q E s := by
  k_with_none
  k_with "assign Tuple" => ((k_here; (with_reducible show wpAny _ _ (assign (Expr.Tuple _ _ _) _ (Value.ref _)) _ _ _); k_dflt (refine' kun_list ?k1 ?k2 ?k3 ?k4 ?k5 ?k6 ?_; (case k1 => k_asm); (case k2 => k_asm); (case k3 => (first | (with_reducible assumption) | exact IsList.stays (by assumption) (Fr.keep (by assumption)) | exact News.isList (by k_asm) (by k_mem))); (case k4 => exact rfl); (case k5 => exact rfl); (case k6 => exact rfl); k_whole); intro h' F' N'; (try k_sweep)))
  k_with "eval DictComp" => ((refine placesEval (p := _) (by assumption) (by assumption) (by assumption) (by assumption) (by assumption) (by k_mem) (by assumption) (by assumption) ?_; intro D oD h' tk F' N' hD' hPO; (replace hD' := allNe_of hD'; simp only [AllNe, and_true] at hD'); k_sweep))
  w_top off
  k_fill
  intro w p loose mean mg mb A s G L fa sc m o1 o2 o3 o4 o5 o6 o7 o8 oa ob oc vs ns Q E X T hsm hh hS hI h63 F N h1 h2 h7 h8 hL hQ
  have e1 : lawB.take 6 = [_, .Assign [.Name _ _] (.DictComp (.Subscript (.Name _ _) (.Name _ _) _) (.Name _ _) [⟨.Name _ _, .Call (.Name _ _) [.Constant _ _ _] _ _, [], _⟩] ⟨_, _, _, _, _⟩ _) _, _, _, _, _] := rfl
  rw [e1]
  clear e1
  dsimp only [kstB] at F
  dsimp only [lawEnv]
  k_steps
  rename Fr _ _ _ _ => F1
  rename News _ _ _ _ => N1
  rename (Obj.data _ = Data.cell (some (Value.bytes _ _))) => d1
  rename (PlacesO _ _ _) => hPO
  rename (@Ne Nat _ _ ∧ _) => hD
  rename (@LT.lt Nat _ _ _ ∧ _) => hl
  have F2 := fr_kst (ps := [("script", .ref sc)]) F1 (by (repeat (first | exact trivial | (refine And.intro ?_ ?_; (k_dflt rfl)))))
  refine hQ _ _ _ _ _ _ _ _ _ _ _ _ _ F2 (news_drop3 N1) d1 (by assumption) (by assumption) hPO (by repeat constructor) ⟨_, _, _, rfl, ?_, ?_, ?_, ?_⟩ ?_
  · have b1 := Int.fmod_nonneg_of_pos ((List.take 1 ns ++ [77]).getD (Int.toNat 0) 0) (show (0 : Int) < 6 by decide)
    omega
  · have b1 := Int.fmod_nonneg_of_pos (((List.take 1 ns ++ [77]).getD (Int.toNat 0) 0).fdiv 6) (show (0 : Int) < 5 by decide)
    omega
  · have b1 := Int.fmod_nonneg_of_pos (((List.take 1 ns ++ [77]).getD (Int.toNat 0) 0).fdiv 30) (show (0 : Int) < 4 by decide)
    omega
  · have b1 := Int.fmod_lt_of_pos ((List.take 1 ns ++ [77]).getD (Int.toNat 0) 0) (show (0 : Int) < 6 by decide)
    have b2 := Int.fmod_lt_of_pos (((List.take 1 ns ++ [77]).getD (Int.toNat 0) 0).fdiv 6) (show (0 : Int) < 5 by decide)
    have b3 := Int.fmod_lt_of_pos (((List.take 1 ns ++ [77]).getD (Int.toNat 0) 0).fdiv 30) (show (0 : Int) < 4 by decide)
    omega
  · clear hQ
    intro x hx
    simp only [List.mem_cons, List.not_mem_nil, or_false] at hx
    rcases hx with hx | hx | hx | hx | hx | hx | hx | hx | hx | hx | hx <;> rw [hx] <;> refine ⟨?_, ?_⟩ <;> (show @Ne Nat _ _; omega)


end
section
local macro_rules | `(tactic| k_all) => `(tactic| first | assumption | exact tlA0 (by assumption) | exact tlA1 (by assumption) | exact tlA2 (by assumption) | exact tlA3 (by assumption) | exact tlA4 (by assumption) | exact tlA5 (by assumption) | exact tlA6 (by assumption) | exact tlA7 (by assumption) | exact tlA8 (by assumption) | exact tlB1 (by assumption) | exact tlB2 (by assumption) | exact tlB3 (by assumption) | exact tlB4 (by assumption) | exact tlB5 (by assumption) | exact tlB6 (by assumption))
local macro_rules | `(tactic| k_all) => `(tactic| first | exact List.forall_mem_nil _ | (refine' List.forall_mem_cons.mpr ⟨?a, ?b⟩; (case a => k_ne); (case b => k_all)))
local macro_rules | `(tactic| k_mem) => `(tactic| assumption)
local macro_rules | `(tactic| k_mem) => `(tactic| first | exact List.Mem.head _ | (refine' List.Mem.tail _ ?_; k_mem))
section
theorem lawTexts : ∀ {w : World} {p : Program} {loose : List Str} {mean : ExcName → Option Value} {mg mb : Str → Option Value} (A : Around) (s : Shared) (G : Heap) (L fa sc : Addr) (m : Str → Option Value) (o3 : Obj) (v3 : Option Value) (vs : List Value) (ns : List Int) (tl : List (Addr × Obj))
   (Q : Flow → Shared → Prop) (X : (heapK w.params).In G) (T : Top p loose mean mg mb G) (hh : A.handled = none)
   (hS : G.IsList sc vs.toArray) (hI : IntsAre vs ns) (h63 : ns.length ≤ 63)
   (F : Fr G L s.heap (kstB m [("script", .ref sc)])) (N : News G L s.heap ((L + 3, o3) :: tl)) (h3 : o3.data = .cell v3) (t3 : ∀ p ∈ tl, p.1 ≠ L + 3)
   (hQ : ∀ (tx : Addr) (ext : List (Addr × Obj)) (xs u : List Int) (o3' : Obj) (mm : Str → Option Value) (h' : Heap) (tk : Nat), Fr G L h' mm → News G L h' ((L + 3, o3') :: (ext ++ tl)) →
     o3'.data = .cell (some (.ref tx)) → xs = u ++ [0, 1023, 228] → u.length ≤ 3 → TextsIn ext tx xs.length (fun j => digF (xs.getD j 0)) → (∀ q ∈ ext, q.1 ≠ L + 3 ∧ ∀ p ∈ tl, p.1 ≠ q.1) → Q .next { s with heap := h', toks := tk }),
   wpAny (model P.row.prog w) A (execs ((lawB.drop 6).take 1) (lawEnv L fa)) Q (fun _ _ => False) s := by
  k_with_none
  k_with "assign Tuple" => ((k_here; (with_reducible show wpAny _ _ (assign (Expr.Tuple _ _ _) _ (Value.ref _)) _ _ _); k_dflt (refine' kun_list ?k1 ?k2 ?k3 ?k4 ?k5 ?k6 ?_; (case k1 => k_asm); (case k2 => k_asm); (case k3 => (first | (with_reducible assumption) | exact IsList.stays (by assumption) (Fr.keep (by assumption)) | exact News.isList (by k_asm) (by k_mem))); (case k4 => exact rfl); (case k5 => exact rfl); (case k6 => exact rfl); k_whole); intro h' F' N'; (try k_sweep)))
  k_with "m_in" => first | (with_reducible exact m_hd) | (with_reducible refine m_tl ?_; walk_at "m_in") | (with_reducible refine in_r ?_; walk_at "m_in") | (with_reducible refine in_l ?_; walk_at "m_in")
  k_with "m_suf" => first | exact fun _ h => h | (with_reducible refine sub_tl ?_; walk_at "m_suf") | (with_reducible refine sub_r ?_; walk_at "m_suf") | (with_reducible refine sub_l ?_; walk_at "m_suf")
  k_with "m_sub" => first | exact sub_nil | ((with_reducible refine sub_cons ?_ ?_); (focus walk_at "m_in"); (focus walk_at "m_sub")) | ((with_reducible refine sub_app ?_ ?_); (focus walk_at "m_sub"); (focus walk_at "m_sub")) | walk_at "m_suf"
  w_top off
  k_fill
  intro w p loose mean mg mb A s G L fa sc m o3 v3 vs ns tl Q X T hh hS hI h63 F N h3 t3 hQ
  have e1 : (lawB.drop 6).take 1 = [.Assign [.Name _ _] (valOf (nthL 6 lawB)) _] := rfl
  rw [e1]
  clear e1
  walk1
  walk1
  refine textsEval (p := p) X T F N hS hI h63 hh ?_
  intro D us c rows xs h' tk F1 N1 a1 a2 a3 hus hxs hrl hrows
  clear F N
  dsimp only [lawEnv]
  rw [List.cons_append] at N1
  have t3' : ∀ p ∈ tl ++ rows, p.1 ≠ L + 3 := fun p hp => (List.mem_append.mp hp).elim (t3 p) fun q => (a3 p q _ (.head _)).symm
  have hD3 : @Ne Nat (L + 3) D := a1 _ (.head _)
  have hTx : TextsIn ((D, W.listOf (List.toArray us) c) :: rows) D xs.length (fun j => digF (xs.getD j 0)) := by
    refine ⟨us, c, .head _, by rw [hus, List.length_map, hrl], fun j hj => ?_⟩
    have hj' : j < rows.length := by omega
    obtain ⟨vt, c', e1, e2⟩ := hrows j rows[j] (List.getElem?_eq_getElem hj')
    refine ⟨rows[j].1, vt, c', ?_, ?_, e2⟩
    · rw [hus, List.getElem?_map, List.getElem?_eq_getElem hj']; rfl
    · refine .tail _ ?_
      rw [← e1]
      exact List.getElem_mem hj'
  have hfin : ∀ (o3' : Obj) (h' : Heap) (tk : Nat) (mm : Str → Option Value), Fr G L h' mm → News G L h' ((D, W.listOf (List.toArray us) c) :: (L + 3, o3') :: (tl ++ rows)) → o3'.data = .cell (some (.ref D)) → Q .next { s with heap := h', toks := tk } := by
    intro o3' h' tk mm F N h3
    refine hQ D ((D, W.listOf (List.toArray us) c) :: rows) xs _ o3' mm h' tk F (news_mem N ?_) h3 hxs (by rw [List.length_take]; omega) hTx ?_
    · walk_at "m_sub"
    · intro q hq
      rcases List.mem_cons.mp hq with rfl | hq
      · exact ⟨hD3.symm, fun p hp => a1 p (.tail _ hp)⟩
      · exact ⟨(a3 q hq _ (.head _)).symm, fun p hp => a3 q hq p (.tail _ hp)⟩
  clear hQ hrows hTx a1 a2 a3
  generalize tl ++ rows = tt at *
  k_steps
  exact hfin _ _ _ _ (by assumption) (by assumption) (by assumption)


end
section
theorem lawOrder : ∀ {w : World} {p : Program} {loose : List Str} {mean : ExcName → Option Value} {mg mb : Str → Option Value} (A : Around) (s : Shared) (G : Heap) (L fa tx : Addr) (m : Str → Option Value) (o2 o3 o4 : Obj) (v4 : Option Value) (n : Nat) (T : Nat → List Int) (tl : List (Addr × Obj))
   (Q : Flow → Shared → Prop) (X : (heapK w.params).In G) (TT : Top p loose mean mg mb G) (hh : A.handled = none) (hu : A.units < cLine)
   (F : Fr G L s.heap m) (N : News G L s.heap ((L + 4, o4) :: (L + 2, o2) :: tl)) (h2 : o2.data = .cell none) (h4 : o4.data = .cell v4) (hm3 : (L + 3, o3) ∈ tl) (h3 : o3.data = .cell (some (.ref tx)))
   (hT : TextsIn tl tx n T) (hT5 : ∀ j, (T j).length = 5) (hn : n ≤ 1000) (t4 : ∀ p ∈ tl, p.1 ≠ L + 4) (t2 : ∀ p ∈ tl, p.1 ≠ L + 2)
   (hQ : ∀ (od : Addr) (ords : List Value) (c : Nat) (h' : Heap) (tk : Nat) (o2' o4' : Obj) (v2 : Option Value), Fr G L h' m → News G L h' ((od, W.listOf (List.toArray ords) c) :: (L + 4, o4') :: (L + 2, o2') :: tl) → IntsAre ords ((insO (ltT T) n).map fun k : Nat => (k : Int)) → o4'.data = .cell (some (.ref od)) → o2'.data = .cell v2 → (∀ p ∈ tl, p.1 ≠ od) → @LT.lt Nat _ (L + 4) od → Q .next { s with heap := h', toks := tk }),
   wpAny (model P.row.prog w) A (execs ((lawB.drop 7).take 2) (lawEnv L fa)) Q (fun _ _ => False) s := by
  k_with_none
  k_with "assign Tuple" => ((k_here; (with_reducible show wpAny _ _ (assign (Expr.Tuple _ _ _) _ (Value.ref _)) _ _ _); k_dflt (refine' kun_list ?k1 ?k2 ?k3 ?k4 ?k5 ?k6 ?_; (case k1 => k_asm); (case k2 => k_asm); (case k3 => (first | (with_reducible assumption) | exact IsList.stays (by assumption) (Fr.keep (by assumption)) | exact News.isList (by k_asm) (by k_mem))); (case k4 => exact rfl); (case k5 => exact rfl); (case k6 => exact rfl); k_whole); intro h' F' N'; (try k_sweep)))
  w_top off
  k_fill
  intro w p loose mean mg mb A s G L fa tx m o2 o3 o4 v4 n T tl Q X TT hh hu F N h2 h4 hm3 h3 hT hT5 hn t4 t2 hQ
  have e1 : (lawB.drop 7).take 2 = [.Assign [.Name _ _] (.List [] _) _, .For (.Name _ _) (.Call (.Name _ _) _ _ _) [.Expr (.Call (.Attribute (.Name _ _) _ _) [.Call (.Name _ _) [_] _ _, .Name _ _] _ _) _] [] _] := rfl
  rw [e1]
  clear e1
  dsimp only [lawEnv]
  refine execs_midQ 1 (fun s' => ∃ (od : Addr) (c : Nat) (o4 : Obj), o4.data = .cell (some (.ref od)) ∧ (∀ p ∈ tl, p.1 ≠ od) ∧ @LT.lt Nat _ (L + 4) od ∧ At s G L m ((od, W.listOf (List.toArray []) c) :: (L + 4, o4) :: (L + 2, o2) :: tl) s') ?_ ?_
  · dsimp only [List.take]
    k_steps
    rename (_ ∧ _ ∧ AllLt _ tl) => hl
    exact ⟨_, _, _, by assumption, tlA2 hl, hl.1, _, _, rfl, by assumption, by assumption⟩
  clear F N h4
  rintro s' ⟨od, c, o4, h4, t5, hlt, h, tk, rfl, F, N⟩
  dsimp only [List.drop]
  refine wpAny_execs_cons ?_
  refine forRange (h₀ := G) (L := L) (fun v s₁ => ∃ (r : Addr) (t₀ u₀ v₀ : Tok) (h : Heap) (tk : Nat), v = .ref r ∧ s₁ = { s with heap := h, toks := tk } ∧ IsRange h r 0 (n : Nat) 1 t₀ u₀ v₀ ∧ Fr G L h m ∧ News G L h ((od, W.listOf (List.toArray []) c) :: (L + 4, o4) :: (L + 2, o2) :: tl)) ?_ ?_
  · k_steps
    refine textsLen (hT.at N fun p hp => .tail _ (.tail _ (.tail _ hp))) hn fun t9 tk9 => ?_
    k_steps
    exact ⟨_, _, _, _, _, _, rfl, rfl, by assumption, by assumption, by assumption⟩
  clear F N
  rintro v s₁ ⟨r, t₀, u₀, v₀, h, tk, rfl, rfl, hR, F, N⟩
  refine ⟨r, n, t₀, u₀, v₀, m, _, rfl, hR, by omega, hh, F, N, fun i m₁ nx => m₁ = m ∧ ∃ (ords : List Value) (c : Nat) (o2 : Obj) (v2 : Option Value), nx = (od, W.listOf (List.toArray ords) c) :: (L + 4, o4) :: (L + 2, o2) :: tl ∧ o2.data = .cell v2 ∧ IntsAre ords ((insO (ltT T) i).map fun k : Nat => (k : Int)), ⟨rfl, [], c, o2, none, rfl, h2, IntsAre.nil⟩, ?_, ?_⟩
  · clear F N hR h2
    rintro i t m₁ nx h1 tk1 I it hin ⟨rfl, ords, c9, o2, v2, rfl, h2, hI⟩ F N hne
    have tI : ∀ p ∈ tl, p.1 ≠ I := fun p hp => hne p (.tail _ (.tail _ (.tail _ hp)))
    have hI1 : @Ne Nat I od := fun e => hne _ (.head _) e.symm
    have hI2 : @Ne Nat I (L + 4) := fun e => hne _ (.tail _ (.head _)) e.symm
    have hI3 : @Ne Nat I (L + 2) := fun e => hne _ (.tail _ (.tail _ (.head _))) e.symm
    k_steps
    rename Fr _ _ _ _ => F2
    rename News _ _ _ _ => N2
    rename (Obj.data _ = Data.cell (some (Value.int _ _))) => h2'
    clear h2
    have hT2 := hT.at N2 fun p hp => .tail _ (.tail _ (.tail _ (.tail _ hp)))
    refine orderComp (p := p) X TT F2 N2 (by k_mem) h2' (by k_mem) h3 (by k_mem) h4 (isList_of (N2 _ (.tail _ (.head _))).1) hI ?hos ⟨by omega, by omega⟩ hn ?hol hT2 hT5 hu hh ?_
    case hos =>
      intro x hx
      obtain ⟨k, hk, rfl⟩ := List.mem_map.mp hx
      have := insO_lt hk
      omega
    case hol => rw [List.length_map, insO_len]; omega
    intro D us c8 h3 tk3 F3 N3 hD st3 hus
    clear F2 N2 hT2
    replace hD := allNe_of hD
    simp only [AllNe] at hD
    k_steps
    refine call_len_list (isList_of (N3 _ (.head _)).1) (by rw [List.size_toArray, hus]; have := List.length_filter_le (fun k => lexLe (T k.toNat) (T (i : Int).toNat)) ((insO (ltT T) i).map fun k : Nat => (k : Int)); rw [List.length_map, insO_len] at this; omega) ?_
    rw [List.size_toArray]
    k_steps
    have hz1 : (1000 : Nat) ≤ sizeLine := by decide
    have hzo := hI.length
    rw [List.length_map, insO_len] at hzo
    have hus2 : us.length ≤ 1000 := by
      rw [hus]; have := List.length_filter_le (fun k => lexLe (T k.toNat) (T (i : Int).toNat)) ((insO (ltT T) i).map fun k : Nat => (k : Int)); rw [List.length_map, insO_len] at this; omega
    refine kl_insert F3 N3 (by unfold Builtin.List.listFitsIndex; simp only [Bool.and_eq_true, decide_eq_true_eq]; omega) rfl (by k_upd) (by dsimp only; omega) ?_
    intro h5 F5 N5
    k_steps
    refine ⟨_, _, _, _, rfl, (N5 _ (.tail _ (.head _))).1, F5, fun p hp => N5 p (.tail _ (.tail _ hp)), ?_, rfl, _, _, _, _, rfl, h2', ins_ints hI hus⟩
    intro p hp
    rcases List.mem_cons.mp hp with rfl | hp
    · exact hI1.symm
    rcases List.mem_cons.mp hp with rfl | hp
    · exact hI2.symm
    rcases List.mem_cons.mp hp with rfl | hp
    · exact hI3.symm
    · exact tI p hp
  · rintro m₁ nx h1 tk1 ⟨rfl, ords, c9, o2, v2, rfl, h2, hI⟩ F N
    exact wpAny_execs_nil (hQ od ords c9 h1 tk1 o2 o4 v2 F N hI h4 h2 t5 hlt)


end
section
theorem KA.at_of_led {a : KA} {V : Value} {h : Heap} (x : ∀ q ∈ a.led V, h.get? q.1 = some q.2) : a.at V h := by
  unfold KA.led at x
  exact ⟨x _ (.head _), x _ (.tail _ (.head _)), x _ (.tail _ (.tail _ (.head _))), x _ (.tail _ (.tail _ (.tail _ (.head _)))), x _ (.tail _ (.tail _ (.tail _ (.tail _ (.head _))))), x _ (.tail _ (.tail _ (.tail _ (.tail _ (.tail _ (.head _)))))), x _ (.tail _ (.tail _ (.tail _ (.tail _ (.tail _ (.tail _ (.head _))))))), x _ (.tail _ (.tail _ (.tail _ (.tail _ (.tail _ (.tail _ (.tail _ (.head _)))))))), x _ (.tail _ (.tail _ (.tail _ (.tail _ (.tail _ (.tail _ (.tail _ (.tail _ (.head _))))))))), x _ (.tail _ (.tail _ (.tail _ (.tail _ (.tail _ (.tail _ (.tail _ (.tail _ (.tail _ (.head _))))))))))⟩
theorem lawMain : ∀ {w : World} {p : Program} {loose : List Str} {mean : ExcName → Option Value} {mg mb : Str → Option Value} (dp ut : Nat) (fr : Option (List Env)) (gd : Option (List Code)) (s : Shared) (G : Heap) (L fa sc : Addr) (m : Str → Option Value) (o1 o2 o3 o4 o5 o6 o7 o8 : Obj) (vs : List Value) (ns : List Int)
   (Q : Flow → Shared → Prop) (X : (heapK w.params).In G) (TT : Top p loose mean mg mb G) (hsm : ∃ o, G.get? 1 = some o) (C1 : CodeHd G 127 125) (C2 : CodeHd G 27 23)
   (hS : G.IsList sc vs.toArray) (hI : IntsAre vs ns) (h63 : ns.length ≤ 63)
   (F : Fr G L s.heap (kstB m [("script", .ref sc)])) (N : News G L s.heap [(L + 8, o8), (L + 7, o7), (L + 6, o6), (L + 5, o5), (L + 4, o4), (L + 3, o3), (L + 2, o2), (L + 1, o1), (111, tabObj #[]), (23, tabObj #[]), (125, tabObj #[])])
   (h1 : o1.data = .cell none) (h2 : o2.data = .cell none) (h3 : o3.data = .cell none) (h4 : o4.data = .cell none) (h5 : o5.data = .cell none) (h6 : o6.data = .cell none) (h7 : o7.data = .cell none) (h8 : o8.data = .cell none) (hL : @LT.lt Nat _ 128 L)
   (hdp : dp + 400 < recursionLimit) (hu : ut + 1000 < cLine)
   (hQ : ∀ (mm : Str → Option Value) (h' : Heap) (tk : Nat) (ta tb tc : Array Value), Fr G L h' mm → News G L h' [(111, tabObj ta), (23, tabObj tb), (125, tabObj tc)] → Q (.ret (.bool true)) { s with heap := h', toks := tk }),
   wpAny (model P.row.prog w) (Aro dp ut fr gd) (execs lawB (lawEnv L fa)) Q (fun _ _ => False) s := by
  k_with_none
  k_with "assign Tuple" => ((k_here; (with_reducible show wpAny _ _ (assign (Expr.Tuple _ _ _) _ (Value.ref _)) _ _ _); k_dflt (refine' kun_list ?k1 ?k2 ?k3 ?k4 ?k5 ?k6 ?_; (case k1 => k_asm); (case k2 => k_asm); (case k3 => (first | (with_reducible assumption) | exact IsList.stays (by assumption) (Fr.keep (by assumption)) | exact News.isList (by k_asm) (by k_mem))); (case k4 => exact rfl); (case k5 => exact rfl); (case k6 => exact rfl); k_whole); intro h' F' N'; (try k_sweep)))
  k_with "m_in" => first | (with_reducible exact m_hd) | (with_reducible refine m_tl ?_; walk_at "m_in") | (with_reducible refine in_r ?_; walk_at "m_in") | (with_reducible refine in_l ?_; walk_at "m_in")
  k_with "m_suf" => first | exact fun _ h => h | (with_reducible refine sub_tl ?_; walk_at "m_suf") | (with_reducible refine sub_r ?_; walk_at "m_suf") | (with_reducible refine sub_l ?_; walk_at "m_suf")
  k_with "m_sub" => first | exact sub_nil | ((with_reducible refine sub_cons ?_ ?_); (focus walk_at "m_in"); (focus walk_at "m_sub")) | ((with_reducible refine sub_app ?_ ?_); (focus walk_at "m_sub"); (focus walk_at "m_sub")) | walk_at "m_suf"
  w_top off
  k_fill
  intro w p loose mean mg mb dp ut fr gd s G L fa sc m o1 o2 o3 o4 o5 o6 o7 o8 vs ns Q X TT hsm C1 C2 hS hI h63 F N h1 h2 h3 h4 h5 h6 h7 h8 hL hdp hu hQ
  refine execs_then 6 (lawFirst (p := p) _ _ G L fa sc m o1 o2 o3 o4 o5 o6 o7 o8 _ _ _ vs ns _ _ X TT hsm rfl hS hI h63 F N h1 h2 h7 h8 hL ?_)
  intro mm D le oD o1' o7' o8' t1 vsE es cE hp1 tk1 F1 N1 d1 d7 d8 hPO hIE hE hDl
  clear F N
  dsimp only
  have N1' := news_mem (l' := (L + 3, o3) :: [(le, W.listOf (List.toArray vsE) cE), (D, oD), (L + 8, o8'), (L + 7, o7'), (L + 6, o6), (L + 5, o5), (L + 4, o4), (L + 2, o2), (L + 1, o1'), (111, tabObj #[]), (23, tabObj #[]), (125, tabObj #[])]) N1 (by
    walk_at "m_sub")
  have hDle : ∀ x ∈ [L + 8, L + 7, L + 6, L + 5, L + 4, L + 3, L + 2, L + 1, (111 : Nat), 23, 125], ∀ p ∈ [(le, W.listOf (List.toArray vsE) cE), (D, oD)], p.1 ≠ x := by
    intro x hx p hp
    simp only [List.mem_cons, List.not_mem_nil, or_false] at hp
    rcases hp with rfl | rfl
    · exact (hDl x hx).2.symm
    · exact (hDl x hx).1.symm
  refine execs_then 1 (lawTexts (p := p) _ _ G L fa sc mm o3 none vs ns _ _ X TT rfl hS hI h63 F1 N1' h3 ?t3 ?_)
  case t3 =>
    intro p hp
    simp only [List.mem_cons, List.not_mem_nil, or_false] at hp
    rcases hp with hp | hp | hp | hp | hp | hp | hp | hp | hp | hp | hp | hp <;> rw [hp]
    · exact (hDl (L + 3) (by simp only [List.mem_cons, true_or, or_true])).2.symm
    · exact (hDl (L + 3) (by simp only [List.mem_cons, true_or, or_true])).1.symm
    all_goals (show @Ne Nat _ _; omega)
  intro tx ext xs u o3' m2 hp2 tk2 F2 N2 d3 hxs hul hTx hext
  clear F1 N1 N1'
  dsimp only
  have hxl : xs.length = u.length + 3 := by rw [hxs, List.length_append]; rfl
  have aE : ∀ (x : Nat), x ∈ [L + 8, L + 7, L + 6, L + 5, L + 4, L + 3, L + 2, L + 1, (111 : Nat), 23, 125] → ∀ p ∈ ext, p.1 ≠ x := by
    intro x hx p hp q
    obtain ⟨b1, b2⟩ := hext p hp
    simp only [List.mem_cons, List.not_mem_nil, or_false] at hx
    rcases hx with rfl | rfl | rfl | rfl | rfl | rfl | rfl | rfl | rfl | rfl | rfl
    · exact b2 (L + 8, o8') (.tail _ (.tail _ (.head _))) q.symm
    · exact b2 (L + 7, o7') (.tail _ (.tail _ (.tail _ (.head _)))) q.symm
    · exact b2 (L + 6, o6) (.tail _ (.tail _ (.tail _ (.tail _ (.head _))))) q.symm
    · exact b2 (L + 5, o5) (.tail _ (.tail _ (.tail _ (.tail _ (.tail _ (.head _)))))) q.symm
    · exact b2 (L + 4, o4) (.tail _ (.tail _ (.tail _ (.tail _ (.tail _ (.tail _ (.head _))))))) q.symm
    · exact b1 q
    · exact b2 (L + 2, o2) (.tail _ (.tail _ (.tail _ (.tail _ (.tail _ (.tail _ (.tail _ (.head _)))))))) q.symm
    · exact b2 (L + 1, o1') (.tail _ (.tail _ (.tail _ (.tail _ (.tail _ (.tail _ (.tail _ (.tail _ (.head _))))))))) q.symm
    · exact b2 (111, tabObj #[]) (.tail _ (.tail _ (.tail _ (.tail _ (.tail _ (.tail _ (.tail _ (.tail _ (.tail _ (.head _)))))))))) q.symm
    · exact b2 (23, tabObj #[]) (.tail _ (.tail _ (.tail _ (.tail _ (.tail _ (.tail _ (.tail _ (.tail _ (.tail _ (.tail _ (.head _))))))))))) q.symm
    · exact b2 (125, tabObj #[]) (.tail _ (.tail _ (.tail _ (.tail _ (.tail _ (.tail _ (.tail _ (.tail _ (.tail _ (.tail _ (.tail _ (.head _)))))))))))) q.symm
  clear hext
  have aB : ∀ (x : Nat), x ∈ [L + 8, L + 7, L + 6, L + 5, L + 4, L + 3, L + 2, L + 1, (111 : Nat), 23, 125] → ∀ p ∈ ext ++ [(le, W.listOf (List.toArray vsE) cE), (D, oD)], p.1 ≠ x := fun x hx p hp => (List.mem_append.mp hp).elim (aE x hx p) (hDle x hx p)
  generalize hB : ext ++ [(le, W.listOf (List.toArray vsE) cE), (D, oD)] = B at aB
  have sE : ∀ q ∈ ext, q ∈ B := fun q hq => hB ▸ List.mem_append_left _ hq
  have hle : (le, W.listOf (List.toArray vsE) cE) ∈ B := hB ▸ List.mem_append_right _ (.head _)
  have hDm : (D, oD) ∈ B := hB ▸ List.mem_append_right _ (.tail _ (.head _))
  have hTx := hTx.mono sE
  have N3 := news_mem (l' := (L + 4, o4) :: (L + 2, o2) :: (L + 3, o3') :: (L + 8, o8') :: (L + 7, o7') :: (L + 6, o6) :: (L + 5, o5) :: (L + 1, o1') :: (111, tabObj #[]) :: (23, tabObj #[]) :: (125, tabObj #[]) :: B) N2 (by
    rw [← hB]
    walk_at "m_sub")
  clear N2 sE aE hDle hDl
  have sB3 : ∀ q ∈ B, q ∈ (L + 3, o3') :: (L + 8, o8') :: (L + 7, o7') :: (L + 6, o6) :: (L + 5, o5) :: (L + 1, o1') :: (111, tabObj #[]) :: (23, tabObj #[]) :: (125, tabObj #[]) :: B := fun q hq => .tail _ (.tail _ (.tail _ (.tail _ (.tail _ (.tail _ (.tail _ (.tail _ (.tail _ hq))))))))
  rw [List.drop_drop]
  refine execs_then 2 (lawOrder (p := p) _ _ G L fa tx _ o2 o3' o4 none xs.length (fun j => digF (xs.getD j 0)) _ _ X TT rfl (by show ut < _; omega) F2 N3 h2 h4 (.head _) d3 (hTx.mono sB3) (fun j => digF_len _) (by omega) ?t4 ?t2 ?_)
  case t4 =>
    intro p hp
    simp only [List.mem_cons] at hp
    rcases hp with hp | hp | hp | hp | hp | hp | hp | hp | hp | hp
    all_goals first | exact aB (L + 4) (by simp only [List.mem_cons, true_or, or_true]) p hp | (rw [hp]; show @Ne Nat _ _; omega)
  case t2 =>
    intro p hp
    simp only [List.mem_cons] at hp
    rcases hp with hp | hp | hp | hp | hp | hp | hp | hp | hp | hp
    all_goals first | exact aB (L + 2) (by simp only [List.mem_cons, true_or, or_true]) p hp | (rw [hp]; show @Ne Nat _ _; omega)
  intro od ords cO hp3 tk3 o2' o4' v2 F3 N4 hIo d4 d2 hod hod4
  clear F2 N3
  dsimp only
  have hoA : ∀ (x : Nat), x ∈ [L + 8, L + 7, L + 6, L + 5, L + 4, L + 3, L + 2, L + 1, (111 : Nat), 23, 125] → @Ne Nat od x := by
    intro x hx
    have b1 : @Ne Nat (L + 8) od := hod _ (.tail _ (.head _))
    have b2 : @Ne Nat (L + 7) od := hod _ (.tail _ (.tail _ (.head _)))
    have b3 : @Ne Nat (L + 6) od := hod _ (.tail _ (.tail _ (.tail _ (.head _))))
    have b4 : @Ne Nat (L + 5) od := hod _ (.tail _ (.tail _ (.tail _ (.tail _ (.head _)))))
    simp only [List.mem_cons, List.not_mem_nil, or_false] at hx
    rcases hx with rfl | rfl | rfl | rfl | rfl | rfl | rfl | rfl | rfl | rfl | rfl <;> omega
  clear hod
  have N5 := news_mem (l' := (L + 5, o5) :: (125, tabObj #[]) :: (23, tabObj #[]) :: ((od, W.listOf (List.toArray ords) cO) :: (L + 4, o4') :: (L + 2, o2') :: (L + 3, o3') :: (L + 8, o8') :: (L + 7, o7') :: (L + 6, o6) :: (L + 1, o1') :: (111, tabObj #[]) :: B)) N4 (by
    walk_at "m_sub")
  clear N4
  rw [List.drop_drop]
  refine execs_then 1 (lawKey (p := p) _ _ G L fa _ o5 none _ _ X TT rfl (by show dp + 200 < _; omega) (by show ut + 800 < _; omega) C1 C2 hL F3 N5 h5 ?t5 ?t125 ?t23 ?_)
  case t5 =>
    intro p hp
    simp only [List.mem_cons] at hp
    rcases hp with hp | hp | hp | hp | hp | hp | hp | hp | hp | hp
    all_goals first | exact aB (L + 5) (by simp only [List.mem_cons, true_or, or_true]) p hp | (rw [hp]; exact hoA (L + 5) (by simp only [List.mem_cons, true_or, or_true])) | (rw [hp]; show @Ne Nat _ _; omega)
  case t125 =>
    intro p hp
    simp only [List.mem_cons] at hp
    rcases hp with hp | hp | hp | hp | hp | hp | hp | hp | hp | hp
    all_goals first | exact aB 125 (by simp only [List.mem_cons, true_or, or_true]) p hp | (rw [hp]; exact hoA 125 (by simp only [List.mem_cons, true_or, or_true])) | (rw [hp]; show @Ne Nat _ _; omega)
  case t23 =>
    intro p hp
    simp only [List.mem_cons] at hp
    rcases hp with hp | hp | hp | hp | hp | hp | hp | hp | hp | hp
    all_goals first | exact aB 23 (by simp only [List.mem_cons, true_or, or_true]) p hp | (rw [hp]; exact hoA 23 (by simp only [List.mem_cons, true_or, or_true])) | (rw [hp]; show @Ne Nat _ _; omega)
  intro a f c' oc o5' pm ctv ps hp4 tk4 F4 N6 hok hoc d5 hlo
  clear F3 N5
  dsimp only
  rw [List.drop_drop]
  have e10 : List.drop (6 + 1 + 2 + 1) lawB = [nthL 10 lawB, nthL 11 lawB] := rfl
  first | rw [e10] | rw [show List.drop (9 + 1) lawB = [nthL 10 lawB, nthL 11 lawB] from rfl]
  clear e10
  generalize hke : (f, kla_obj "<lambda>" "law.<locals>.<lambda>" lamC.1 lamC.2.1 lamC.2.2.1 [("places", L + 8)] pm c' ctv) = kf at N6 hlo
  have N7 := news_mem (l' := (L + 6, o6) :: (L + 2, o2') :: (125, tabObj #[rawInt 139, rawInt 21, .ref c']) :: (111, tabObj #[]) :: ((L + 5, o5') :: (23, tabObj ps) :: (od, W.listOf (List.toArray ords) cO) :: (L + 4, o4') :: (L + 3, o3') :: (L + 8, o8') :: (L + 7, o7') :: (L + 1, o1') :: (a.led (.ref f) ++ kf :: (c', oc) :: B))) N6 (by
    walk_at "m_sub")
  clear N6
  have aL : ∀ (x : Nat), x ∈ [L + 6, L + 2, (111 : Nat), 125] → ∀ p ∈ (L + 5, o5') :: (23, tabObj ps) :: (od, W.listOf (List.toArray ords) cO) :: (L + 4, o4') :: (L + 3, o3') :: (L + 8, o8') :: (L + 7, o7') :: (L + 1, o1') :: (a.led (.ref f) ++ kf :: (c', oc) :: B), p.1 ≠ x := by
    intro x hx p hp
    have hx' : x ∈ [L + 8, L + 7, L + 6, L + 5, L + 4, L + 3, L + 2, L + 1, (111 : Nat), 23, 125] ∧ x ≠ L + 5 ∧ x ≠ 23 ∧ x ≠ L + 4 ∧ x ≠ L + 3 ∧ x ≠ L + 8 ∧ x ≠ L + 7 ∧ x ≠ L + 1 ∧ x ≤ L + 6 := by
      simp only [List.mem_cons, List.not_mem_nil, or_false] at hx
      rcases hx with rfl | rfl | rfl | rfl
      all_goals (refine ⟨by simp only [List.mem_cons, true_or, or_true], ?_⟩; omega)
    obtain ⟨x0, x1, x2, x3, x4, x5, x6, x7, x8⟩ := hx'
    have hi : ∀ q ∈ a.led (.ref f) ++ kf :: (c', oc) :: [], q.1 ≠ x := fun q hq => by
      have : @LT.lt Nat _ (L + 6) q.1 := (hlo q hq).2.2.2 (L + 6, o6) (.tail _ (.tail _ (.tail _ (.tail _ (.tail _ (.tail _ (.head _)))))))
      exact Nat.ne_of_gt (Nat.lt_of_le_of_lt x8 this)
    simp only [List.mem_cons, List.mem_append] at hp
    rcases hp with hp | hp | hp | hp | hp | hp | hp | hp | hp | hp | hp | hp
    · rw [hp]; exact x1.symm
    · rw [hp]; exact x2.symm
    · rw [hp]; exact hoA x x0
    · rw [hp]; exact x3.symm
    · rw [hp]; exact x4.symm
    · rw [hp]; exact x5.symm
    · rw [hp]; exact x6.symm
    · rw [hp]; exact x7.symm
    · exact hi p (List.mem_append_left _ hp)
    · exact hi p (List.mem_append_right _ (hp ▸ .head _))
    · exact hi p (List.mem_append_right _ (hp ▸ .tail _ (.head _)))
    · exact aB x x0 p hp
  have sB : ∀ q ∈ B, q ∈ (L + 5, o5') :: (23, tabObj ps) :: (od, W.listOf (List.toArray ords) cO) :: (L + 4, o4') :: (L + 3, o3') :: (L + 8, o8') :: (L + 7, o7') :: (L + 1, o1') :: (a.led (.ref f) ++ kf :: (c', oc) :: B) := fun q hq => .tail _ (.tail _ (.tail _ (.tail _ (.tail _ (.tail _ (.tail _ (.tail _ (List.mem_append_right _ (.tail _ (.tail _ hq))))))))))
  refine wpAny_execs_cons ?_
  refine lawOuter (p := p) dp ut fr gd _ G L fa tx le D od f c' a _ _ (tabObj #[]) _ o1' o2' o3' o4' o5' o6 o7' o8' oD v2 none t1 xs u vsE ords es cE cO _ X TT C1 F4 N7 d2 h6 (.inl rfl) (.inl rfl) (aL _ (by simp only [List.mem_cons, true_or, or_true])) (aL _ (by simp only [List.mem_cons, true_or, or_true])) (aL _ (by simp only [List.mem_cons, true_or, or_true])) (aL _ (by simp only [List.mem_cons, true_or, or_true])) hL (.tail _ (.tail _ (.tail _ (.tail _ (.tail _ (.tail _ (.tail _ (.head _)))))))) d1 (.tail _ (.tail _ (.tail _ (.tail _ (.head _))))) d3 (.tail _ (.tail _ (.tail _ (.head _)))) d4 (.head _) d5 (.tail _ (.tail _ (.tail _ (.tail _ (.tail _ (.tail _ (.head _))))))) d7 (.tail _ (.tail _ (.tail _ (.tail _ (.tail _ (.head _)))))) d8 (sB _ hDm) hPO hxs hul (hTx.mono sB) (sB _ hle) hIE hE (.tail _ (.tail _ (.head _))) hIo ?hK hdp hu ?_
  case hK =>
    intro h hq
    have hl : ∀ q ∈ a.led (.ref f) ++ kf :: (c', oc) :: B, h.get? q.1 = some q.2 := fun q hm => hq q (.tail _ (.tail _ (.tail _ (.tail _ (.tail _ (.tail _ (.tail _ (.tail _ hm))))))))
    exact ⟨hok, KA.at_of_led fun q hm => hl q (List.mem_append_left _ hm), ⟨pm, c', ctv, oc, o8', by have := hl kf (List.mem_append_right _ (.head _)); rw [← hke] at this; exact this, hl (c', oc) (List.mem_append_right _ (.tail _ (.head _))), hoc, hq (L + 8, o8') (.tail _ (.tail _ (.tail _ (.tail _ (.tail _ (.head _)))))), d8⟩, hPO h (hq _ (sB _ hDm))⟩
  intro hp5 tk5 m5 tb' t' nx F5 N8 hsub hTL
  obtain ⟨ta, hta⟩ : ∃ ta, t' = tabObj ta := by
    rcases hTL with x | ⟨_, _, _, _, x, _⟩
    · exact ⟨_, x⟩
    · exact ⟨_, x⟩
  subst hta
  have hfin : ∀ tk, Q (.ret (.bool true)) { s with heap := hp5, toks := tk } := fun tk => hQ m5 hp5 tk ta ps tb' F5 (by
    intro q hq
    simp only [List.mem_cons, List.not_mem_nil, or_false] at hq
    rcases hq with rfl | rfl | rfl
    · exact N8 _ (.tail _ (.head _))
    · exact N8 _ (.tail _ (.tail _ (hsub _ (.tail _ (.head _)))))
    · exact N8 _ (.head _))
  clear hQ hTL hsub N8
  dsimp only
  have e2 : nthL 11 lawB = .Return (some (.Constant _ _ _)) _ := rfl
  rw [e2]
  clear e2
  k_steps
  exact hfin _


end
end
end
end
theorem said_row : PySem.Challenge.rw_oh0006_01.row.wellSaid = true := by
  delta OpenRow.wellSaid OpenRow.partSaid looksOpen
  with_reducible repeat refine look_both ?_ ?_
  all_goals decide +kernel
theorem said_law : PySem.Challenge.rw_oh0006_01.wellSaid = true := by
  delta OpenLaw.wellSaid
  with_reducible repeat refine look_both ?_ ?_
  exact said_row
  all_goals decide +kernel
end Mine
open Mine
theorem PySem.Challenge.cw_oh0006_01_holds : PySem.Challenge.rw_oh0006_01.Holds := by
  w_on
  refine holds_law said_law fun said => ?_
  refine holds_open (q := viewK) (loose := looseK) (Xt := XtK) (XP := XL viewK []) (Yf := Hook.obs hookK) (Ya := Hook.val hookK) (YP := Hook.says hookK) (N := 1324) leftK (Hook.of hookK) (Hook.keeps hookK) (fun s e => xl_of s (Bool.and_eq_true_iff.mp e).1) XL.keeps (by rfl) (by rfl) (by rfl) (fun s e => recFacts_of (Bool.and_eq_true_iff.mp e).2) (by rfl) (by first | assumption | decide +kernel) (by decide +kernel) ⟨rfl, rfl, rfl, rfl, rfl, by decide +kernel⟩ ?hw ?hc
  case hw => w_witness2
  delta hookK looseK
  w_strict (k_go0)
  rename (_ ∧ _ ∧ _) => l0
  rename News _ _ _ _ => N1
  rename Fr _ _ _ _ => F1
  rename Top topProg _ _ _ _ _ => T1
  rename Top viewK _ _ _ _ _ => T0
  rename (Frag.In _ _) => X1
  have F2 := fr_kst (ps := [("script", .ref _)]) F1 ⟨rfl, trivial⟩
  rename (IntsAre _ _) => hI
  rename (¬ _ < _) => h63
  rename_i c8 c7 c6 c5 c4 c3 c2 c1 X0 K1 cc1 cc2
  obtain ⟨mm1, hns1, _⟩ := (T0.seer (by kernel_rfl)).mods
  obtain ⟨om, es1, ep1, hm1, _⟩ := ghost_ns hT9 hns1
  have h128 : @LT.lt Nat _ 128 _ := Heap.lt_size (of_hideAll _ (X1 128 _ rfl))
  refine wpAny_mono (lawMain (p := topProg) 302 7 (some [_]) (some []) _ _ _ _ _ _ _ _ _ _ _ _ _ _ _ _ _ X1 T1 ⟨_, hm1⟩ codeHd cc2 lifted hI (by omega) F2 N1 c1 c2 c3 c4 c5 c6 c7 c8 (by show @LT.lt Nat _ 128 _; omega) (by decide) (by decide) ?_) (fun _ _ h => h) (fun _ _ e => e.elim)
  intro mm h' tk ta tb tc F N
  clear F1 F2 N1
  dsimp only
  k_steps

