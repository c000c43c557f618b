import PyProof.Rows.All
import Wide.All
import OpenK.AllK
import Wide.FinOn
import KE.KNest
import Lean
import PySem.Challenge.RW_to0073_01
set_option Elab.async false
set_option maxRecDepth 100000
set_option linter.unusedVariables false
section
namespace Mine
open PySem PySem.W PyProof.Rows
noncomputable abbrev pw := PySem.Challenge.pw_to0073_01

noncomputable abbrev S (x : String) : Str := Str.ofString x
noncomputable abbrev ar {α : Type} (l : List α) : Array α := Array.mk l
noncomputable abbrev e (P : Params) (x : String) (t : Nat) (v : Value) : DictEntry := ⟨PyData.keyHash P (S x), .str (S x) t, v⟩
noncomputable def body : List Stmt := pw.main.body
noncomputable def dummyStmt : Stmt := .Pass ⟨0, 0, 0, 0⟩
noncomputable def st (i : Nat) : Stmt := body.getD i dummyStmt
noncomputable def sc (i k : Nat) : Stmt := match st i with | .ClassDef _ _ _ b _ _ _ _ _ _ _ => b.getD k dummyStmt | _ => dummyStmt
noncomputable def dN : Stmt → Str | .FunctionDef n _ _ _ _ _ _ _ _ _ => n | _ => S ""
noncomputable def dA : Stmt → Arguments | .FunctionDef _ a _ _ _ _ _ _ _ _ => a | _ => ⟨[], [], none, [], [], none, []⟩
noncomputable def dB : Stmt → List Stmt | .FunctionDef _ _ b _ _ _ _ _ _ _ => b | _ => []
noncomputable def dS : Stmt → Scope | .FunctionDef _ _ _ _ _ _ s _ _ _ => s | _ => pw.main.scope
noncomputable abbrev fd (s : Stmt) (qual : String) (g : Nat) (pm code : Value) (bl : Nat) : FuncData :=
  { name := dN s, qualname := S qual, params := dA s, body := .stmts (dB s), scope := dS s, globals := g, closure := [], defaults := .none, kwdefaults := .none, pyModule := pm, code := code, builtins := bl }
noncomputable def b3k : List (Option Expr) := match st 10 with | .Assign _ (.Dict ks _ _) _ => ks | _ => []
noncomputable def b3v : List Expr := match st 10 with | .Assign _ (.Dict _ vs _) _ => vs | _ => []
noncomputable def dOf (l : List DictEntry) : Obj := ⟨.type "dict", none, .dict (ar l) l.length, ar []⟩
noncomputable def o11_a (P : Params) : Obj := ⟨.type "tuple", none, .seq (ar []) 0, ar []⟩
noncomputable def o12_a (P : Params) : Obj := ⟨.none, none, .fields (ar []), ar []⟩
noncomputable def o13_a (P : Params) : Obj := ⟨.type "code", none, .fields (ar [.str (S "<module>") 182, .str (S "<module>") 183, .str (S "/claim/cut.py") 184, .int 1 0, .int 0 0, .int 0 0, .int 0 0, .int 0 0, .ref 11, .bool false, .int 181 0, .ref 12, .none, .none, .none, .none, .int 185 0, .int 1 0, .str (S "/claim/cut.py") 186]), ar []⟩
noncomputable def o14_a (P : Params) : Obj := ⟨.type "frame", none, .plain, ar [some (.ref 13), some (.ref 3), some (.ref 3), none, some (.str (S "__main__") 164), none, some (.ref 0)]⟩
noncomputable def ha (P : Params) : Heap := ⟨.mk [boot_o_0 P, boot_o_1 P, boot_o_2 P, boot_o_3 P, boot_o_4 P, boot_o_5 P, boot_o_6 P, boot_o_7 P, boot_o_8 P, boot_o_9 P, boot_o_10 P, o11_a P, o12_a P, o13_a P, o14_a P], {}⟩
noncomputable def ta (P : Params) : BT := .node (boot_o_0 P) (.node (boot_o_1 P) (.node (boot_o_3 P) (.node (boot_o_7 P) (.nil) (.nil)) (.node (o11_a P) (.nil) (.nil))) (.node (boot_o_5 P) (.node (boot_o_9 P) (.nil) (.nil)) (.node (o13_a P) (.nil) (.nil)))) (.node (boot_o_2 P) (.node (boot_o_4 P) (.node (boot_o_8 P) (.nil) (.nil)) (.node (o12_a P) (.nil) (.nil))) (.node (boot_o_6 P) (.node (boot_o_10 P) (.nil) (.nil)) (.node (o14_a P) (.nil) (.nil))))
noncomputable def o3_7 (P : Params) : Obj := ⟨.type "dict", none, .dict (ar [e P "__name__" 165 (.str (S "cpy313.stringprep") 275), e P "__doc__" 166 (.none), e P "__package__" 167 (.none), e P "__loader__" 168 (.builtin "__main__.__loader__#opaque"), e P "__spec__" 169 (.none), e P "__annotations__" 170 (.ref 6), e P "__builtins__" 171 (.ref 4), e P "__file__" 173 (.str (S "/claim/cut.py") 172), e P "__cached__" 174 (.none), e P "_wall" 193 (.ref 21), e P "_strcoll" 203 (.ref 28), e P "CHAR_MAX" 205 (.int 127 204), e P "_grouping_intervals" 214 (.ref 35), e P "_netrclex" 274 (.ref 73)]) 14, ar []⟩
noncomputable def o12_7 (P : Params) : Obj := ⟨.none, none, .fields (ar [.int 1 0, .int 0 0, .ref 20, .int 5 0, .int 0 0, .ref 27, .int 8 0, .int 0 0, .ref 34, .int 21 0, .int 0 0, .ref 41]), ar []⟩
noncomputable def o15_7 (P : Params) : Obj := ⟨.type "tuple", none, .seq (ar []) 0, ar []⟩
noncomputable def o16_7 (P : Params) : Obj := ⟨.none, none, .fields (ar []), ar []⟩
noncomputable def o17_7 (P : Params) : Obj := ⟨.type "tuple", none, .seq (ar [.str (S "k") 190]) 0, ar []⟩
noncomputable def o18_7 (P : Params) : Obj := ⟨.type "tuple", none, .seq (ar []) 0, ar []⟩
noncomputable def o19_7 (P : Params) : Obj := ⟨.none, none, .func (fd (st 0) "_wall" 0 (.none) (.none) 0), ar []⟩
noncomputable def o20_7 (P : Params) : Obj := ⟨.type "code", none, .fields (ar [.str (S "_wall") 187, .str (S "_wall") 188, .str (S "/claim/cut.py") 189, .int 1 0, .int 1 0, .int 0 0, .int 0 0, .int 3 0, .ref 15, .bool true, .int 181 0, .ref 16, .none, .ref 17, .ref 18, .ref 19, .int 191 0, .int 1 0, .str (S "/claim/cut.py") 192]), ar []⟩
noncomputable def o21_7 (P : Params) : Obj := ⟨.type "function", none, .func (fd (st 0) "_wall" 3 (.str (S "__main__") 164) (.ref 20) 0), ar []⟩
noncomputable def o22_7 (P : Params) : Obj := ⟨.type "tuple", none, .seq (ar []) 0, ar []⟩
noncomputable def o23_7 (P : Params) : Obj := ⟨.none, none, .fields (ar []), ar []⟩
noncomputable def o24_7 (P : Params) : Obj := ⟨.type "tuple", none, .seq (ar [.str (S "a") 199, .str (S "b") 200]) 0, ar []⟩
noncomputable def o25_7 (P : Params) : Obj := ⟨.type "tuple", none, .seq (ar []) 0, ar []⟩
noncomputable def o26_7 (P : Params) : Obj := ⟨.none, none, .func (fd (st 2) "_strcoll" 0 (.none) (.none) 0), ar []⟩
noncomputable def o27_7 (P : Params) : Obj := ⟨.type "code", none, .fields (ar [.str (S "_strcoll") 196, .str (S "_strcoll") 197, .str (S "/claim/cut.py") 198, .int 5 0, .int 2 0, .int 0 0, .int 0 0, .int 3 0, .ref 22, .bool true, .int 181 0, .ref 23, .none, .ref 24, .ref 25, .ref 26, .int 201 0, .int 5 0, .str (S "/claim/cut.py") 202]), ar []⟩
noncomputable def o28_7 (P : Params) : Obj := ⟨.type "function", none, .func (fd (st 2) "_strcoll" 3 (.str (S "cpy313.locale") 194) (.ref 27) 0), ar []⟩
noncomputable def o29_7 (P : Params) : Obj := ⟨.type "tuple", none, .seq (ar []) 0, ar []⟩
noncomputable def o30_7 (P : Params) : Obj := ⟨.none, none, .fields (ar []), ar []⟩
noncomputable def o31_7 (P : Params) : Obj := ⟨.type "tuple", none, .seq (ar [.str (S "grouping") 209, .str (S "last_interval") 210, .str (S "interval") 211]) 0, ar []⟩
noncomputable def o32_7 (P : Params) : Obj := ⟨.type "tuple", none, .seq (ar []) 0, ar []⟩
noncomputable def o33_7 (P : Params) : Obj := ⟨.none, none, .func (fd (st 4) "_grouping_intervals" 0 (.none) (.none) 0), ar []⟩
noncomputable def o34_7 (P : Params) : Obj := ⟨.type "code", none, .fields (ar [.str (S "_grouping_intervals") 206, .str (S "_grouping_intervals") 207, .str (S "/claim/cut.py") 208, .int 8 0, .int 1 0, .int 0 0, .int 0 0, .int 35 0, .ref 29, .bool true, .int 181 0, .ref 30, .none, .ref 31, .ref 32, .ref 33, .int 212 0, .int 8 0, .str (S "/claim/cut.py") 213]), ar []⟩
noncomputable def o35_7 (P : Params) : Obj := ⟨.type "function", none, .func (fd (st 4) "_grouping_intervals" 3 (.str (S "cpy313.locale") 194) (.ref 34) 0), ar []⟩
noncomputable def o36_7 (P : Params) : Obj := ⟨.type "tuple", none, .seq (ar []) 0, ar []⟩
noncomputable def o37_7 (P : Params) : Obj := ⟨.type "builtin_function_or_method", none, .fields (ar [.builtin "type.__prepare__", .type "type"]), ar []⟩
noncomputable def o38_7 (P : Params) : Obj := ⟨.type "dict", none, .dict (ar [e P "__module__" 224 (.str (S "cpy313.netrc") 215), e P "__qualname__" 226 (.str (S "_netrclex") 225), e P "__firstlineno__" 228 (.int 21 227), e P "__init__" 236 (.ref 49), e P "_read_char" 244 (.ref 56), e P "get_token" 254 (.ref 63), e P "push_token" 262 (.ref 70), e P "__static_attributes__" 267 (.ref 71)]) 8, ar []⟩
noncomputable def o39_7 (P : Params) : Obj := ⟨.type "tuple", none, .seq (ar []) 0, ar []⟩
noncomputable def o40_7 (P : Params) : Obj := ⟨.none, none, .fields (ar [.int 23 0, .int 4 0, .ref 48, .int 29 0, .int 4 0, .ref 55, .int 35 0, .int 4 0, .ref 62, .int 62 0, .int 4 0, .ref 69]), ar []⟩
noncomputable def o41_7 (P : Params) : Obj := ⟨.type "code", none, .fields (ar [.str (S "_netrclex") 219, .str (S "_netrclex") 220, .str (S "/claim/cut.py") 221, .int 21 0, .int 0 0, .int 0 0, .int 0 0, .int 0 0, .ref 39, .bool false, .int 181 0, .ref 40, .none, .none, .none, .none, .int 222 0, .int 21 0, .str (S "/claim/cut.py") 223]), ar []⟩
noncomputable def o42_7 (P : Params) : Obj := ⟨.type "frame", none, .plain, ar [some (.ref 41), some (.ref 3), some (.ref 38), none, some (.str (S "cpy313.netrc") 215), none, some (.ref 0)]⟩
noncomputable def o43_7 (P : Params) : Obj := ⟨.type "tuple", none, .seq (ar []) 0, ar []⟩
noncomputable def o44_7 (P : Params) : Obj := ⟨.none, none, .fields (ar []), ar []⟩
noncomputable def o45_7 (P : Params) : Obj := ⟨.type "tuple", none, .seq (ar [.str (S "self") 232, .str (S "fp") 233]) 0, ar []⟩
noncomputable def o46_7 (P : Params) : Obj := ⟨.type "tuple", none, .seq (ar []) 0, ar []⟩
noncomputable def o47_7 (P : Params) : Obj := ⟨.none, none, .func (fd (sc 6 0) "_netrclex.__init__" 0 (.none) (.none) 0), ar []⟩
noncomputable def o48_7 (P : Params) : Obj := ⟨.type "code", none, .fields (ar [.str (S "__init__") 229, .str (S "_netrclex.__init__") 230, .str (S "/claim/cut.py") 231, .int 23 0, .int 2 0, .int 0 0, .int 0 0, .int 3 0, .ref 43, .bool true, .int 181 0, .ref 44, .none, .ref 45, .ref 46, .ref 47, .int 234 0, .int 23 0, .str (S "/claim/cut.py") 235]), ar []⟩
noncomputable def o49_7 (P : Params) : Obj := ⟨.type "function", none, .func (fd (sc 6 0) "_netrclex.__init__" 3 (.str (S "cpy313.netrc") 215) (.ref 48) 0), ar []⟩
noncomputable def o50_7 (P : Params) : Obj := ⟨.type "tuple", none, .seq (ar []) 0, ar []⟩
noncomputable def o51_7 (P : Params) : Obj := ⟨.none, none, .fields (ar []), ar []⟩
noncomputable def o52_7 (P : Params) : Obj := ⟨.type "tuple", none, .seq (ar [.str (S "self") 240, .str (S "ch") 241]) 0, ar []⟩
noncomputable def o53_7 (P : Params) : Obj := ⟨.type "tuple", none, .seq (ar []) 0, ar []⟩
noncomputable def o54_7 (P : Params) : Obj := ⟨.none, none, .func (fd (sc 6 1) "_netrclex._read_char" 0 (.none) (.none) 0), ar []⟩
noncomputable def o55_7 (P : Params) : Obj := ⟨.type "code", none, .fields (ar [.str (S "_read_char") 237, .str (S "_netrclex._read_char") 238, .str (S "/claim/cut.py") 239, .int 29 0, .int 1 0, .int 0 0, .int 0 0, .int 3 0, .ref 50, .bool true, .int 181 0, .ref 51, .none, .ref 52, .ref 53, .ref 54, .int 242 0, .int 29 0, .str (S "/claim/cut.py") 243]), ar []⟩
noncomputable def o56_7 (P : Params) : Obj := ⟨.type "function", none, .func (fd (sc 6 1) "_netrclex._read_char" 3 (.str (S "cpy313.netrc") 215) (.ref 55) 0), ar []⟩
noncomputable def o57_7 (P : Params) : Obj := ⟨.type "tuple", none, .seq (ar []) 0, ar []⟩
noncomputable def o58_7 (P : Params) : Obj := ⟨.none, none, .fields (ar []), ar []⟩
noncomputable def o59_7 (P : Params) : Obj := ⟨.type "tuple", none, .seq (ar [.str (S "self") 248, .str (S "token") 249, .str (S "fiter") 250, .str (S "ch") 251]) 0, ar []⟩
noncomputable def o60_7 (P : Params) : Obj := ⟨.type "tuple", none, .seq (ar []) 0, ar []⟩
noncomputable def o61_7 (P : Params) : Obj := ⟨.none, none, .func (fd (sc 6 2) "_netrclex.get_token" 0 (.none) (.none) 0), ar []⟩
noncomputable def o62_7 (P : Params) : Obj := ⟨.type "code", none, .fields (ar [.str (S "get_token") 245, .str (S "_netrclex.get_token") 246, .str (S "/claim/cut.py") 247, .int 35 0, .int 1 0, .int 0 0, .int 0 0, .int 3 0, .ref 57, .bool true, .int 181 0, .ref 58, .none, .ref 59, .ref 60, .ref 61, .int 252 0, .int 35 0, .str (S "/claim/cut.py") 253]), ar []⟩
noncomputable def o63_7 (P : Params) : Obj := ⟨.type "function", none, .func (fd (sc 6 2) "_netrclex.get_token" 3 (.str (S "cpy313.netrc") 215) (.ref 62) 0), ar []⟩
noncomputable def o64_7 (P : Params) : Obj := ⟨.type "tuple", none, .seq (ar []) 0, ar []⟩
noncomputable def o65_7 (P : Params) : Obj := ⟨.none, none, .fields (ar []), ar []⟩
noncomputable def o66_7 (P : Params) : Obj := ⟨.type "tuple", none, .seq (ar [.str (S "self") 258, .str (S "token") 259]) 0, ar []⟩
noncomputable def o67_7 (P : Params) : Obj := ⟨.type "tuple", none, .seq (ar []) 0, ar []⟩
noncomputable def o68_7 (P : Params) : Obj := ⟨.none, none, .func (fd (sc 6 3) "_netrclex.push_token" 0 (.none) (.none) 0), ar []⟩
noncomputable def o69_7 (P : Params) : Obj := ⟨.type "code", none, .fields (ar [.str (S "push_token") 255, .str (S "_netrclex.push_token") 256, .str (S "/claim/cut.py") 257, .int 62 0, .int 2 0, .int 0 0, .int 0 0, .int 3 0, .ref 64, .bool true, .int 181 0, .ref 65, .none, .ref 66, .ref 67, .ref 68, .int 260 0, .int 62 0, .str (S "/claim/cut.py") 261]), ar []⟩
noncomputable def o70_7 (P : Params) : Obj := ⟨.type "function", none, .func (fd (sc 6 3) "_netrclex.push_token" 3 (.str (S "cpy313.netrc") 215) (.ref 69) 0), ar []⟩
noncomputable def o71_7 (P : Params) : Obj := ⟨.type "tuple", none, .seq (ar [.str (S "instream") 263, .str (S "lineno") 264, .str (S "pushback") 265, .str (S "whitespace") 266]) 0, ar []⟩
noncomputable def o72_7 (P : Params) : Obj := ⟨.type "dict", none, .dict (ar [e P "__module__" 224 (.str (S "cpy313.netrc") 215), e P "__firstlineno__" 228 (.int 21 227), e P "__init__" 236 (.ref 49), e P "_read_char" 244 (.ref 56), e P "get_token" 254 (.ref 63), e P "push_token" 262 (.ref 70), e P "__static_attributes__" 267 (.ref 71), e P "__dict__" 269 (.ref 74), e P "__weakref__" 271 (.ref 75), e P "__doc__" 272 (.none)]) 4, ar []⟩
noncomputable def o73_7 (P : Params) : Obj := ⟨.type "type", none, .cls ⟨S "_netrclex", [.type "object"], [.ref 73, .type "object"], 72, S "_netrclex", true, [], [], false, none, false⟩, ar [none, none, some (.str (S "_netrclex") 217), some (.str (S "_netrclex") 225), some (.builtin "object.__new__"), some (.bool true)]⟩
noncomputable def o74_7 (P : Params) : Obj := ⟨.type "getset_descriptor", none, .fields (ar [.str (S "__dict__") 268, .ref 73, .builtin "function.__dict__", .builtin "function.__dict__#set"]), ar []⟩
noncomputable def o75_7 (P : Params) : Obj := ⟨.type "getset_descriptor", none, .fields (ar [.str (S "__weakref__") 270, .ref 73, .builtin "ExceptionGroup.__weakref__", .none]), ar []⟩
noncomputable def o76_7 (P : Params) : Obj := ⟨.type "super", none, .fields (ar [.ref 73, .ref 73, .ref 73]), ar []⟩
noncomputable def o77_7 (P : Params) : Obj := ⟨.type "builtin_function_or_method", none, .fields (ar [.builtin "object.__init_subclass__", .ref 73]), ar []⟩
noncomputable def t7 (P : Params) : BT := .node (boot_o_0 P) (.node (boot_o_1 P) (.node (o3_7 P) (.node (boot_o_7 P) (.node (o15_7 P) (.node (o31_7 P) (.node (o63_7 P) (.nil) (.nil)) (.nil)) (.node (o47_7 P) (.nil) (.nil))) (.node (o23_7 P) (.node (o39_7 P) (.node (o71_7 P) (.nil) (.nil)) (.nil)) (.node (o55_7 P) (.nil) (.nil)))) (.node (o11_a P) (.node (o19_7 P) (.node (o35_7 P) (.node (o67_7 P) (.nil) (.nil)) (.nil)) (.node (o51_7 P) (.nil) (.nil))) (.node (o27_7 P) (.node (o43_7 P) (.node (o75_7 P) (.nil) (.nil)) (.nil)) (.node (o59_7 P) (.nil) (.nil))))) (.node (boot_o_5 P) (.node (boot_o_9 P) (.node (o17_7 P) (.node (o33_7 P) (.node (o65_7 P) (.nil) (.nil)) (.nil)) (.node (o49_7 P) (.nil) (.nil))) (.node (o25_7 P) (.node (o41_7 P) (.node (o73_7 P) (.nil) (.nil)) (.nil)) (.node (o57_7 P) (.nil) (.nil)))) (.node (o13_a P) (.node (o21_7 P) (.node (o37_7 P) (.node (o69_7 P) (.nil) (.nil)) (.nil)) (.node (o53_7 P) (.nil) (.nil))) (.node (o29_7 P) (.node (o45_7 P) (.node (o77_7 P) (.nil) (.nil)) (.nil)) (.node (o61_7 P) (.nil) (.nil)))))) (.node (boot_o_2 P) (.node (boot_o_4 P) (.node (boot_o_8 P) (.node (o16_7 P) (.node (o32_7 P) (.node (o64_7 P) (.nil) (.nil)) (.nil)) (.node (o48_7 P) (.nil) (.nil))) (.node (o24_7 P) (.node (o40_7 P) (.node (o72_7 P) (.nil) (.nil)) (.nil)) (.node (o56_7 P) (.nil) (.nil)))) (.node (o12_7 P) (.node (o20_7 P) (.node (o36_7 P) (.node (o68_7 P) (.nil) (.nil)) (.nil)) (.node (o52_7 P) (.nil) (.nil))) (.node (o28_7 P) (.node (o44_7 P) (.node (o76_7 P) (.nil) (.nil)) (.nil)) (.node (o60_7 P) (.nil) (.nil))))) (.node (boot_o_6 P) (.node (boot_o_10 P) (.node (o18_7 P) (.node (o34_7 P) (.node (o66_7 P) (.nil) (.nil)) (.nil)) (.node (o50_7 P) (.nil) (.nil))) (.node (o26_7 P) (.node (o42_7 P) (.node (o74_7 P) (.nil) (.nil)) (.nil)) (.node (o58_7 P) (.nil) (.nil)))) (.node (o14_a P) (.node (o22_7 P) (.node (o38_7 P) (.node (o70_7 P) (.nil) (.nil)) (.nil)) (.node (o54_7 P) (.nil) (.nil))) (.node (o30_7 P) (.node (o46_7 P) (.nil) (.nil)) (.node (o62_7 P) (.nil) (.nil))))))
noncomputable def o3_8 (P : Params) : Obj := ⟨.type "dict", none, .dict (ar [e P "__name__" 165 (.str (S "cpy313.stringprep") 275), e P "__doc__" 166 (.none), e P "__package__" 167 (.none), e P "__loader__" 168 (.builtin "__main__.__loader__#opaque"), e P "__spec__" 169 (.none), e P "__annotations__" 170 (.ref 6), e P "__builtins__" 171 (.ref 4), e P "__file__" 173 (.str (S "/claim/cut.py") 172), e P "__cached__" 174 (.none), e P "_wall" 193 (.ref 21), e P "_strcoll" 203 (.ref 28), e P "CHAR_MAX" 205 (.int 127 204), e P "_grouping_intervals" 214 (.ref 35), e P "_netrclex" 274 (.ref 73), e P "b1_set" 336 (.ref 85)]) 15, ar []⟩
noncomputable def o78_8 (P : Params) : Obj := ⟨.type "list", none, .seq (ar [.int 173 277, .int 847 278, .int 6150 279, .int 6155 280, .int 6156 281, .int 6157 282, .int 8203 283, .int 8204 284, .int 8205 285, .int 8288 286, .int 65279 287]) 0, ar []⟩
noncomputable def o79_8 (P : Params) : Obj := ⟨.type "range", none, .fields (ar [.int 65024 288, .int 65040 289, .int 1 290]), ar []⟩
noncomputable def o80_8 (P : Params) : Obj := ⟨.type "list", none, .seq (ar [.int 65024 293, .int 65025 294, .int 65026 295, .int 65027 296, .int 65028 297, .int 65029 298, .int 65030 299, .int 65031 300, .int 65032 301, .int 65033 302, .int 65034 303, .int 65035 304, .int 65036 305, .int 65037 306, .int 65038 307, .int 65039 308]) 18, ar []⟩
noncomputable def o81_8 (P : Params) : Obj := ⟨.type "range_iterator", none, .fields (ar [.int 65040 0, .int 0 0, .int 1 0]), ar []⟩
noncomputable def o82_8 (P : Params) : Obj := ⟨.type "tuple", none, .seq (ar []) 0, ar []⟩
noncomputable def o83_8 (P : Params) : Obj := ⟨.type "StopIteration", none, .fields (ar [.ref 82, .none, .none, .none, .bool false, .none]), ar []⟩
noncomputable def o84_8 (P : Params) : Obj := ⟨.type "list", none, .seq (ar [.int 173 277, .int 847 278, .int 6150 279, .int 6155 280, .int 6156 281, .int 6157 282, .int 8203 283, .int 8204 284, .int 8205 285, .int 8288 286, .int 65279 287, .int 65024 293, .int 65025 294, .int 65026 295, .int 65027 296, .int 65028 297, .int 65029 298, .int 65030 299, .int 65031 300, .int 65032 301, .int 65033 302, .int 65034 303, .int 65035 304, .int 65036 305, .int 65037 306, .int 65038 307, .int 65039 308]) 0, ar []⟩
noncomputable def o85_8 (P : Params) : Obj := ⟨.type "set", none, .set (ar [(65024, .int 65024 293), (65025, .int 65025 294), (65026, .int 65026 295), (65027, .int 65027 296), (65028, .int 65028 297), (65029, .int 65029 298), (6150, .int 6150 279), (65030, .int 65030 299), (65031, .int 65031 300), (65032, .int 65032 301), (65033, .int 65033 302), (6155, .int 6155 280), (6156, .int 6156 281), (6157, .int 6157 282), (8203, .int 8203 283), (8204, .int 8204 284), (8205, .int 8205 285), (65034, .int 65034 303), (65035, .int 65035 304), (65036, .int 65036 305), (65037, .int 65037 306), (65038, .int 65038 307), (65039, .int 65039 308), (173, .int 173 277), (847, .int 847 278), (8288, .int 8288 286), (65279, .int 65279 287)]) 29 ⟨127, ar [0, 1, 2, 3, 4, 5, 6, 7, 8, 9, 10, 11, 12, 13, 14, 15, 16, 17, 18, 19, 20, 21, 22, 45, 79, 96, 127], ar [], 0, !P.followText "set-order", 2, true⟩, ar []⟩
noncomputable def o86_8 (P : Params) : Obj := ⟨.type "list_iterator", none, .fields (ar [.none, .int 27 0]), ar []⟩
noncomputable def o87_8 (P : Params) : Obj := ⟨.type "tuple", none, .seq (ar []) 0, ar []⟩
noncomputable def o88_8 (P : Params) : Obj := ⟨.type "StopIteration", none, .fields (ar [.ref 87, .none, .none, .none, .bool false, .none]), ar []⟩
noncomputable def t8 (P : Params) : BT := .node (boot_o_0 P) (.node (boot_o_1 P) (.node (o3_8 P) (.node (boot_o_7 P) (.node (o15_7 P) (.node (o31_7 P) (.node (o63_7 P) (.nil) (.nil)) (.nil)) (.node (o47_7 P) (.node (o79_8 P) (.nil) (.nil)) (.nil))) (.node (o23_7 P) (.node (o39_7 P) (.node (o71_7 P) (.nil) (.nil)) (.nil)) (.node (o55_7 P) (.node (o87_8 P) (.nil) (.nil)) (.nil)))) (.node (o11_a P) (.node (o19_7 P) (.node (o35_7 P) (.node (o67_7 P) (.nil) (.nil)) (.nil)) (.node (o51_7 P) (.node (o83_8 P) (.nil) (.nil)) (.nil))) (.node (o27_7 P) (.node (o43_7 P) (.node (o75_7 P) (.nil) (.nil)) (.nil)) (.node (o59_7 P) (.nil) (.nil))))) (.node (boot_o_5 P) (.node (boot_o_9 P) (.node (o17_7 P) (.node (o33_7 P) (.node (o65_7 P) (.nil) (.nil)) (.nil)) (.node (o49_7 P) (.node (o81_8 P) (.nil) (.nil)) (.nil))) (.node (o25_7 P) (.node (o41_7 P) (.node (o73_7 P) (.nil) (.nil)) (.nil)) (.node (o57_7 P) (.nil) (.nil)))) (.node (o13_a P) (.node (o21_7 P) (.node (o37_7 P) (.node (o69_7 P) (.nil) (.nil)) (.nil)) (.node (o53_7 P) (.node (o85_8 P) (.nil) (.nil)) (.nil))) (.node (o29_7 P) (.node (o45_7 P) (.node (o77_7 P) (.nil) (.nil)) (.nil)) (.node (o61_7 P) (.nil) (.nil)))))) (.node (boot_o_2 P) (.node (boot_o_4 P) (.node (boot_o_8 P) (.node (o16_7 P) (.node (o32_7 P) (.node (o64_7 P) (.nil) (.nil)) (.nil)) (.node (o48_7 P) (.node (o80_8 P) (.nil) (.nil)) (.nil))) (.node (o24_7 P) (.node (o40_7 P) (.node (o72_7 P) (.nil) (.nil)) (.nil)) (.node (o56_7 P) (.node (o88_8 P) (.nil) (.nil)) (.nil)))) (.node (o12_7 P) (.node (o20_7 P) (.node (o36_7 P) (.node (o68_7 P) (.nil) (.nil)) (.nil)) (.node (o52_7 P) (.node (o84_8 P) (.nil) (.nil)) (.nil))) (.node (o28_7 P) (.node (o44_7 P) (.node (o76_7 P) (.nil) (.nil)) (.nil)) (.node (o60_7 P) (.nil) (.nil))))) (.node (boot_o_6 P) (.node (boot_o_10 P) (.node (o18_7 P) (.node (o34_7 P) (.node (o66_7 P) (.nil) (.nil)) (.nil)) (.node (o50_7 P) (.node (o82_8 P) (.nil) (.nil)) (.nil))) (.node (o26_7 P) (.node (o42_7 P) (.node (o74_7 P) (.nil) (.nil)) (.nil)) (.node (o58_7 P) (.nil) (.nil)))) (.node (o14_a P) (.node (o22_7 P) (.node (o38_7 P) (.node (o70_7 P) (.nil) (.nil)) (.nil)) (.node (o54_7 P) (.node (o86_8 P) (.nil) (.nil)) (.nil))) (.node (o30_7 P) (.node (o46_7 P) (.node (o78_8 P) (.nil) (.nil)) (.nil)) (.node (o62_7 P) (.nil) (.nil))))))
noncomputable def o3_9 (P : Params) : Obj := ⟨.type "dict", none, .dict (ar [e P "__name__" 165 (.str (S "cpy313.stringprep") 275), e P "__doc__" 166 (.none), e P "__package__" 167 (.none), e P "__loader__" 168 (.builtin "__main__.__loader__#opaque"), e P "__spec__" 169 (.none), e P "__annotations__" 170 (.ref 6), e P "__builtins__" 171 (.ref 4), e P "__file__" 173 (.str (S "/claim/cut.py") 172), e P "__cached__" 174 (.none), e P "_wall" 193 (.ref 21), e P "_strcoll" 203 (.ref 28), e P "CHAR_MAX" 205 (.int 127 204), e P "_grouping_intervals" 214 (.ref 35), e P "_netrclex" 274 (.ref 73), e P "b1_set" 336 (.ref 85), e P "in_table_b1" 343 (.ref 95)]) 16, ar []⟩
noncomputable def o12_9 (P : Params) : Obj := ⟨.none, none, .fields (ar [.int 1 0, .int 0 0, .ref 20, .int 5 0, .int 0 0, .ref 27, .int 8 0, .int 0 0, .ref 34, .int 21 0, .int 0 0, .ref 41, .int 66 0, .int 0 0, .ref 94]), ar []⟩
noncomputable def o89_9 (P : Params) : Obj := ⟨.type "tuple", none, .seq (ar []) 0, ar []⟩
noncomputable def o90_9 (P : Params) : Obj := ⟨.none, none, .fields (ar []), ar []⟩
noncomputable def o91_9 (P : Params) : Obj := ⟨.type "tuple", none, .seq (ar [.str (S "code") 340]) 0, ar []⟩
noncomputable def o92_9 (P : Params) : Obj := ⟨.type "tuple", none, .seq (ar []) 0, ar []⟩
noncomputable def o93_9 (P : Params) : Obj := ⟨.none, none, .func (fd (st 9) "in_table_b1" 0 (.none) (.none) 0), ar []⟩
noncomputable def o94_9 (P : Params) : Obj := ⟨.type "code", none, .fields (ar [.str (S "in_table_b1") 337, .str (S "in_table_b1") 338, .str (S "/claim/cut.py") 339, .int 66 0, .int 1 0, .int 0 0, .int 0 0, .int 3 0, .ref 89, .bool true, .int 181 0, .ref 90, .none, .ref 91, .ref 92, .ref 93, .int 341 0, .int 66 0, .str (S "/claim/cut.py") 342]), ar []⟩
noncomputable def o95_9 (P : Params) : Obj := ⟨.type "function", none, .func (fd (st 9) "in_table_b1" 3 (.str (S "cpy313.stringprep") 275) (.ref 94) 0), ar []⟩
noncomputable def t9 (P : Params) : BT := .node (boot_o_0 P) (.node (boot_o_1 P) (.node (o3_9 P) (.node (boot_o_7 P) (.node (o15_7 P) (.node (o31_7 P) (.node (o63_7 P) (.nil) (.nil)) (.node (o95_9 P) (.nil) (.nil))) (.node (o47_7 P) (.node (o79_8 P) (.nil) (.nil)) (.nil))) (.node (o23_7 P) (.node (o39_7 P) (.node (o71_7 P) (.nil) (.nil)) (.nil)) (.node (o55_7 P) (.node (o87_8 P) (.nil) (.nil)) (.nil)))) (.node (o11_a P) (.node (o19_7 P) (.node (o35_7 P) (.node (o67_7 P) (.nil) (.nil)) (.nil)) (.node (o51_7 P) (.node (o83_8 P) (.nil) (.nil)) (.nil))) (.node (o27_7 P) (.node (o43_7 P) (.node (o75_7 P) (.nil) (.nil)) (.nil)) (.node (o59_7 P) (.node (o91_9 P) (.nil) (.nil)) (.nil))))) (.node (boot_o_5 P) (.node (boot_o_9 P) (.node (o17_7 P) (.node (o33_7 P) (.node (o65_7 P) (.nil) (.nil)) (.nil)) (.node (o49_7 P) (.node (o81_8 P) (.nil) (.nil)) (.nil))) (.node (o25_7 P) (.node (o41_7 P) (.node (o73_7 P) (.nil) (.nil)) (.nil)) (.node (o57_7 P) (.node (o89_9 P) (.nil) (.nil)) (.nil)))) (.node (o13_a P) (.node (o21_7 P) (.node (o37_7 P) (.node (o69_7 P) (.nil) (.nil)) (.nil)) (.node (o53_7 P) (.node (o85_8 P) (.nil) (.nil)) (.nil))) (.node (o29_7 P) (.node (o45_7 P) (.node (o77_7 P) (.nil) (.nil)) (.nil)) (.node (o61_7 P) (.node (o93_9 P) (.nil) (.nil)) (.nil)))))) (.node (boot_o_2 P) (.node (boot_o_4 P) (.node (boot_o_8 P) (.node (o16_7 P) (.node (o32_7 P) (.node (o64_7 P) (.nil) (.nil)) (.nil)) (.node (o48_7 P) (.node (o80_8 P) (.nil) (.nil)) (.nil))) (.node (o24_7 P) (.node (o40_7 P) (.node (o72_7 P) (.nil) (.nil)) (.nil)) (.node (o56_7 P) (.node (o88_8 P) (.nil) (.nil)) (.nil)))) (.node (o12_9 P) (.node (o20_7 P) (.node (o36_7 P) (.node (o68_7 P) (.nil) (.nil)) (.nil)) (.node (o52_7 P) (.node (o84_8 P) (.nil) (.nil)) (.nil))) (.node (o28_7 P) (.node (o44_7 P) (.node (o76_7 P) (.nil) (.nil)) (.nil)) (.node (o60_7 P) (.node (o92_9 P) (.nil) (.nil)) (.nil))))) (.node (boot_o_6 P) (.node (boot_o_10 P) (.node (o18_7 P) (.node (o34_7 P) (.node (o66_7 P) (.nil) (.nil)) (.nil)) (.node (o50_7 P) (.node (o82_8 P) (.nil) (.nil)) (.nil))) (.node (o26_7 P) (.node (o42_7 P) (.node (o74_7 P) (.nil) (.nil)) (.nil)) (.node (o58_7 P) (.node (o90_9 P) (.nil) (.nil)) (.nil)))) (.node (o14_a P) (.node (o22_7 P) (.node (o38_7 P) (.node (o70_7 P) (.nil) (.nil)) (.nil)) (.node (o54_7 P) (.node (o86_8 P) (.nil) (.nil)) (.nil))) (.node (o30_7 P) (.node (o46_7 P) (.node (o78_8 P) (.nil) (.nil)) (.nil)) (.node (o62_7 P) (.node (o94_9 P) (.nil) (.nil)) (.nil))))))
noncomputable abbrev ann : Option Value := some (.ref 6)
noncomputable abbrev p0 : Pos := ⟨0, 0, 0, 0⟩
noncomputable def env0 : Env := { scope := pw.main.scope, locals := mainNs, globals := mainNs, cells := [], code := .ref 13, frame := some 14 }
noncomputable abbrev cB : Code := .body (behindTheImports pw) env0
noncomputable abbrev bB : List Frame := [topFrame p0]
noncomputable abbrev sT (t : Params → BT) (n k : Nat) (w : World) (os : OsState) : SharedT := ⟨t w.params, n, {}, #[], boot_drawn, k, os⟩
end Mine
end
section
open PySem PySem.W PyProof.Rows
namespace Mine
section
noncomputable def Go {α : Type} (w : World) (n : Nat) (s : Shared) (q : Pos) (m : Sem α) (a : α) (s' : Shared) (q' : Pos) : Prop :=
  ∀ (K : α → Sem Fin) (H : Value → Sem Fin) (gd : Bool → Bool) (lv : List Value → List Value),
    segGo treeTable pw w 11 ann 1 n s ⟨m.wrap K H gd lv, cB, q, bB⟩ = some (s', ⟨K a, cB, q', bB⟩)
theorem segGo_add {w : World} {k : Nat} {s1 : Shared} {t1 : Thread} : ∀ {n : Nat} {s : Shared} {t : Thread}, segGo treeTable pw w 11 ann 1 n s t = some (s1, t1) →
    segGo treeTable pw w 11 ann 1 (n + k) s t = segGo treeTable pw w 11 ann 1 k s1 t1
  | 0, s, t, h => by
    simp only [segGo, Option.some.injEq, Prod.mk.injEq] at h
    obtain ⟨rfl, rfl⟩ := h
    rw [Nat.zero_add]
  | n + 1, s, t, h => by
    rw [show n + 1 + k = n + k + 1 by omega]
    unfold segGo at h
    conv => lhs; unfold segGo
    cases he : endAt 1 t with
    | some f => rw [he] at h; cases h
    | none =>
      rw [he] at h
      cases hk : stepOk 11 ann t with
      | false => rw [hk] at h; cases h
      | true =>
        rw [hk] at h
        cases hs : step (denote treeTable) pw w s t with
        | halt o s₂ => rw [hs] at h; cases h
        | go s₂ t₂ => rw [hs] at h; exact segGo_add h
variable {α β : Type} {w : World} {s s1 s2 : Shared} {q q1 q2 : Pos}
theorem go_pure {a : α} : Go w 0 s q (pure a) a s q := fun _ _ _ _ => rfl
theorem go_bind {n k : Nat} {m : Sem α} {f : α → Sem β} {a : α} {b : β} (x : Go w n s q m a s1 q1) (y : Go w k s1 q1 (f a) b s2 q2) : Go w (n + k) s q (m >>= f) b s2 q2 := fun K H gd lv => by
  rw [Sem.bind_eq_wrap', Sem.wrap_wrap]
  have := x (fun a => (f a).wrap K H gd lv) H gd lv
  rw [show (m.wrap (fun x => (f x).wrap K H gd lv) (fun e => (Sem.raise e).wrap K H gd lv) (fun x => gd (id x)) fun l => lv (id l)) = m.wrap (fun a => (f a).wrap K H gd lv) H gd lv from rfl]
  rw [segGo_add this]
  exact y K H gd lv
theorem go_load {a : Addr} {o : Obj} (h : s.heap.get? a = some o) : Go w 1 s q (load a) o s q := fun K H gd lv => by
  obtain ⟨heap, gens, drawn, toks, os⟩ := s
  show (match step (denote treeTable) pw w ⟨heap, gens, drawn, toks, os⟩ ⟨.load a none fun x => K x, cB, q, bB⟩ with | .go s' t' => segGo treeTable pw w 11 ann 1 0 s' t' | .halt _ _ => none) = _
  simp only [step, h]
  rfl
theorem go_loadPart {a : Addr} {part : Option Value} {o : Obj} (h : s.heap.get? a = some o) : Go w 1 s q (loadPart a part) o s q := fun K H gd lv => by
  obtain ⟨heap, gens, drawn, toks, os⟩ := s
  show (match step (denote treeTable) pw w ⟨heap, gens, drawn, toks, os⟩ ⟨.load a part fun x => K x, cB, q, bB⟩ with | .go s' t' => segGo treeTable pw w 11 ann 1 0 s' t' | .halt _ _ => none) = _
  simp only [step, h]
  rfl
theorem go_updatePart {a : Addr} {part : Option Value} {f : Obj → Obj} {o : Obj} (hb : Nat.ble 11 a = true) (h : s.heap.get? a = some o) : Go w 1 s q (updatePart a part f) () { s with heap := s.heap.update a f } q := fun K H gd lv => by
  obtain ⟨heap, gens, drawn, toks, os⟩ := s
  have hk : stepOk 11 ann ⟨.update a part f fun x => K x, cB, q, bB⟩ = true := by
    show (Thread.calm _ && (Nat.ble 11 a || _ || _ || _)) = true
    rw [hb]; rfl
  show (match stepOk 11 ann ⟨.update a part f fun x => K x, cB, q, bB⟩ with | false => none | true => match step (denote treeTable) pw w ⟨heap, gens, drawn, toks, os⟩ ⟨.update a part f fun x => K x, cB, q, bB⟩ with | .go s' t' => segGo treeTable pw w 11 ann 1 0 s' t' | .halt _ _ => none) = _
  rw [hk]
  simp only [step, h]
  rfl
theorem go_alloc {o : Obj} : Go w 1 s q (alloc o) s.heap.objs.size { s with heap := s.heap.push o } q := fun K H gd lv => rfl
theorem go_fresh : Go w 1 s q fresh s.toks { s with toks := s.toks + 1 } q := fun K H gd lv => rfl
theorem go_rule {t : String} : Go w 1 s q (rule t) () s q := fun K H gd lv => rfl
theorem go_standAt {p : Pos} : Go w 1 s q (standAt p) () s p := fun K H gd lv => rfl
theorem go_mono {n : Nat} {m : Sem α} {a : α} (x : Go w n s q m a s1 q1) {k : Nat} {b : α} {s' : Shared} {q' : Pos} (h1 : n = k := by first | rfl | omega) (h2 : a = b := by rfl) (h3 : s1 = s' := by rfl) (h4 : q1 = q' := by rfl) : Go w k s q m b s' q' := by
  subst h1 h2 h3 h4; exact x
theorem go_wrap {n : Nat} {m : Sem α} {a : α} (x : Go w n s q m a s1 q1) {H' : Value → Sem α} {gd' : Bool → Bool} {lv' : List Value → List Value} : Go w n s q (m.wrap .pure H' gd' lv') a s1 q1 := fun K H gd lv => by
  rw [Sem.wrap_wrap]
  exact x K (fun e => (H' e).wrap K H gd lv) (fun b => gd (gd' b)) (fun l => lv (lv' l))
theorem go_onRaise {n : Nat} {m : Sem α} {a : α} {h : Value → Sem Unit} (x : Go w n s q m a s1 q1) : Go w n s q (m.onRaise h) a s1 q1 := by
  rw [Sem.onRaise_eq_wrap]; exact go_wrap x
theorem go_tryCatch {n : Nat} {m : Sem α} {a : α} {h : Value → Sem α} (x : Go w n s q m a s1 q1) : Go w n s q (tryCatch m h) a s1 q1 := by
  show Go w n s q (m.tryCatch h) a s1 q1
  rw [Sem.tryCatch_eq_wrap]; exact go_wrap x
theorem go_holding {n : Nat} {m : Sem α} {a : α} {vs : List Value} (x : Go w n s q m a s1 q1) : Go w n s q (holding vs m) a s1 q1 := by
  unfold holding
  split
  · exact x
  · rw [Sem.keep_eq_wrap]; exact go_wrap x
theorem go_of_eq {n : Nat} {m m' : Sem α} {a : α} (e : m' = m) (x : Go w n s q m a s1 q1) : Go w n s q m' a s1 q1 := e ▸ x
theorem go_callHash (k : Int) (t : Tok) (h : Sem Value) : Go w 5 s q (callSpecialIfBoundUnlessNone? (.int k t) "__hash__" h) (some (.int (intHash k) s.toks)) { s with toks := s.toks + 1 } q :=
  byRow2 "special-get-raises" (P := fun w => Go w 5 s q (callSpecialIfBoundUnlessNone? (.int k t) "__hash__" h) (some (.int (intHash k) s.toks)) { s with toks := s.toks + 1 } q)
    (fun w K H gd lv => by rw [PySem.W.Fast.te14364793385576792824]; kernel_rfl) (fun w K H gd lv => by rw [PySem.W.Fast.te14364793385576792824]; kernel_rfl) w
end
section
variable {α β : Type} {w : World} {s s1 s2 : Shared} {q q1 q2 : Pos}
theorem go_special (k : Int) (t : Tok) : Go w 0 s q (specialOf (.int k t) "__hash__") (some (.builtin "int.__hash__")) s q := fun K H gd lv => by kernel_rfl
theorem intHash_small {k : Int} (h0 : 0 ≤ k) (h1 : k < 2 ^ 60) : intHash k = k := by
  unfold intHash
  obtain ⟨n, rfl⟩ := Int.eq_ofNat_of_zero_le h0
  have hn : n < 2 ^ 60 := by omega
  have e : ((((n : Int).natAbs : Nat) : Int) % ((2 ^ 61 - 1 : Nat) : Int)) = n := by
    rw [Int.natAbs_natCast]; exact Int.emod_eq_of_lt (by omega) (by omega)
  dsimp only
  rw [e, if_neg (by omega : ¬ ((n : Int) < 0)), if_neg (by simp only [beq_iff_eq]; omega)]
theorem go_hash {k : Int} {t : Tok} (h0 : 0 ≤ k) (h1 : k < 2 ^ 60) : Go w 5 s q (pyHash (.int k t)) k { s with toks := s.toks + 1 } q := by
  show Go w 5 s q (pyHashByItsType (.int k t)) k { s with toks := s.toks + 1 } q
  unfold pyHashByItsType
  refine go_mono (go_bind (n := 0) (k := 5) (a := ()) (s1 := s) (q1 := q) (fun K H gd lv => by rfl) ?_)
  refine go_mono (go_bind (n := 0) (k := 5) (go_special k t) ?_)
  refine go_of_eq (if_neg (by decide)) ?_
  refine go_mono (go_bind (n := 0) (k := 5) (go_special k t) ?_)
  refine go_of_eq (if_neg (by decide)) ?_
  refine go_mono (go_bind (n := 5) (k := 0) (go_callHash k t _) ?_)
  show Go w 0 _ q (pyHashByItsType.reduced (intHash k)) k _ q
  rw [intHash_small h0 h1]
  unfold pyHashByItsType.reduced
  refine go_of_eq (if_pos (by simp only [Bool.and_eq_true, decide_eq_true_eq]; omega)) ?_
  refine go_mono go_pure (h2 := if_neg (by simp only [beq_iff_eq]; omega))
end
section
variable {α β : Type} {w : World} {s s1 s2 : Shared} {q q1 q2 : Pos}
noncomputable def sumTo (c : Nat → Nat) : Nat → Nat
  | 0 => 0
  | n + 1 => c 0 + sumTo (fun i => c (i + 1)) n
theorem sumTo_const (c : Nat) : ∀ n, sumTo (fun _ => c) n = c * n
  | 0 => rfl
  | n + 1 => by
    show c + sumTo (fun _ => c) n = c * (n + 1)
    rw [sumTo_const c n, Nat.mul_succ, Nat.add_comm]
theorem go_forIn {σ : Type} {f : α → σ → Sem (ForInStep σ)} : ∀ (l : List α) (c : Nat → Nat) (b : Nat → σ) (S : Nat → Shared) (Q : Nat → Pos),
    (∀ i x, l[i]? = some x → Go w (c i) (S i) (Q i) (f x (b i)) (.yield (b (i + 1))) (S (i + 1)) (Q (i + 1))) →
    Go w (sumTo c l.length) (S 0) (Q 0) (forIn l (b 0) f) (b l.length) (S l.length) (Q l.length)
  | [], c, b, S, Q, h => go_pure
  | x :: l, c, b, S, Q, h => by
    have hd := h 0 x rfl
    have tl := go_forIn l (fun i => c (i + 1)) (fun i => b (i + 1)) (fun i => S (i + 1)) (fun i => Q (i + 1)) (fun i y e => h (i + 1) y e)
    rw [List.forIn_cons]
    exact go_bind hd tl
theorem go_dictEntries {a : Addr} {part : Option Value} {o : Obj} {es : Array DictEntry} {n : Nat} (h : s.heap.get? a = some o) (hd : o.data = .dict es n) : Go w 1 s q (dictEntries a part) es s q := by
  unfold dictEntries
  refine go_mono (go_bind (k := 0) (go_loadPart h) ?_)
  rw [hd]; exact go_pure
theorem go_dictEpoch {a : Addr} {part : Option Value} {o : Obj} {es : Array DictEntry} {n : Nat} (h : s.heap.get? a = some o) (hd : o.data = .dict es n) : Go w 1 s q (dictEpoch a part) n s q := by
  unfold dictEpoch
  refine go_mono (go_bind (k := 0) (go_loadPart h) ?_)
  rw [hd]; exact go_pure
theorem places_none {es : Array DictEntry} {h : Int} (hn : ∀ e ∈ es, e.hash ≠ h) : placesWithHash es.size (fun i => es[i]?.map (·.hash)) h = [] := by
  unfold placesWithHash
  rw [List.filter_eq_nil_iff]
  intro i hi
  rw [List.mem_range] at hi
  show ¬ (Option.map (fun x => x.hash) es[i]? == some h) = true
  rw [Array.getElem?_eq_getElem hi]
  simp only [Option.map_some, beq_iff_eq, Option.some.injEq]
  exact hn _ (Array.getElem_mem hi)
theorem go_dictFind {a : Addr} {o : Obj} {es : Array DictEntry} {n : Nat} {k h : Int} {t : Tok} (ho : s.heap.get? a = some o) (hd : o.data = .dict es n) (hn : ∀ e ∈ es, e.hash ≠ h) :
    Go w 1 s q (dictFind a (.int k t) h) none s q := by
  unfold dictFind
  refine go_holding ?_
  refine go_mono (go_bind (k := 0) (go_dictEntries ho hd) ?_)
  dsimp only
  rw [places_none hn]
  exact go_pure
theorem go_lookBehind {a : Addr} {part : Option Value} {o : Obj} (ho : s.heap.get? a = some o) (hp : o.data.pastItsLine = none) : Go w 1 s q (lookBehind a part) () s q := by
  unfold lookBehind
  refine go_mono (go_bind (k := 0) (go_loadPart ho) ?_)
  rw [hp]; exact go_pure
theorem go_updateDictKeys {a : Addr} {part : Option Value} {f : Array DictEntry → Array DictEntry} {es : Array DictEntry} {n : Nat} {cl : Value} {d : Option Addr} {sl : Array (Option Value)} (ha : Nat.ble 11 a = true)
    (ho : s.heap.get? a = some ⟨cl, d, .dict es n, sl⟩) (hz : (f es).size ≤ sizeLine + 1) :
    Go w 3 s q (updateDictKeys a f part) () { s with heap := s.heap.update a (Obj.mapDictKeys f) } q := by
  unfold updateDictKeys
  refine go_mono (go_bind (k := 2) (go_loadPart ho) ?_)
  dsimp only
  refine go_mono (go_bind (k := 1) (go_updatePart ha ho) ?_)
  exact go_lookBehind (o := ⟨cl, d, .dict (f es) (n + 1), sl⟩) (Heap.get?_update_self _ ho rfl) (pastItsLine_dict hz)
theorem go_dictPut {a : Addr} {es : Array DictEntry} {n : Nat} {k h : Int} {t : Tok} {v : Value} {cl : Value} {d : Option Addr} {sl : Array (Option Value)} (ha : Nat.ble 11 a = true)
    (ho : s.heap.get? a = some ⟨cl, d, .dict es n, sl⟩) (hn : ∀ e ∈ es, e.hash ≠ h) (hz : es.size ≤ sizeLine) :
    Go w 4 s q (dictPut a h (.int k t) v) () { s with heap := s.heap.update a (Obj.mapDictKeys (·.push ⟨h, .int k t, v⟩)) } q := by
  unfold dictPut
  refine go_mono (go_bind (n := 1) (k := 3) (go_dictFind ho rfl hn) ?_)
  exact go_updateDictKeys ha ho (by rw [Array.size_push]; omega)
theorem go_dictSet {a : Addr} {es : Array DictEntry} {n : Nat} {k : Int} {t : Tok} {v : Value} {cl : Value} {d : Option Addr} {sl : Array (Option Value)} (ha : Nat.ble 11 a = true) (h0 : 0 ≤ k) (h1 : k < 2 ^ 60)
    (ho : s.heap.get? a = some ⟨cl, d, .dict es n, sl⟩) (hn : ∀ e ∈ es, e.hash ≠ k) (hz : es.size ≤ sizeLine) :
    Go w 10 s q (dictSet a (.int k t) v) () { s with heap := s.heap.update a (Obj.mapDictKeys (·.push ⟨k, .int k t, v⟩)), toks := s.toks + 1 } q := by
  unfold dictSet
  refine go_holding ?_
  refine go_mono (go_bind (n := 5) (k := 5) (go_hash h0 h1) ?_)
  unfold dictSetHashed
  refine go_holding ?_
  refine go_mono (go_bind (n := 1) (k := 4) (go_dictFind (s := { s with toks := s.toks + 1 }) ho rfl hn) ?_)
  refine go_mono (go_bind (n := 1) (k := 3) go_rule ?_)
  exact go_updateDictKeys (s := { s with toks := s.toks + 1 }) ha ho (by rw [Array.size_push]; omega)
end
section
variable {α β : Type} {w : World} {s s1 s2 : Shared} {q q1 q2 : Pos} {P : Params}
noncomputable def base (P : Params) : Heap := absHeap (t9 P) 96 {}
theorem base_size : (base P).objs.size = 96 := absHeap_size _ _ _
noncomputable def hB (P : Params) (es : List DictEntry) (subs : List (List DictEntry)) : Heap := ⟨(base P).objs ++ (dOf es :: subs.map dOf).toArray, {}⟩
noncomputable abbrev sS (P : Params) (es : List DictEntry) (subs : List (List DictEntry)) (tk : Nat) (os : OsState) : Shared := ⟨hB P es subs, #[], boot_drawn, tk, os⟩
theorem dOf_alive {l : List DictEntry} {objs : Array Obj} {lf : Life} {a : Nat} (h : objs[a]? = some (dOf l)) : (Heap.mk objs lf).get? a = some (dOf l) := by
  unfold Heap.get?
  rw [h]; rfl
theorem hB_get96 {es : List DictEntry} {subs : List (List DictEntry)} : (hB P es subs).get? 96 = some (dOf es) := by
  refine dOf_alive ?_
  rw [Array.getElem?_append_right (by rw [base_size]; exact Nat.le_refl _), base_size]
  rfl
theorem hB_size {es : List DictEntry} {subs : List (List DictEntry)} : (hB P es subs).objs.size = 97 + subs.length := by
  show ((base P).objs ++ (dOf es :: subs.map dOf).toArray).size = _
  rw [Array.size_append, base_size, List.size_toArray, List.length_cons, List.length_map]; omega
theorem hB_push {es l : List DictEntry} {subs : List (List DictEntry)} : (hB P es subs).push (dOf l) = hB P es (subs ++ [l]) := by
  show Heap.mk (((base P).objs ++ (dOf es :: subs.map dOf).toArray).push (dOf l)) {} = Heap.mk _ {}
  congr 1
  rw [← Array.toList_inj]
  simp
theorem hB_getLast {es l : List DictEntry} {subs : List (List DictEntry)} : (hB P es (subs ++ [l])).get? (97 + subs.length) = some (dOf l) := by
  refine dOf_alive ?_
  rw [Array.getElem?_append_right (by rw [base_size]; omega), base_size]
  simp [show 97 + subs.length - 96 = subs.length + 1 by omega]
theorem dOf_push (l : List DictEntry) (e : DictEntry) : Obj.mapDictKeys (·.push e) (dOf l) = dOf (l ++ [e]) := by
  show Obj.mk _ _ (.dict ((ar l).push e) (l.length + 1)) _ = Obj.mk _ _ (.dict (ar (l ++ [e])) (l ++ [e]).length) _
  rw [List.length_append, List.length_singleton, show (ar l).push e = ar (l ++ [e]) from by rw [← Array.toList_inj]; simp]
theorem hB_upd96 {es : List DictEntry} {e : DictEntry} {subs : List (List DictEntry)} : (hB P es subs).update 96 (Obj.mapDictKeys (·.push e)) = hB P (es ++ [e]) subs := by
  show Heap.mk (((base P).objs ++ (dOf es :: subs.map dOf).toArray).modify 96 _) {} = Heap.mk _ {}
  congr 1
  apply Array.ext_getElem?
  intro i
  rw [Array.getElem?_modify]
  by_cases h : 96 = i
  · subst h
    rw [if_pos rfl, Array.getElem?_append_right (by rw [base_size]; exact Nat.le_refl _), Array.getElem?_append_right (by rw [base_size]; exact Nat.le_refl _), base_size]
    simp [dOf_push]
  · rw [if_neg h]
    by_cases hi : i < 96
    · rw [Array.getElem?_append_left (by rw [base_size]; exact hi), Array.getElem?_append_left (by rw [base_size]; exact hi)]
    · rw [Array.getElem?_append_right (by rw [base_size]; omega), Array.getElem?_append_right (by rw [base_size]; omega), base_size]
      obtain ⟨k, rfl⟩ : ∃ k, i = 97 + k := ⟨i - 97, by omega⟩
      simp [show 97 + k - 96 = k + 1 by omega]
theorem hB_updLast {es l : List DictEntry} {e : DictEntry} {subs : List (List DictEntry)} : (hB P es (subs ++ [l])).update (97 + subs.length) (Obj.mapDictKeys (·.push e)) = hB P es (subs ++ [l ++ [e]]) := by
  show Heap.mk (((base P).objs ++ (dOf es :: (subs ++ [l]).map dOf).toArray).modify _ _) {} = Heap.mk _ {}
  congr 1
  apply Array.ext_getElem?
  intro i
  rw [Array.getElem?_modify]
  by_cases hi : i < 96
  · rw [if_neg (by omega), Array.getElem?_append_left (by rw [base_size]; exact hi), Array.getElem?_append_left (by rw [base_size]; exact hi)]
  · rw [Array.getElem?_append_right (by rw [base_size]; omega), Array.getElem?_append_right (by rw [base_size]; omega), base_size]
    by_cases h : 97 + subs.length = i
    · subst h
      rw [if_pos rfl]
      simp [show 97 + subs.length - 96 = subs.length + 1 by omega, dOf_push]
    · rw [if_neg h]
      obtain ⟨k, rfl⟩ : ∃ k, i = 96 + k := ⟨i - 96, by omega⟩
      rw [show 96 + k - 96 = k by omega]
      cases k with
      | zero => simp
      | succ k =>
        simp only [List.getElem?_toArray, List.getElem?_cons_succ, List.map_append, List.map_cons, List.map_nil]
        by_cases hk : k < subs.length
        · rw [List.getElem?_append_left (by simpa using hk), List.getElem?_append_left (by simpa using hk)]
        · rw [List.getElem?_append_right (by simpa using hk), List.getElem?_append_right (by simpa using hk)]
          obtain ⟨j, rfl⟩ : ∃ j, k = subs.length + 1 + j := ⟨k - subs.length - 1, by omega⟩
          simp [show subs.length + 1 + j - subs.length = j + 1 by omega]
end
section
variable {α β : Type} {w : World} {s s1 s2 : Shared} {q q1 q2 : Pos} {P : Params} {os : OsState}
structure It where
  k : Int
  v : Str
  a : Nat
  p : Pos
  c : Nat
  r : Pos
noncomputable def It.ke (x : It) : Expr := .Constant (.int x.k) x.a x.p
noncomputable def It.ve (x : It) : Expr := .Constant (.str x.v) x.c x.r
noncomputable def b3pos : Pos := match st 10 with | .Assign _ (.Dict _ _ p) _ => p | _ => p0
noncomputable def mkp (x : It) : Sem Value × Sem Value := (eval x.ke env0, do let y ← eval x.ve env0; standAt b3pos; pure y)
theorem go_key (x : It) : Go w 1 s q (mkp x).1 (.int x.k s.toks) { s with toks := s.toks + 1 } q := fun K H gd lv => rfl
theorem go_val (x : It) : Go w 2 s q (mkp x).2 (.str x.v s.toks) { s with toks := s.toks + 1 } b3pos := fun K H gd lv => rfl
noncomputable def entL : Nat → List It → List DictEntry
  | _, [] => []
  | t, x :: l => ⟨x.k, .int x.k t, .str x.v (t + 1)⟩ :: entL (t + 3) l
theorem entL_append : ∀ (l1 l2 : List It) (t : Nat), entL t (l1 ++ l2) = entL t l1 ++ entL (t + 3 * l1.length) l2
  | [], l2, t => rfl
  | x :: l1, l2, t => by
    show _ :: entL (t + 3) (l1 ++ l2) = _
    rw [entL_append l1 l2 (t + 3), show t + 3 + 3 * l1.length = t + 3 * (x :: l1).length by rw [List.length_cons]; omega]
    rfl
theorem entL_length : ∀ (l : List It) (t : Nat), (entL t l).length = l.length
  | [], _ => rfl
  | _ :: l, t => congrArg (· + 1) (entL_length l (t + 3))
theorem entL_mem : ∀ (l : List It) (t : Nat) (e : DictEntry), e ∈ entL t l → ∃ x ∈ l, e.hash = x.k ∧ ∃ u, e.key = .int x.k u
  | [], _, _, h => nomatch h
  | x :: l, t, e, h => by
    rcases List.mem_cons.mp h with rfl | h
    · exact ⟨x, .head _, rfl, _, rfl⟩
    · obtain ⟨y, hy, r⟩ := entL_mem l (t + 3) e h
      exact ⟨y, .tail _ hy, r⟩
theorem entL_take_succ (l : List It) (t i : Nat) (x : It) (h : l[i]? = some x) : entL t (l.take (i + 1)) = entL t (l.take i) ++ [⟨x.k, .int x.k (t + 3 * i), .str x.v (t + 3 * i + 1)⟩] := by
  have hi : i < l.length := (List.getElem?_eq_some_iff.mp h).1
  rw [List.take_add_one, h, entL_append, List.length_take, Nat.min_eq_left (Nat.le_of_lt hi)]
  rfl
noncomputable def Good (l : List It) : Prop := (∀ x ∈ l, 0 ≤ x.k ∧ x.k < 2 ^ 60) ∧ l.Pairwise (fun x y => x.k ≠ y.k)
theorem good_part {l1 l2 : List It} (h : Good (l1 ++ l2)) : ∀ x ∈ l1, ∀ y ∈ l2, x.k ≠ y.k := (List.pairwise_append.mp h.2).2.2
/-- a heap that grows one dict at a: G of its entries -/
structure Grows (G : List DictEntry → Heap) (a : Addr) : Prop where
  get : ∀ l, (G l).get? a = some (dOf l)
  upd : ∀ l e, (G l).update a (Obj.mapDictKeys (·.push e)) = G (l ++ [e])
theorem grows96 (subs : List (List DictEntry)) : Grows (fun l => hB P l subs) 96 := ⟨fun _ => hB_get96, fun _ _ => hB_upd96⟩
theorem growsLast (es : List DictEntry) (subs : List (List DictEntry)) : Grows (fun l => hB P es (subs ++ [l])) (97 + subs.length) := ⟨fun _ => hB_getLast, fun _ _ => hB_updLast⟩
theorem take_hash {l : List It} (g : Good l) {i : Nat} {x : It} (h : l[i]? = some x) (t : Nat) : ∀ e ∈ ar (entL t (l.take i)), e.hash ≠ x.k := by
  intro e he
  obtain ⟨y, hy, e1, _⟩ := entL_mem _ _ e (by simpa using he)
  rw [e1]
  have hi : i < l.length := (List.getElem?_eq_some_iff.mp h).1
  have : l = l.take i ++ l.drop i := (List.take_append_drop i l).symm
  refine good_part (this ▸ g) y hy x ?_
  rw [List.mem_iff_getElem?]
  exact ⟨0, by rw [List.getElem?_drop, Nat.add_zero, h]⟩
theorem go_sub_long {G : List DictEntry → Heap} {a : Addr} {h0 : Heap} {l : List It} {tk : Nat} (gr : Grows G a) (ha : Nat.ble 11 a = true) (e0 : h0.push (dOf []) = G []) (ea : h0.objs.size = a) (hl : 16 ≤ l.length) (hz : l.length ≤ sizeLine) (g : Good l) :
    Go w (2 + 13 * l.length) ⟨h0, #[], boot_drawn, tk, os⟩ q (subDict (l.map mkp)) a ⟨G (entL tk l), #[], boot_drawn, tk + 3 * l.length, os⟩ b3pos := by
  unfold subDict
  refine go_mono (go_bind (n := 1) (k := 1 + 13 * l.length) go_alloc ?_)
  dsimp only
  rw [ea]
  refine go_mono (go_bind (n := 1 + 13 * l.length) (k := 0) (a := ()) (s1 := ⟨G (entL tk l), #[], boot_drawn, tk + 3 * l.length, os⟩) (q1 := b3pos) (go_holding ?_) (go_pure (a := a)))
  refine go_of_eq (if_neg (by rw [List.length_map]; omega)) ?_
  refine go_mono (go_bind (n := 1) (k := 13 * l.length) go_rule ?_)
  have key := go_forIn (w := w) (σ := PUnit) (f := fun (x : Sem Value × Sem Value) (_ : PUnit) => do
      let kv ← x.1
      let vv ← holding [kv] x.2
      holding [kv, vv] (dictSet a kv vv)
      pure (ForInStep.yield PUnit.unit)) (l.map mkp) (fun _ => 13) (fun _ => PUnit.unit)
    (fun i => ⟨G (entL tk (l.take i)), #[], boot_drawn, tk + 3 * i, os⟩) (fun i => if i = 0 then q else b3pos) (fun i x hx => ?_)
  · rw [sumTo_const, List.length_map] at key
    rw [show h0.push { cls := Value.type "dict", dict := none, data := Data.dict #[] 0 } = G [] from e0]
    refine go_mono (go_bind (k := 0) key go_pure) (h3 := by rw [List.take_length]) (h4 := if_neg (by omega))
  · rw [List.getElem?_map] at hx
    obtain ⟨y, hy, rfl⟩ := Option.map_eq_some_iff.mp hx
    have hi : i < l.length := (List.getElem?_eq_some_iff.mp hy).1
    have hm : y ∈ l := List.mem_of_getElem? hy
    refine go_mono (go_bind (n := 1) (k := 12) (go_key y) ?_)
    refine go_mono (go_bind (n := 2) (k := 10) (go_holding (go_val y)) ?_)
    have hsz : (ar (entL tk (l.take i))).size ≤ sizeLine := by
      show (entL tk (l.take i)).length ≤ sizeLine
      rw [entL_length, List.length_take]; omega
    have set := go_dictSet (w := w) (s := ⟨G (entL tk (l.take i)), #[], boot_drawn, tk + 3 * i + 1 + 1, os⟩) (q := b3pos) (t := tk + 3 * i) (v := .str y.v (tk + 3 * i + 1)) (es := ar (entL tk (l.take i))) (n := (entL tk (l.take i)).length) (cl := .type "dict") (d := none) (sl := ar []) ha (g.1 y hm).1 (g.1 y hm).2 (gr.get _) (take_hash g hy tk) hsz
    dsimp only
    refine go_mono (go_bind (n := 10) (k := 0) (go_holding set) (go_pure (a := ForInStep.yield PUnit.unit))) (h3 := ?_) (h4 := (if_neg (Nat.succ_ne_zero i)).symm)
    show Shared.mk _ _ _ _ _ = Shared.mk _ _ _ _ _
    rw [gr.upd, entL_take_succ l tk i y hy]
    rfl
end
section
variable {α β : Type} {w : World} {s s1 s2 : Shared} {q q1 q2 : Pos} {P : Params} {os : OsState}
theorem go_typeOf {a : Addr} {o : Obj} (h : s.heap.get? a = some o) : Go w 1 s q (typeOf (.ref a)) o.cls s q := by
  unfold typeOf
  dsimp only
  exact go_mono (go_bind (k := 0) (go_loadPart h) (go_pure (a := o.cls)))
theorem go_subDictType : Go w 0 s q (isSubtype (.type "dict") (.type "dict")) true s q := fun K H gd lv => by kernel_rfl
theorem go_iterOfDict : Go w 0 s q (typeLookup (.type "dict") "__iter__") (some (.builtin "dict.__iter__")) s q := fun K H gd lv => by kernel_rfl
theorem go_merge {es sub : List DictEntry} {subs : List (List DictEntry)} {tk : Nat} (he : es ≠ []) (hk : ∀ e ∈ sub, ∃ k u, e.key = .int k u) (hp : (es ++ sub).Pairwise (fun x y => x.hash ≠ y.hash)) (hz : (es ++ sub).length ≤ sizeLine) :
    Go w (5 + 6 * sub.length) (sS P es (subs ++ [sub]) tk os) q (mergeMapping 96 (.ref (97 + subs.length)) false) () (sS P (es ++ sub) (subs ++ [sub]) tk os) q := by
  have ga : ∀ {es}, (hB P es (subs ++ [sub])).get? (97 + subs.length) = some (dOf sub) := hB_getLast
  have hne : (97 + subs.length == sysModules) = false := by
    rw [beq_eq_false_iff_ne]; show 97 + subs.length ≠ 1; omega
  unfold mergeMapping
  refine go_mono (go_bind (n := 1) (k := 4 + 6 * sub.length) (a := true) (s1 := sS P es (subs ++ [sub]) tk os) (q1 := q) (by
    unfold isInstance
    exact go_mono (go_bind (n := 1) (k := 0) (go_typeOf ga) go_subDictType)) ?_) (h1 := by omega)
  refine go_of_eq (if_pos rfl) ?_
  refine go_mono (go_bind (n := 1) (k := 3 + 6 * sub.length) (a := some (.builtin "dict.__iter__")) (s1 := sS P es (subs ++ [sub]) tk os) (q1 := q) (by
    unfold specialOf
    exact go_mono (go_bind (n := 1) (k := 0) (go_typeOf ga) go_iterOfDict)) ?_) (h1 := by omega)
  refine go_mono (go_bind (n := 0) (k := 3 + 6 * sub.length) go_pure ?_) (h1 := by omega)
  dsimp only
  refine go_of_eq (if_neg (by rw [hne]; exact Bool.false_ne_true)) ?_
  refine go_mono (go_bind (n := 1) (k := 2 + 6 * sub.length) (go_dictEntries hB_get96 rfl) ?_) (h1 := by omega)
  refine go_of_eq (if_neg (by
    cases es with
    | nil => exact absurd rfl he
    | cons e r => intro h; exact Bool.noConfusion (h : false = true))) ?_
  refine go_mono (go_bind (n := 1) (k := 1 + 6 * sub.length) (go_dictEntries ga rfl) ?_) (h1 := by omega)
  refine go_mono (go_bind (n := 1) (k := 6 * sub.length) (go_dictEpoch ga rfl) ?_) (h1 := by omega)
  have key := go_forIn (w := w) (σ := PUnit) (f := fun (i : Nat) (_ : PUnit) => do
      let x ← dictEntries (97 + subs.length)
      match x[i]? with
      | some e => do
        holding [e.key, e.val] (dictPut 96 e.hash e.key e.val)
        let x ← dictEpoch (97 + subs.length)
        if (x != sub.length) = true then do
          unsupported "dict.changed-during-merge"
          pure (ForInStep.yield PUnit.unit)
        else pure (ForInStep.yield PUnit.unit)
      | x => do
        unsupported "dict.changed-during-merge"
        pure (ForInStep.yield PUnit.unit)) (List.range sub.length) (fun _ => 6) (fun _ => PUnit.unit)
    (fun i => sS P (es ++ sub.take i) (subs ++ [sub]) tk os) (fun _ => q) (fun i x hx => ?_)
  · rw [sumTo_const, List.length_range] at key
    simp only [List.take_zero, List.append_nil, List.take_length] at key
    exact go_mono (go_bind (n := 6 * sub.length) (k := 0) key (go_pure (a := ())))
  · have hi : i < sub.length := by
      have := (List.getElem?_eq_some_iff.mp hx).1
      rwa [List.length_range] at this
    rw [List.getElem?_range hi] at hx
    obtain rfl : i = x := Option.some.inj hx
    obtain ⟨e, hse⟩ : ∃ e, sub[i]? = some e := ⟨sub[i], List.getElem?_eq_getElem hi⟩
    have hm : e ∈ sub := List.mem_of_getElem? hse
    obtain ⟨k, u, hku⟩ := hk e hm
    have hat : (ar sub)[i]? = some e := by rw [List.getElem?_toArray]; exact hse
    refine go_mono (go_bind (n := 1) (k := 5) (go_dictEntries ga rfl) ?_)
    rw [hat]
    dsimp only
    have hd : ∀ x ∈ ar (es ++ sub.take i), x.hash ≠ e.hash := fun x hx => by
      have h1 : es ++ sub = (es ++ sub.take i) ++ sub.drop i := by rw [List.append_assoc, List.take_append_drop]
      rw [h1] at hp
      refine (List.pairwise_append.mp hp).2.2 x (by simpa using hx) e ?_
      rw [List.mem_iff_getElem?]
      exact ⟨0, by rw [List.getElem?_drop, Nat.add_zero, hse]⟩
    have put := go_dictPut (w := w) (s := sS P (es ++ sub.take i) (subs ++ [sub]) tk os) (q := q) (a := 96) (es := ar (es ++ sub.take i)) (n := (es ++ sub.take i).length) (k := k) (h := e.hash) (t := u) (v := e.val) (cl := .type "dict") (d := none) (sl := ar []) rfl hB_get96 hd (by
      show (es ++ sub.take i).length ≤ sizeLine
      rw [List.length_append] at hz ⊢
      rw [List.length_take]; omega)
    rw [hku]
    refine go_mono (go_bind (n := 4) (k := 1) (go_holding put) ?_)
    have e1 : Shared.mk ((sS P (es ++ sub.take i) (subs ++ [sub]) tk os).heap.update 96 (Obj.mapDictKeys (·.push ⟨e.hash, .int k u, e.val⟩))) #[] boot_drawn tk os = sS P (es ++ sub.take (i + 1)) (subs ++ [sub]) tk os := by
      show Shared.mk ((hB P (es ++ sub.take i) (subs ++ [sub])).update 96 _) _ _ _ _ = _
      rw [hB_upd96, List.append_assoc, List.take_add_one, hse]
      obtain ⟨eh, ek, ev⟩ := e
      dsimp only at hku
      subst hku
      rfl
    show Go w 1 (Shared.mk ((sS P (es ++ sub.take i) (subs ++ [sub]) tk os).heap.update 96 (Obj.mapDictKeys (·.push ⟨e.hash, .int k u, e.val⟩))) #[] boot_drawn tk os) q _ _ _ _
    rw [e1]
    refine go_mono (go_bind (n := 1) (k := 0) (go_dictEpoch ga rfl) ?_)
    refine go_of_eq (if_neg (by rw [bne_self_eq_false]; exact Bool.false_ne_true)) go_pure
/-- the short road: fifteen or fewer -/
noncomputable def entS : Nat → List It → List DictEntry
  | _, [] => []
  | t, x :: l => ⟨x.k, .int x.k t, .str x.v (t + 1)⟩ :: entS (t + 2) l
end
section
variable {α β : Type} {w : World} {s s1 s2 : Shared} {q q1 q2 : Pos} {P : Params} {os : OsState}
noncomputable def valS : Nat → List It → List (Value × Value)
  | _, [] => []
  | t, x :: l => (.int x.k t, .str x.v (t + 1)) :: valS (t + 2) l
theorem valS_length : ∀ (l : List It) (t : Nat), (valS t l).length = l.length
  | [], _ => rfl
  | _ :: l, t => congrArg (· + 1) (valS_length l (t + 2))
theorem valS_get : ∀ (l : List It) (t i : Nat) (x : Value × Value), (valS t l)[i]? = some x → ∃ y, l[i]? = some y ∧ x = (.int y.k (t + 2 * i), .str y.v (t + 2 * i + 1))
  | [], _, _, _, h => by simp [valS] at h
  | y :: l, t, 0, x, h => ⟨y, rfl, (Option.some.inj h).symm⟩
  | y :: l, t, i + 1, x, h => by
    obtain ⟨z, hz, e⟩ := valS_get l (t + 2) i x h
    exact ⟨z, hz, by rw [e, show t + 2 + 2 * i = t + 2 * (i + 1) by omega]⟩
theorem go_evalPairs : ∀ (l : List It) (tk : Nat) (h : Heap) (q : Pos), l ≠ [] → Go w (3 * l.length) ⟨h, #[], boot_drawn, tk, os⟩ q (evalPairs (l.map mkp)) (valS tk l) ⟨h, #[], boot_drawn, tk + 2 * l.length, os⟩ b3pos
  | [], _, _, _, h => absurd rfl h
  | x :: l, tk, h, q, _ => by
    rw [List.map_cons]
    unfold evalPairs
    refine go_mono (go_bind (n := 1) (k := 2 + 3 * l.length) (go_key x) ?_) (h1 := by rw [List.length_cons]; omega)
    refine go_mono (go_bind (n := 2) (k := 3 * l.length) (go_holding (go_val x)) ?_)
    dsimp only
    cases l with
    | nil =>
      unfold List.map evalPairs
      refine go_mono (go_bind (n := 0) (k := 0) (a := ([] : List (Value × Value))) (go_holding go_pure) ?_)
      exact go_pure (a := valS tk [x])
    | cons y r =>
      have ih := go_evalPairs (y :: r) (tk + 2) h b3pos (by intro e; cases e)
      refine go_mono (go_bind (n := 3 * (y :: r).length) (k := 0) (s2 := ⟨h, #[], boot_drawn, tk + 2 + 2 * (y :: r).length, os⟩) (go_holding ih) ?_) (h3 := ?_)
      · exact go_pure (a := valS tk (x :: y :: r))
      show Shared.mk _ _ _ _ _ = Shared.mk _ _ _ _ _
      rw [show tk + 2 + 2 * (y :: r).length = tk + 2 * (x :: y :: r).length by rw [List.length_cons (a := x)]; omega]
theorem entS_append : ∀ (l1 l2 : List It) (t : Nat), entS t (l1 ++ l2) = entS t l1 ++ entS (t + 2 * l1.length) l2
  | [], l2, t => rfl
  | x :: l1, l2, t => by
    show _ :: entS (t + 2) (l1 ++ l2) = _
    rw [entS_append l1 l2 (t + 2), show t + 2 + 2 * l1.length = t + 2 * (x :: l1).length by rw [List.length_cons]; omega]
    rfl
theorem entS_length : ∀ (l : List It) (t : Nat), (entS t l).length = l.length
  | [], _ => rfl
  | _ :: l, t => congrArg (· + 1) (entS_length l (t + 2))
theorem entS_mem : ∀ (l : List It) (t : Nat) (e : DictEntry), e ∈ entS t l → ∃ x ∈ l, e.hash = x.k ∧ ∃ u, e.key = .int x.k u
  | [], _, _, h => nomatch h
  | x :: l, t, e, h => by
    rcases List.mem_cons.mp h with rfl | h
    · exact ⟨x, .head _, rfl, _, rfl⟩
    · obtain ⟨y, hy, r⟩ := entS_mem l (t + 2) e h
      exact ⟨y, .tail _ hy, r⟩
theorem entS_take_succ (l : List It) (t i : Nat) (x : It) (h : l[i]? = some x) : entS t (l.take (i + 1)) = entS t (l.take i) ++ [⟨x.k, .int x.k (t + 2 * i), .str x.v (t + 2 * i + 1)⟩] := by
  have hi : i < l.length := (List.getElem?_eq_some_iff.mp h).1
  rw [List.take_add_one, h, entS_append, List.length_take, Nat.min_eq_left (Nat.le_of_lt hi)]
  rfl
theorem take_hashS {l : List It} (g : Good l) {i : Nat} {x : It} (h : l[i]? = some x) (t : Nat) : ∀ e ∈ ar (entS t (l.take i)), e.hash ≠ x.k := by
  intro e he
  obtain ⟨y, hy, e1, _⟩ := entS_mem _ _ e (by simpa using he)
  rw [e1]
  have : l = l.take i ++ l.drop i := (List.take_append_drop i l).symm
  refine good_part (this ▸ g) y hy x ?_
  rw [List.mem_iff_getElem?]
  exact ⟨0, by rw [List.getElem?_drop, Nat.add_zero, h]⟩
theorem go_sub_short {G : List DictEntry → Heap} {a : Addr} {h0 : Heap} {l : List It} {tk : Nat} (gr : Grows G a) (ha : Nat.ble 11 a = true) (e0 : h0.push (dOf []) = G []) (ea : h0.objs.size = a) (hl : l.length ≤ 15) (hl0 : l ≠ []) (g : Good l) :
    Go w (1 + 13 * l.length) ⟨h0, #[], boot_drawn, tk, os⟩ q (subDict (l.map mkp)) a ⟨G (entS tk l), #[], boot_drawn, tk + 3 * l.length, os⟩ b3pos := by
  unfold subDict
  refine go_mono (go_bind (n := 1) (k := 13 * l.length) go_alloc ?_)
  dsimp only
  rw [ea]
  refine go_mono (go_bind (n := 13 * l.length) (k := 0) (a := ()) (s1 := ⟨G (entS tk l), #[], boot_drawn, tk + 3 * l.length, os⟩) (q1 := b3pos) (go_holding ?_) (go_pure (a := a)))
  refine go_of_eq (if_pos (by rw [List.length_map]; omega)) ?_
  rw [show h0.push { cls := Value.type "dict", dict := none, data := Data.dict #[] 0 } = G [] from e0]
  refine go_mono (go_bind (n := 3 * l.length) (k := 10 * l.length) (go_evalPairs l tk (G []) q hl0) ?_) (h1 := by omega)
  refine go_holding ?_
  have key := go_forIn (w := w) (σ := PUnit) (f := fun (x : Value × Value) (_ : PUnit) => do
      dictSet a x.1 x.2
      pure (ForInStep.yield PUnit.unit)) (valS tk l) (fun _ => 10) (fun _ => PUnit.unit)
    (fun i => ⟨G (entS tk (l.take i)), #[], boot_drawn, tk + 2 * l.length + i, os⟩) (fun _ => b3pos) (fun i x hx => ?_)
  · rw [sumTo_const, valS_length] at key
    exact go_mono (go_bind (n := 10 * l.length) (k := 0) key (go_pure (a := ()))) (h3 := by
      show Shared.mk _ _ _ _ _ = Shared.mk _ _ _ _ _
      rw [List.take_length, show tk + 2 * l.length + l.length = tk + 3 * l.length by omega])
  · obtain ⟨y, hy, rfl⟩ := valS_get l tk i x hx
    have hm : y ∈ l := List.mem_of_getElem? hy
    have hsz : (ar (entS tk (l.take i))).size ≤ sizeLine := by
      show (entS tk (l.take i)).length ≤ sizeLine
      rw [entS_length, List.length_take, sizeLine_eq]; omega
    have set := go_dictSet (w := w) (s := ⟨G (entS tk (l.take i)), #[], boot_drawn, tk + 2 * l.length + i, os⟩) (q := b3pos) (t := tk + 2 * i) (v := .str y.v (tk + 2 * i + 1)) (es := ar (entS tk (l.take i))) (n := (entS tk (l.take i)).length) (cl := .type "dict") (d := none) (sl := ar []) ha (g.1 y hm).1 (g.1 y hm).2 (gr.get _) (take_hashS g hy tk) hsz
    refine go_mono (go_bind (n := 10) (k := 0) set (go_pure (a := ForInStep.yield PUnit.unit))) (h3 := ?_)
    show Shared.mk _ _ _ _ _ = Shared.mk _ _ _ _ _
    rw [gr.upd, entS_take_succ l tk i y hy]
    rfl
end
section
variable {α β : Type} {w : World} {s s1 s2 : Shared} {q q1 q2 : Pos} {P : Params} {os : OsState}
noncomputable def chunk (l : List It) (j : Nat) : List It := (l.drop (17 * j)).take 17
noncomputable def subsL (l : List It) (j : Nat) : List (List DictEntry) := (List.range j).map fun k => entL (344 + 51 * (k + 1)) (chunk l (k + 1))
noncomputable def sA (P : Params) (os : OsState) (l : List It) : Nat → Shared
  | 0 => ⟨base P, #[], boot_drawn, 344, os⟩
  | j + 1 => sS P (entL 344 (l.take (17 * (j + 1)))) (subsL l j) (344 + 51 * (j + 1)) os
noncomputable def cost (i : Nat) : Nat := match Nat.beq ((i + 1) % 17) 0 with | true => (match Nat.blt i 17 with | true => 223 | false => 330) | false => 0
noncomputable def mainAt (i : Nat) : Option Addr := match Nat.blt i 17 with | true => none | false => some 96
noncomputable def runAt (l : List It) (i : Nat) : List (Sem Value × Sem Value) := ((l.drop (17 * (i / 17))).take (i % 17)).map mkp
theorem cost_sum : sumTo cost 650 = 12433 := by decide +kernel
theorem base_push : (base P).push (dOf []) = hB P [] [] := by
  show Heap.mk ((base P).objs.push (dOf [])) {} = Heap.mk _ {}
  congr 1
theorem chunk_good {l : List It} (g : Good l) (j : Nat) : Good (chunk l j) :=
  ⟨fun x hx => g.1 x (List.mem_of_mem_drop (List.mem_of_mem_take hx)), (g.2.sublist (List.drop_sublist _ _)).sublist (List.take_sublist _ _)⟩
theorem take_chunk (l : List It) (j : Nat) : l.take (17 * (j + 1)) = l.take (17 * j) ++ chunk l j := by
  unfold chunk
  rw [show 17 * (j + 1) = 17 * j + 17 by omega, List.take_add]
theorem subsL_succ (l : List It) (j : Nat) : subsL l (j + 1) = subsL l j ++ [entL (344 + 51 * (j + 1)) (chunk l (j + 1))] := by
  unfold subsL
  rw [List.range_succ, List.map_append]; rfl
theorem good_hash {l1 l2 : List It} {e1 e2 : List DictEntry} (g : Good (l1 ++ l2)) (h1 : e1.Pairwise (fun x y => x.hash ≠ y.hash)) (h2 : e2.Pairwise (fun x y => x.hash ≠ y.hash))
    (m1 : ∀ e ∈ e1, ∃ x ∈ l1, e.hash = x.k ∧ ∃ u, e.key = .int x.k u) (m2 : ∀ e ∈ e2, ∃ x ∈ l2, e.hash = x.k ∧ ∃ u, e.key = .int x.k u) : (e1 ++ e2).Pairwise (fun x y => x.hash ≠ y.hash) :=
  List.pairwise_append.mpr ⟨h1, h2, fun a ha b hb => by
    obtain ⟨x, hx, e, _⟩ := m1 a ha
    obtain ⟨y, hy, e', _⟩ := m2 b hb
    rw [e, e']; exact good_part g x hx y hy⟩
theorem entL_pair : ∀ (l : List It) (t : Nat), l.Pairwise (fun x y => x.k ≠ y.k) → (entL t l).Pairwise (fun x y => x.hash ≠ y.hash)
  | [], _, _ => .nil
  | x :: l, t, h => by
    obtain ⟨h1, h2⟩ := List.pairwise_cons.mp h
    refine List.pairwise_cons.mpr ⟨fun e he => ?_, entL_pair l (t + 3) h2⟩
    obtain ⟨y, hy, e1, _⟩ := entL_mem l (t + 3) e he
    rw [e1]; exact h1 y hy
theorem entS_pair : ∀ (l : List It) (t : Nat), l.Pairwise (fun x y => x.k ≠ y.k) → (entS t l).Pairwise (fun x y => x.hash ≠ y.hash)
  | [], _, _ => .nil
  | x :: l, t, h => by
    obtain ⟨h1, h2⟩ := List.pairwise_cons.mp h
    refine List.pairwise_cons.mpr ⟨fun e he => ?_, entS_pair l (t + 2) h2⟩
    obtain ⟨y, hy, e1, _⟩ := entS_mem l (t + 2) e he
    rw [e1]; exact h1 y hy
theorem subsL_length (l : List It) (j : Nat) : (subsL l j).length = j := by unfold subsL; rw [List.length_map, List.length_range]
theorem chunk_length {l : List It} (hl : l.length = 650) {j : Nat} (hj : j < 38) : (chunk l j).length = 17 := by
  unfold chunk; rw [List.length_take, List.length_drop]; omega
/-- a chunk behind the first: its own dict, then laid into the first -/
theorem go_chunk {l : List It} (hl : l.length = 650) (g : Good l) {j : Nat} (hj : j + 1 < 38) {H : Value → Sem Unit} :
    Go w 330 (sA P os l (j + 1)) q (do
      let sub ← holding [.ref 96] (subDict ((chunk l (j + 1)).map mkp))
      (holding [.ref 96, .ref sub] (mergeMapping 96 (.ref sub) false)).onRaise H
      pure (some 96)) (some 96) (sA P os l (j + 2)) b3pos := by
  have hc := chunk_length hl hj
  have ht : (l.take (17 * (j + 1))).length = 17 * (j + 1) := by rw [List.length_take]; omega
  have gl : Good (l.take (17 * (j + 1)) ++ chunk l (j + 1)) := by
    rw [← take_chunk]
    exact ⟨fun x hx => g.1 x (List.mem_of_mem_take hx), g.2.sublist (List.take_sublist _ _)⟩
  have sub := go_sub_long (w := w) (q := q) (os := os) (G := fun d => hB P (entL 344 (l.take (17 * (j + 1)))) (subsL l j ++ [d])) (a := 97 + (subsL l j).length) (h0 := hB P (entL 344 (l.take (17 * (j + 1)))) (subsL l j)) (l := chunk l (j + 1)) (tk := 344 + 51 * (j + 1))
    (growsLast _ _) (by apply Nat.ble_eq_true_of_le; omega) hB_push hB_size (by omega) (by rw [hc, sizeLine_eq]; omega) (chunk_good g _)
  rw [hc] at sub
  refine go_mono (go_bind (n := 223) (k := 107) (go_holding sub) ?_)
  have hpair : (entL 344 (l.take (17 * (j + 1))) ++ entL (344 + 51 * (j + 1)) (chunk l (j + 1))).Pairwise (fun x y => x.hash ≠ y.hash) :=
    good_hash gl (entL_pair _ _ (List.pairwise_append.mp gl.2).1) (entL_pair _ _ (List.pairwise_append.mp gl.2).2.1) (entL_mem _ _) (entL_mem _ _)
  have mg := go_merge (w := w) (q := b3pos) (os := os) (P := P) (es := entL 344 (l.take (17 * (j + 1)))) (sub := entL (344 + 51 * (j + 1)) (chunk l (j + 1))) (subs := subsL l j) (tk := 344 + 51 * (j + 1) + 3 * 17)
    (by intro e; have := congrArg List.length e; rw [entL_length, ht] at this; simp at this) (fun e he => by obtain ⟨x, _, _, u, h⟩ := entL_mem _ _ e he; exact ⟨_, u, h⟩) hpair (by
      rw [List.length_append, entL_length, entL_length, ht, hc, sizeLine_eq]; omega)
  rw [entL_length, hc] at mg
  refine go_mono (go_bind (n := 107) (k := 0) (go_onRaise (go_holding mg)) (go_pure (a := some 96))) (h3 := ?_)
  show Shared.mk _ _ _ _ _ = Shared.mk _ _ _ _ _
  rw [take_chunk l (j + 1), entL_append, ht, subsL_succ, show 344 + 3 * (17 * (j + 1)) = 344 + 51 * (j + 1) by omega, show 344 + 51 * (j + 1) + 3 * 17 = 344 + 51 * (j + 1 + 1) by omega]
theorem go_chunk0 {l : List It} (hl : l.length = 650) (g : Good l) : Go w 223 (sA P os l 0) q (subDict ((chunk l 0).map mkp)) 96 (sA P os l 1) b3pos := by
  have hc := chunk_length hl (j := 0) (by omega)
  have sub := go_sub_long (w := w) (q := q) (os := os) (G := fun d => hB P d []) (a := 96) (h0 := base P) (l := chunk l 0) (tk := 344)
    (grows96 _) rfl base_push base_size (by omega) (by rw [hc, sizeLine_eq]; omega) (chunk_good g _)
  rw [hc] at sub
  exact sub
theorem go_display {l : List It} (hl : l.length = 650) (g : Good l) : Go w 12515 (sA P os l 0) b3pos (dictDisplay (l.map fun x => (some (mkp x).1, (mkp x).2))) (.ref 96)
    (sS P (entL 344 (l.take 646) ++ entS 2282 (chunk l 38)) (subsL l 37 ++ [entS 2282 (chunk l 38)]) 2294 os) b3pos := by
  unfold dictDisplay
  dsimp only
  refine go_mono (go_bind (n := 12433) (k := 82) (a := ⟨mainAt 650, runAt l 650⟩) (s1 := sA P os l 38) (q1 := b3pos) ?_ ?_)
  · refine go_mono (go_forIn (w := w) (l.map fun x => (some (mkp x).1, (mkp x).2)) cost (fun i => (mainAt i, runAt l i)) (fun i => sA P os l (i / 17)) (fun _ => b3pos) (fun i x hx => ?_))
      (h1 := by rw [List.length_map, hl, cost_sum]) (h2 := by rw [List.length_map, hl]) (h3 := by rw [List.length_map, hl])
    rw [List.getElem?_map] at hx
    obtain ⟨y, hy, rfl⟩ := Option.map_eq_some_iff.mp hx
    have hi : i < 650 := by have := (List.getElem?_eq_some_iff.mp hy).1; omega
    have hr : runAt l i ++ [((mkp y).1, (mkp y).2)] = ((l.drop (17 * (i / 17))).take (i % 17 + 1)).map mkp := by
      unfold runAt
      rw [List.take_add_one, List.getElem?_drop, show 17 * (i / 17) + i % 17 = i by omega, hy, List.map_append]
      rfl
    have hlen : (((l.drop (17 * (i / 17))).take (i % 17 + 1)).map mkp).length = i % 17 + 1 := by
      rw [List.length_map, List.length_take, List.length_drop]; omega
    dsimp only
    rw [hr]
    by_cases h17 : (i + 1) % 17 = 0
    · have e16 : i % 17 = 16 := by omega
      have ediv : (i + 1) / 17 = i / 17 + 1 := by omega
      refine go_of_eq (if_pos (by rw [hlen, e16]; rfl)) ?_
      have hne : (((l.drop (17 * (i / 17))).take (i % 17 + 1)).map mkp).isEmpty = false := by
        rw [List.isEmpty_eq_false_iff]; intro e; rw [e] at hlen; simp at hlen
      have hch : ((l.drop (17 * (i / 17))).take (i % 17 + 1)) = chunk l (i / 17) := by rw [e16]; rfl
      have hrun : runAt l (i + 1) = [] := by unfold runAt; rw [h17]; rfl
      rw [ediv, hrun]
      by_cases h0 : i < 17
      · have ei : i = 16 := by omega
        subst ei
        refine go_mono (go_bind (n := 223) (k := 0) (a := some 96) (s1 := sA P os l 1) (q1 := b3pos) ?_ (go_pure (a := ForInStep.yield (some 96, []))))
        refine go_of_eq (if_neg (by rw [hne]; exact Bool.false_ne_true)) ?_
        rw [hch]
        exact go_mono (go_bind (n := 223) (k := 0) (go_chunk0 hl g) (go_pure (a := some 96)))
      · have em : mainAt i = some 96 := by
          unfold mainAt
          rw [show Nat.blt i 17 = false by rw [← Bool.not_eq_true, Nat.blt_eq]; exact h0]
        have em1 : mainAt (i + 1) = some 96 := by
          unfold mainAt
          rw [show Nat.blt (i + 1) 17 = false by rw [← Bool.not_eq_true, Nat.blt_eq]; omega]
        have ec : cost i = 330 := by
          unfold cost
          rw [h17, show Nat.blt i 17 = false by rw [← Bool.not_eq_true, Nat.blt_eq]; exact h0]
        obtain ⟨j, hj⟩ : ∃ j, i / 17 = j + 1 := ⟨i / 17 - 1, by omega⟩
        rw [em, em1, ec, hch, hj]
        refine go_mono (go_bind (n := 330) (k := 0) (a := some 96) (s1 := sA P os l (j + 2)) (q1 := b3pos) ?_ (go_pure (a := ForInStep.yield (some 96, []))))
        refine go_of_eq (if_neg (by rw [← hj, ← hch, hne]; exact Bool.false_ne_true)) ?_
        exact go_chunk hl g (by omega)
    · have ediv : (i + 1) / 17 = i / 17 := by omega
      have emod : (i + 1) % 17 = i % 17 + 1 := by omega
      have ec : cost i = 0 := by
        unfold cost
        rw [show Nat.beq ((i + 1) % 17) 0 = false by rw [← Bool.not_eq_true, Nat.beq_eq]; exact h17]
      have em : mainAt (i + 1) = mainAt i := by
        unfold mainAt
        by_cases h : i < 17
        · rw [(Nat.blt_eq).mpr h, (Nat.blt_eq).mpr (show i + 1 < 17 by omega)]
        · rw [show Nat.blt i 17 = false by rw [← Bool.not_eq_true, Nat.blt_eq]; exact h, show Nat.blt (i + 1) 17 = false by rw [← Bool.not_eq_true, Nat.blt_eq]; omega]
      refine go_of_eq (if_neg (by rw [hlen, beq_iff_eq]; omega)) ?_
      rw [ec, em, ediv]
      refine go_mono go_pure (h2 := ?_)
      unfold runAt
      rw [ediv, emod]
  · have ec : chunk l 38 = l.drop 646 := by
      unfold chunk
      rw [List.take_of_length_le (by rw [List.length_drop]; omega)]
    have hcl : (chunk l 38).length = 4 := by rw [ec, List.length_drop]; omega
    have er : runAt l 650 = (chunk l 38).map mkp := by
      unfold runAt chunk
      rw [show 650 / 17 = 38 from rfl, show 650 % 17 = 4 from rfl]
      congr 1
      rw [List.take_of_length_le (by rw [List.length_drop]; omega), List.take_of_length_le (by rw [List.length_drop]; omega)]
    have em : mainAt 650 = some 96 := rfl
    rw [er, em]
    dsimp only
    have hne : ((chunk l 38).map mkp).isEmpty = false := by
      rw [List.isEmpty_eq_false_iff]; intro e; rw [List.map_eq_nil_iff] at e; rw [e] at hcl; simp at hcl
    have ht : (l.take 646).length = 646 := by rw [List.length_take]; omega
    have gl : Good (l.take 646 ++ chunk l 38) := by rw [ec, List.take_append_drop]; exact g
    have sub := go_sub_short (w := w) (q := b3pos) (os := os) (G := fun d => hB P (entL 344 (l.take 646)) (subsL l 37 ++ [d])) (a := 97 + (subsL l 37).length) (h0 := hB P (entL 344 (l.take 646)) (subsL l 37)) (l := chunk l 38) (tk := 2282)
      (growsLast _ _) (by apply Nat.ble_eq_true_of_le; omega) hB_push hB_size (by omega) (by intro e; rw [e] at hcl; simp at hcl) (chunk_good g _)
    rw [hcl] at sub
    have hpair : (entL 344 (l.take 646) ++ entS 2282 (chunk l 38)).Pairwise (fun x y => x.hash ≠ y.hash) :=
      good_hash gl (entL_pair _ _ (List.pairwise_append.mp gl.2).1) (entS_pair _ _ (List.pairwise_append.mp gl.2).2.1) (entL_mem _ _) (entS_mem _ _)
    have mg := go_merge (w := w) (q := b3pos) (os := os) (P := P) (es := entL 344 (l.take 646)) (sub := entS 2282 (chunk l 38)) (subs := subsL l 37) (tk := 2282 + 3 * 4)
      (by intro e; have := congrArg List.length e; rw [entL_length, ht] at this; simp at this) (fun e he => by obtain ⟨x, _, _, u, h⟩ := entS_mem _ _ e he; exact ⟨_, u, h⟩) hpair (by
        rw [List.length_append, entL_length, entS_length, ht, hcl, sizeLine_eq]; omega)
    rw [entS_length, hcl] at mg
    refine go_mono (go_bind (n := 82) (k := 0) (a := some 96) (q1 := b3pos) ?_ (go_pure (a := Value.ref 96)))
    refine go_of_eq (if_neg (by rw [hne]; exact Bool.false_ne_true)) ?_
    refine go_mono (go_bind (n := 53) (k := 29) (go_holding sub) ?_)
    exact go_mono (go_bind (n := 29) (k := 0) (go_onRaise (go_holding mg)) (go_pure (a := some 96)))
end
section
variable {α β : Type} {w : World} {s s1 s2 : Shared} {q q1 q2 : Pos} {P : Params} {os : OsState}
noncomputable def mkIts : List (Option Expr) → List Expr → List It
  | some (.Constant (.int k) a p) :: ks, .Constant (.str v) c r :: vs => ⟨k, v, a, p, c, r⟩ :: mkIts ks vs
  | _, _ => []
noncomputable def b3l : List It := mkIts b3k b3v
noncomputable def b3n : Str := match st 10 with | .Assign [.Name x _] _ _ => x | _ => S ""
noncomputable def b3np : Pos := match st 10 with | .Assign [.Name _ p] _ _ => p | _ => p0
noncomputable def b3q : Pos := match st 10 with | .Assign _ _ p => p | _ => p0
theorem st10 : st 10 = .Assign [.Name b3n b3np] (.Dict (b3l.map fun x => some x.ke) (b3l.map It.ve) b3pos) b3q := by kernel_rfl
theorem b3_len : b3l.length = 650 := by kernel_rfl
noncomputable def rising : Int → List It → Bool
  | _, [] => true
  | k, x :: l => decide (k < x.k) && rising x.k l
theorem rising_all : ∀ (l : List It) (k : Int), rising k l = true → ∀ x ∈ l, k < x.k
  | x :: l, k, h, y, hy => by
    obtain ⟨h1, h2⟩ := Bool.and_eq_true_iff.mp h
    have h1 := of_decide_eq_true h1
    rcases List.mem_cons.mp hy with rfl | hy
    · exact h1
    · exact Int.lt_trans h1 (rising_all l x.k h2 y hy)
theorem rising_pair : ∀ (l : List It) (k : Int), rising k l = true → l.Pairwise (fun x y => x.k ≠ y.k)
  | [], _, _ => .nil
  | x :: l, k, h => by
    obtain ⟨h1, h2⟩ := Bool.and_eq_true_iff.mp h
    exact List.pairwise_cons.mpr ⟨fun y hy => Int.ne_of_lt (rising_all l x.k h2 y hy), rising_pair l x.k h2⟩
theorem b3_rising : rising 180 b3l = true := by kernel_rfl
theorem b3_top : (b3l.all fun x => decide (x.k < 2 ^ 20)) = true := by kernel_rfl
theorem b3_good : Good b3l := ⟨fun x hx => ⟨by have := rising_all b3l 180 b3_rising x hx; omega, by have := of_decide_eq_true (List.all_eq_true.mp b3_top x hx); omega⟩, rising_pair b3l 180 b3_rising⟩
theorem items_eq : ∀ l : List It, (evalEachOpt (l.map fun x => some x.ke) env0).zip ((evalEach (l.map It.ve) env0).map fun v => do let x ← v; standAt b3pos; pure x) = l.map fun x => (some (mkp x).1, (mkp x).2)
  | [] => rfl
  | x :: l => by
    show (some (mkp x).1, (mkp x).2) :: (evalEachOpt (l.map fun x => some x.ke) env0).zip ((evalEach (l.map It.ve) env0).map fun v => do let x ← v; standAt b3pos; pure x) = _
    rw [items_eq l]; rfl
theorem eval_dict (ks : List (Option Expr)) (vs : List Expr) (dp : Pos) (env : Env) : eval (.Dict ks vs dp) env = (standAt dp >>= fun _ => dictDisplay ((evalEachOpt ks env).zip ((evalEach vs env).map fun v => do let x ← v; standAt dp; pure x))) := rfl
theorem go_evalDict {l : List It} (hl : l.length = 650) (g : Good l) : Go w 12516 (sA P os l 0) q (eval (.Dict (l.map fun x => some x.ke) (l.map It.ve) b3pos) env0) (.ref 96)
    (sS P (entL 344 (l.take 646) ++ entS 2282 (chunk l 38)) (subsL l 37 ++ [entS 2282 (chunk l 38)]) 2294 os) b3pos := by
  rw [eval_dict, items_eq]
  exact go_mono (go_bind (n := 1) (k := 12515) go_standAt (go_display hl g))
end
end Mine
end
section
open PySem PySem.W PyProof.Rows
namespace Mine
noncomputable def b3o (_ : Params) (_ : Nat) : Obj := dOf (entL 344 (b3l.take 646) ++ entS 2282 (chunk b3l 38))
noncomputable def b3sub (k : Nat) : Obj := match Nat.beq k 38 with | true => dOf (entS 2282 (chunk b3l 38)) | false => dOf (entL (344 + 51 * k) (chunk b3l k))
noncomputable def o3_10 (P : Params) : Obj := ⟨.type "dict", none, .dict (ar [e P "__name__" 165 (.str (S "cpy313.stringprep") 275), e P "__doc__" 166 (.none), e P "__package__" 167 (.none), e P "__loader__" 168 (.builtin "__main__.__loader__#opaque"), e P "__spec__" 169 (.none), e P "__annotations__" 170 (.ref 6), e P "__builtins__" 171 (.ref 4), e P "__file__" 173 (.str (S "/claim/cut.py") 172), e P "__cached__" 174 (.none), e P "_wall" 193 (.ref 21), e P "_strcoll" 203 (.ref 28), e P "CHAR_MAX" 205 (.int 127 204), e P "_grouping_intervals" 214 (.ref 35), e P "_netrclex" 274 (.ref 73), e P "b1_set" 336 (.ref 85), e P "in_table_b1" 343 (.ref 95), e P "b3_exceptions" 2294 (.ref 96)]) 17, ar []⟩
noncomputable def tM (P : Params) : BT := .node (boot_o_0 P) (.node (boot_o_1 P) (.node (o3_9 P) (.node (boot_o_7 P) (.node (o15_7 P) (.node (o31_7 P) (.node (o63_7 P) (.node (b3sub 31) (.nil) (.nil)) (.nil)) (.node (o95_9 P) (.nil) (.nil))) (.node (o47_7 P) (.node (o79_8 P) (.nil) (.nil)) (.node (b3sub 15) (.nil) (.nil)))) (.node (o23_7 P) (.node (o39_7 P) (.node (o71_7 P) (.nil) (.nil)) (.node (b3sub 7) (.nil) (.nil))) (.node (o55_7 P) (.node (o87_8 P) (.nil) (.nil)) (.node (b3sub 23) (.nil) (.nil))))) (.node (o11_a P) (.node (o19_7 P) (.node (o35_7 P) (.node (o67_7 P) (.node (b3sub 35) (.nil) (.nil)) (.nil)) (.node (b3sub 3) (.nil) (.nil))) (.node (o51_7 P) (.node (o83_8 P) (.nil) (.nil)) (.node (b3sub 19) (.nil) (.nil)))) (.node (o27_7 P) (.node (o43_7 P) (.node (o75_7 P) (.nil) (.nil)) (.node (b3sub 11) (.nil) (.nil))) (.node (o59_7 P) (.node (o91_9 P) (.nil) (.nil)) (.node (b3sub 27) (.nil) (.nil)))))) (.node (boot_o_5 P) (.node (boot_o_9 P) (.node (o17_7 P) (.node (o33_7 P) (.node (o65_7 P) (.node (b3sub 33) (.nil) (.nil)) (.nil)) (.node (b3sub 1) (.nil) (.nil))) (.node (o49_7 P) (.node (o81_8 P) (.nil) (.nil)) (.node (b3sub 17) (.nil) (.nil)))) (.node (o25_7 P) (.node (o41_7 P) (.node (o73_7 P) (.nil) (.nil)) (.node (b3sub 9) (.nil) (.nil))) (.node (o57_7 P) (.node (o89_9 P) (.nil) (.nil)) (.node (b3sub 25) (.nil) (.nil))))) (.node (o13_a P) (.node (o21_7 P) (.node (o37_7 P) (.node (o69_7 P) (.node (b3sub 37) (.nil) (.nil)) (.nil)) (.node (b3sub 5) (.nil) (.nil))) (.node (o53_7 P) (.node (o85_8 P) (.nil) (.nil)) (.node (b3sub 21) (.nil) (.nil)))) (.node (o29_7 P) (.node (o45_7 P) (.node (o77_7 P) (.nil) (.nil)) (.node (b3sub 13) (.nil) (.nil))) (.node (o61_7 P) (.node (o93_9 P) (.nil) (.nil)) (.node (b3sub 29) (.nil) (.nil))))))) (.node (boot_o_2 P) (.node (boot_o_4 P) (.node (boot_o_8 P) (.node (o16_7 P) (.node (o32_7 P) (.node (o64_7 P) (.node (b3sub 32) (.nil) (.nil)) (.nil)) (.node (b3o P 39) (.nil) (.nil))) (.node (o48_7 P) (.node (o80_8 P) (.nil) (.nil)) (.node (b3sub 16) (.nil) (.nil)))) (.node (o24_7 P) (.node (o40_7 P) (.node (o72_7 P) (.nil) (.nil)) (.node (b3sub 8) (.nil) (.nil))) (.node (o56_7 P) (.node (o88_8 P) (.nil) (.nil)) (.node (b3sub 24) (.nil) (.nil))))) (.node (o12_9 P) (.node (o20_7 P) (.node (o36_7 P) (.node (o68_7 P) (.node (b3sub 36) (.nil) (.nil)) (.nil)) (.node (b3sub 4) (.nil) (.nil))) (.node (o52_7 P) (.node (o84_8 P) (.nil) (.nil)) (.node (b3sub 20) (.nil) (.nil)))) (.node (o28_7 P) (.node (o44_7 P) (.node (o76_7 P) (.nil) (.nil)) (.node (b3sub 12) (.nil) (.nil))) (.node (o60_7 P) (.node (o92_9 P) (.nil) (.nil)) (.node (b3sub 28) (.nil) (.nil)))))) (.node (boot_o_6 P) (.node (boot_o_10 P) (.node (o18_7 P) (.node (o34_7 P) (.node (o66_7 P) (.node (b3sub 34) (.nil) (.nil)) (.nil)) (.node (b3sub 2) (.nil) (.nil))) (.node (o50_7 P) (.node (o82_8 P) (.nil) (.nil)) (.node (b3sub 18) (.nil) (.nil)))) (.node (o26_7 P) (.node (o42_7 P) (.node (o74_7 P) (.nil) (.nil)) (.node (b3sub 10) (.nil) (.nil))) (.node (o58_7 P) (.node (o90_9 P) (.nil) (.nil)) (.node (b3sub 26) (.nil) (.nil))))) (.node (o14_a P) (.node (o22_7 P) (.node (o38_7 P) (.node (o70_7 P) (.node (b3sub 38) (.nil) (.nil)) (.nil)) (.node (b3sub 6) (.nil) (.nil))) (.node (o54_7 P) (.node (o86_8 P) (.nil) (.nil)) (.node (b3sub 22) (.nil) (.nil)))) (.node (o30_7 P) (.node (o46_7 P) (.node (o78_8 P) (.nil) (.nil)) (.node (b3sub 14) (.nil) (.nil))) (.node (o62_7 P) (.node (o94_9 P) (.nil) (.nil)) (.node (b3sub 30) (.nil) (.nil)))))))
noncomputable def t10 (P : Params) : BT := .node (boot_o_0 P) (.node (boot_o_1 P) (.node (o3_10 P) (.node (boot_o_7 P) (.node (o15_7 P) (.node (o31_7 P) (.node (o63_7 P) (.node (b3sub 31) (.nil) (.nil)) (.nil)) (.node (o95_9 P) (.nil) (.nil))) (.node (o47_7 P) (.node (o79_8 P) (.nil) (.nil)) (.node (b3sub 15) (.nil) (.nil)))) (.node (o23_7 P) (.node (o39_7 P) (.node (o71_7 P) (.nil) (.nil)) (.node (b3sub 7) (.nil) (.nil))) (.node (o55_7 P) (.node (o87_8 P) (.nil) (.nil)) (.node (b3sub 23) (.nil) (.nil))))) (.node (o11_a P) (.node (o19_7 P) (.node (o35_7 P) (.node (o67_7 P) (.node (b3sub 35) (.nil) (.nil)) (.nil)) (.node (b3sub 3) (.nil) (.nil))) (.node (o51_7 P) (.node (o83_8 P) (.nil) (.nil)) (.node (b3sub 19) (.nil) (.nil)))) (.node (o27_7 P) (.node (o43_7 P) (.node (o75_7 P) (.nil) (.nil)) (.node (b3sub 11) (.nil) (.nil))) (.node (o59_7 P) (.node (o91_9 P) (.nil) (.nil)) (.node (b3sub 27) (.nil) (.nil)))))) (.node (boot_o_5 P) (.node (boot_o_9 P) (.node (o17_7 P) (.node (o33_7 P) (.node (o65_7 P) (.node (b3sub 33) (.nil) (.nil)) (.nil)) (.node (b3sub 1) (.nil) (.nil))) (.node (o49_7 P) (.node (o81_8 P) (.nil) (.nil)) (.node (b3sub 17) (.nil) (.nil)))) (.node (o25_7 P) (.node (o41_7 P) (.node (o73_7 P) (.nil) (.nil)) (.node (b3sub 9) (.nil) (.nil))) (.node (o57_7 P) (.node (o89_9 P) (.nil) (.nil)) (.node (b3sub 25) (.nil) (.nil))))) (.node (o13_a P) (.node (o21_7 P) (.node (o37_7 P) (.node (o69_7 P) (.node (b3sub 37) (.nil) (.nil)) (.nil)) (.node (b3sub 5) (.nil) (.nil))) (.node (o53_7 P) (.node (o85_8 P) (.nil) (.nil)) (.node (b3sub 21) (.nil) (.nil)))) (.node (o29_7 P) (.node (o45_7 P) (.node (o77_7 P) (.nil) (.nil)) (.node (b3sub 13) (.nil) (.nil))) (.node (o61_7 P) (.node (o93_9 P) (.nil) (.nil)) (.node (b3sub 29) (.nil) (.nil))))))) (.node (boot_o_2 P) (.node (boot_o_4 P) (.node (boot_o_8 P) (.node (o16_7 P) (.node (o32_7 P) (.node (o64_7 P) (.node (b3sub 32) (.nil) (.nil)) (.nil)) (.node (b3o P 39) (.nil) (.nil))) (.node (o48_7 P) (.node (o80_8 P) (.nil) (.nil)) (.node (b3sub 16) (.nil) (.nil)))) (.node (o24_7 P) (.node (o40_7 P) (.node (o72_7 P) (.nil) (.nil)) (.node (b3sub 8) (.nil) (.nil))) (.node (o56_7 P) (.node (o88_8 P) (.nil) (.nil)) (.node (b3sub 24) (.nil) (.nil))))) (.node (o12_9 P) (.node (o20_7 P) (.node (o36_7 P) (.node (o68_7 P) (.node (b3sub 36) (.nil) (.nil)) (.nil)) (.node (b3sub 4) (.nil) (.nil))) (.node (o52_7 P) (.node (o84_8 P) (.nil) (.nil)) (.node (b3sub 20) (.nil) (.nil)))) (.node (o28_7 P) (.node (o44_7 P) (.node (o76_7 P) (.nil) (.nil)) (.node (b3sub 12) (.nil) (.nil))) (.node (o60_7 P) (.node (o92_9 P) (.nil) (.nil)) (.node (b3sub 28) (.nil) (.nil)))))) (.node (boot_o_6 P) (.node (boot_o_10 P) (.node (o18_7 P) (.node (o34_7 P) (.node (o66_7 P) (.node (b3sub 34) (.nil) (.nil)) (.nil)) (.node (b3sub 2) (.nil) (.nil))) (.node (o50_7 P) (.node (o82_8 P) (.nil) (.nil)) (.node (b3sub 18) (.nil) (.nil)))) (.node (o26_7 P) (.node (o42_7 P) (.node (o74_7 P) (.nil) (.nil)) (.node (b3sub 10) (.nil) (.nil))) (.node (o58_7 P) (.node (o90_9 P) (.nil) (.nil)) (.node (b3sub 26) (.nil) (.nil))))) (.node (o14_a P) (.node (o22_7 P) (.node (o38_7 P) (.node (o70_7 P) (.node (b3sub 38) (.nil) (.nil)) (.nil)) (.node (b3sub 6) (.nil) (.nil))) (.node (o54_7 P) (.node (o86_8 P) (.nil) (.nil)) (.node (b3sub 22) (.nil) (.nil)))) (.node (o30_7 P) (.node (o46_7 P) (.node (o78_8 P) (.nil) (.nil)) (.node (b3sub 14) (.nil) (.nil))) (.node (o62_7 P) (.node (o94_9 P) (.nil) (.nil)) (.node (b3sub 30) (.nil) (.nil)))))))
noncomputable def o3_32 (P : Params) : Obj := ⟨.type "dict", none, .dict (ar [e P "__name__" 165 (.str (S "law_to0073_01") 2347), e P "__doc__" 166 (.none), e P "__package__" 167 (.none), e P "__loader__" 168 (.builtin "__main__.__loader__#opaque"), e P "__spec__" 169 (.none), e P "__annotations__" 170 (.ref 6), e P "__builtins__" 171 (.ref 4), e P "__file__" 173 (.str (S "/claim/cut.py") 172), e P "__cached__" 174 (.none), e P "_wall" 193 (.ref 21), e P "_strcoll" 203 (.ref 28), e P "CHAR_MAX" 205 (.int 127 204), e P "_grouping_intervals" 214 (.ref 35), e P "_netrclex" 274 (.ref 73), e P "b1_set" 336 (.ref 85), e P "in_table_b1" 343 (.ref 95), e P "b3_exceptions" 2294 (.ref 96), e P "map_table_b3" 2302 (.ref 141), e P "_raise_serialization_error" 2311 (.ref 148), e P "_escape_cdata" 2318 (.ref 155), e P "_escape_attrib" 2325 (.ref 162), e P "_escape_attrib_html" 2332 (.ref 169), e P "_escape_cdata_c14n" 2339 (.ref 176), e P "_escape_attrib_c14n" 2346 (.ref 183), e P "_law_lexer" 2359 (.ref 190), e P "_law_words" 2368 (.ref 197), e P "_law_prepared" 2374 (.ref 202), e P "_law_written" 2382 (.ref 209), e P "_law_meant" 2391 (.ref 216), e P "_law_typed" 2397 (.ref 221), e P "_law_sizes" 2403 (.ref 226), e P "_law_rows" 2409 (.ref 231), e P "_law_filled" 2415 (.ref 236), e P "_law_single" 2426 (.ref 243), e P "_law_table" 2432 (.ref 248), e P "_law_determinant" 2438 (.ref 253), e P "law" 2444 (.ref 258)]) 37, ar []⟩
noncomputable def o12_32 (P : Params) : Obj := ⟨.none, none, .fields (ar [.int 1 0, .int 0 0, .ref 20, .int 5 0, .int 0 0, .ref 27, .int 8 0, .int 0 0, .ref 34, .int 21 0, .int 0 0, .ref 41, .int 66 0, .int 0 0, .ref 94, .int 69 0, .int 0 0, .ref 140, .int 75 0, .int 0 0, .ref 147, .int 77 0, .int 0 0, .ref 154, .int 88 0, .int 0 0, .ref 161, .int 107 0, .int 0 0, .ref 168, .int 118 0, .int 0 0, .ref 175, .int 131 0, .int 0 0, .ref 182, .int 149 0, .int 0 0, .ref 189, .int 159 0, .int 0 0, .ref 196, .int 166 0, .int 0 0, .ref 201, .int 168 0, .int 0 0, .ref 208, .int 178 0, .int 0 0, .ref 215, .int 185 0, .int 0 0, .ref 220, .int 194 0, .int 0 0, .ref 225, .int 203 0, .int 0 0, .ref 230, .int 208 0, .int 0 0, .ref 235, .int 221 0, .int 0 0, .ref 242, .int 227 0, .int 0 0, .ref 247, .int 233 0, .int 0 0, .ref 252, .int 241 0, .int 0 0, .ref 257]), ar []⟩
noncomputable def o135_32 (P : Params) : Obj := ⟨.type "tuple", none, .seq (ar []) 0, ar []⟩
noncomputable def o136_32 (P : Params) : Obj := ⟨.none, none, .fields (ar []), ar []⟩
noncomputable def o137_32 (P : Params) : Obj := ⟨.type "tuple", none, .seq (ar [.str (S "code") 2298, .str (S "r") 2299]) 0, ar []⟩
noncomputable def o138_32 (P : Params) : Obj := ⟨.type "tuple", none, .seq (ar []) 0, ar []⟩
noncomputable def o139_32 (P : Params) : Obj := ⟨.none, none, .func (fd (st 11) "map_table_b3" 0 (.none) (.none) 0), ar []⟩
noncomputable def o140_32 (P : Params) : Obj := ⟨.type "code", none, .fields (ar [.str (S "map_table_b3") 2295, .str (S "map_table_b3") 2296, .str (S "/claim/cut.py") 2297, .int 69 0, .int 1 0, .int 0 0, .int 0 0, .int 3 0, .ref 135, .bool true, .int 181 0, .ref 136, .none, .ref 137, .ref 138, .ref 139, .int 2300 0, .int 69 0, .str (S "/claim/cut.py") 2301]), ar []⟩
noncomputable def o141_32 (P : Params) : Obj := ⟨.type "function", none, .func (fd (st 11) "map_table_b3" 3 (.str (S "cpy313.stringprep") 275) (.ref 140) 0), ar []⟩
noncomputable def o142_32 (P : Params) : Obj := ⟨.type "tuple", none, .seq (ar []) 0, ar []⟩
noncomputable def o143_32 (P : Params) : Obj := ⟨.none, none, .fields (ar []), ar []⟩
noncomputable def o144_32 (P : Params) : Obj := ⟨.type "tuple", none, .seq (ar [.str (S "text") 2308]) 0, ar []⟩
noncomputable def o145_32 (P : Params) : Obj := ⟨.type "tuple", none, .seq (ar []) 0, ar []⟩
noncomputable def o146_32 (P : Params) : Obj := ⟨.none, none, .func (fd (st 13) "_raise_serialization_error" 0 (.none) (.none) 0), ar []⟩
noncomputable def o147_32 (P : Params) : Obj := ⟨.type "code", none, .fields (ar [.str (S "_raise_serialization_error") 2305, .str (S "_raise_serialization_error") 2306, .str (S "/claim/cut.py") 2307, .int 75 0, .int 1 0, .int 0 0, .int 0 0, .int 3 0, .ref 142, .bool true, .int 181 0, .ref 143, .none, .ref 144, .ref 145, .ref 146, .int 2309 0, .int 75 0, .str (S "/claim/cut.py") 2310]), ar []⟩
noncomputable def o148_32 (P : Params) : Obj := ⟨.type "function", none, .func (fd (st 13) "_raise_serialization_error" 3 (.str (S "cpy313.xml.etree.ElementTree") 2303) (.ref 147) 0), ar []⟩
noncomputable def o149_32 (P : Params) : Obj := ⟨.type "tuple", none, .seq (ar []) 0, ar []⟩
noncomputable def o150_32 (P : Params) : Obj := ⟨.none, none, .fields (ar []), ar []⟩
noncomputable def o151_32 (P : Params) : Obj := ⟨.type "tuple", none, .seq (ar [.str (S "text") 2315]) 0, ar []⟩
noncomputable def o152_32 (P : Params) : Obj := ⟨.type "tuple", none, .seq (ar []) 0, ar []⟩
noncomputable def o153_32 (P : Params) : Obj := ⟨.none, none, .func (fd (st 14) "_escape_cdata" 0 (.none) (.none) 0), ar []⟩
noncomputable def o154_32 (P : Params) : Obj := ⟨.type "code", none, .fields (ar [.str (S "_escape_cdata") 2312, .str (S "_escape_cdata") 2313, .str (S "/claim/cut.py") 2314, .int 77 0, .int 1 0, .int 0 0, .int 0 0, .int 3 0, .ref 149, .bool true, .int 181 0, .ref 150, .none, .ref 151, .ref 152, .ref 153, .int 2316 0, .int 77 0, .str (S "/claim/cut.py") 2317]), ar []⟩
noncomputable def o155_32 (P : Params) : Obj := ⟨.type "function", none, .func (fd (st 14) "_escape_cdata" 3 (.str (S "cpy313.xml.etree.ElementTree") 2303) (.ref 154) 0), ar []⟩
noncomputable def o156_32 (P : Params) : Obj := ⟨.type "tuple", none, .seq (ar []) 0, ar []⟩
noncomputable def o157_32 (P : Params) : Obj := ⟨.none, none, .fields (ar []), ar []⟩
noncomputable def o158_32 (P : Params) : Obj := ⟨.type "tuple", none, .seq (ar [.str (S "text") 2322]) 0, ar []⟩
noncomputable def o159_32 (P : Params) : Obj := ⟨.type "tuple", none, .seq (ar []) 0, ar []⟩
noncomputable def o160_32 (P : Params) : Obj := ⟨.none, none, .func (fd (st 15) "_escape_attrib" 0 (.none) (.none) 0), ar []⟩
noncomputable def o161_32 (P : Params) : Obj := ⟨.type "code", none, .fields (ar [.str (S "_escape_attrib") 2319, .str (S "_escape_attrib") 2320, .str (S "/claim/cut.py") 2321, .int 88 0, .int 1 0, .int 0 0, .int 0 0, .int 3 0, .ref 156, .bool true, .int 181 0, .ref 157, .none, .ref 158, .ref 159, .ref 160, .int 2323 0, .int 88 0, .str (S "/claim/cut.py") 2324]), ar []⟩
noncomputable def o162_32 (P : Params) : Obj := ⟨.type "function", none, .func (fd (st 15) "_escape_attrib" 3 (.str (S "cpy313.xml.etree.ElementTree") 2303) (.ref 161) 0), ar []⟩
noncomputable def o163_32 (P : Params) : Obj := ⟨.type "tuple", none, .seq (ar []) 0, ar []⟩
noncomputable def o164_32 (P : Params) : Obj := ⟨.none, none, .fields (ar []), ar []⟩
noncomputable def o165_32 (P : Params) : Obj := ⟨.type "tuple", none, .seq (ar [.str (S "text") 2329]) 0, ar []⟩
noncomputable def o166_32 (P : Params) : Obj := ⟨.type "tuple", none, .seq (ar []) 0, ar []⟩
noncomputable def o167_32 (P : Params) : Obj := ⟨.none, none, .func (fd (st 16) "_escape_attrib_html" 0 (.none) (.none) 0), ar []⟩
noncomputable def o168_32 (P : Params) : Obj := ⟨.type "code", none, .fields (ar [.str (S "_escape_attrib_html") 2326, .str (S "_escape_attrib_html") 2327, .str (S "/claim/cut.py") 2328, .int 107 0, .int 1 0, .int 0 0, .int 0 0, .int 3 0, .ref 163, .bool true, .int 181 0, .ref 164, .none, .ref 165, .ref 166, .ref 167, .int 2330 0, .int 107 0, .str (S "/claim/cut.py") 2331]), ar []⟩
noncomputable def o169_32 (P : Params) : Obj := ⟨.type "function", none, .func (fd (st 16) "_escape_attrib_html" 3 (.str (S "cpy313.xml.etree.ElementTree") 2303) (.ref 168) 0), ar []⟩
noncomputable def o170_32 (P : Params) : Obj := ⟨.type "tuple", none, .seq (ar []) 0, ar []⟩
noncomputable def o171_32 (P : Params) : Obj := ⟨.none, none, .fields (ar []), ar []⟩
noncomputable def o172_32 (P : Params) : Obj := ⟨.type "tuple", none, .seq (ar [.str (S "text") 2336]) 0, ar []⟩
noncomputable def o173_32 (P : Params) : Obj := ⟨.type "tuple", none, .seq (ar []) 0, ar []⟩
noncomputable def o174_32 (P : Params) : Obj := ⟨.none, none, .func (fd (st 17) "_escape_cdata_c14n" 0 (.none) (.none) 0), ar []⟩
noncomputable def o175_32 (P : Params) : Obj := ⟨.type "code", none, .fields (ar [.str (S "_escape_cdata_c14n") 2333, .str (S "_escape_cdata_c14n") 2334, .str (S "/claim/cut.py") 2335, .int 118 0, .int 1 0, .int 0 0, .int 0 0, .int 3 0, .ref 170, .bool true, .int 181 0, .ref 171, .none, .ref 172, .ref 173, .ref 174, .int 2337 0, .int 118 0, .str (S "/claim/cut.py") 2338]), ar []⟩
noncomputable def o176_32 (P : Params) : Obj := ⟨.type "function", none, .func (fd (st 17) "_escape_cdata_c14n" 3 (.str (S "cpy313.xml.etree.ElementTree") 2303) (.ref 175) 0), ar []⟩
noncomputable def o177_32 (P : Params) : Obj := ⟨.type "tuple", none, .seq (ar []) 0, ar []⟩
noncomputable def o178_32 (P : Params) : Obj := ⟨.none, none, .fields (ar []), ar []⟩
noncomputable def o179_32 (P : Params) : Obj := ⟨.type "tuple", none, .seq (ar [.str (S "text") 2343]) 0, ar []⟩
noncomputable def o180_32 (P : Params) : Obj := ⟨.type "tuple", none, .seq (ar []) 0, ar []⟩
noncomputable def o181_32 (P : Params) : Obj := ⟨.none, none, .func (fd (st 18) "_escape_attrib_c14n" 0 (.none) (.none) 0), ar []⟩
noncomputable def o182_32 (P : Params) : Obj := ⟨.type "code", none, .fields (ar [.str (S "_escape_attrib_c14n") 2340, .str (S "_escape_attrib_c14n") 2341, .str (S "/claim/cut.py") 2342, .int 131 0, .int 1 0, .int 0 0, .int 0 0, .int 3 0, .ref 177, .bool true, .int 181 0, .ref 178, .none, .ref 179, .ref 180, .ref 181, .int 2344 0, .int 131 0, .str (S "/claim/cut.py") 2345]), ar []⟩
noncomputable def o183_32 (P : Params) : Obj := ⟨.type "function", none, .func (fd (st 18) "_escape_attrib_c14n" 3 (.str (S "cpy313.xml.etree.ElementTree") 2303) (.ref 182) 0), ar []⟩
noncomputable def o184_32 (P : Params) : Obj := ⟨.type "tuple", none, .seq (ar []) 0, ar []⟩
noncomputable def o185_32 (P : Params) : Obj := ⟨.none, none, .fields (ar []), ar []⟩
noncomputable def o186_32 (P : Params) : Obj := ⟨.type "tuple", none, .seq (ar [.str (S "text") 2352, .str (S "stream") 2353, .str (S "_law_piece") 2354]) 0, ar []⟩
noncomputable def o187_32 (P : Params) : Obj := ⟨.type "tuple", none, .seq (ar [.str (S "text") 2355, .str (S "gone") 2356]) 0, ar []⟩
noncomputable def o188_32 (P : Params) : Obj := ⟨.none, none, .func (fd (st 20) "_law_lexer" 0 (.none) (.none) 0), ar []⟩
noncomputable def o189_32 (P : Params) : Obj := ⟨.type "code", none, .fields (ar [.str (S "_law_lexer") 2349, .str (S "_law_lexer") 2350, .str (S "/claim/cut.py") 2351, .int 149 0, .int 1 0, .int 0 0, .int 0 0, .int 3 0, .ref 184, .bool true, .int 181 0, .ref 185, .none, .ref 186, .ref 187, .ref 188, .int 2357 0, .int 149 0, .str (S "/claim/cut.py") 2358]), ar []⟩
noncomputable def o190_32 (P : Params) : Obj := ⟨.type "function", none, .func (fd (st 20) "_law_lexer" 3 (.str (S "law_to0073_01") 2347) (.ref 189) 0), ar []⟩
noncomputable def o191_32 (P : Params) : Obj := ⟨.type "tuple", none, .seq (ar []) 0, ar []⟩
noncomputable def o192_32 (P : Params) : Obj := ⟨.none, none, .fields (ar []), ar []⟩
noncomputable def o193_32 (P : Params) : Obj := ⟨.type "tuple", none, .seq (ar [.str (S "lexer") 2363, .str (S "words") 2364, .str (S "word") 2365]) 0, ar []⟩
noncomputable def o194_32 (P : Params) : Obj := ⟨.type "tuple", none, .seq (ar []) 0, ar []⟩
noncomputable def o195_32 (P : Params) : Obj := ⟨.none, none, .func (fd (st 21) "_law_words" 0 (.none) (.none) 0), ar []⟩
noncomputable def o196_32 (P : Params) : Obj := ⟨.type "code", none, .fields (ar [.str (S "_law_words") 2360, .str (S "_law_words") 2361, .str (S "/claim/cut.py") 2362, .int 159 0, .int 1 0, .int 0 0, .int 0 0, .int 3 0, .ref 191, .bool true, .int 181 0, .ref 192, .none, .ref 193, .ref 194, .ref 195, .int 2366 0, .int 159 0, .str (S "/claim/cut.py") 2367]), ar []⟩
noncomputable def o197_32 (P : Params) : Obj := ⟨.type "function", none, .func (fd (st 21) "_law_words" 3 (.str (S "law_to0073_01") 2347) (.ref 196) 0), ar []⟩
noncomputable def o198_32 (P : Params) : Obj := ⟨.type "tuple", none, .seq (ar []) 0, ar []⟩
noncomputable def o199_32 (P : Params) : Obj := ⟨.none, none, .fields (ar []), ar []⟩
noncomputable def o200_32 (P : Params) : Obj := ⟨.none, none, .func (fd (st 22) "_law_prepared" 0 (.none) (.none) 0), ar []⟩
noncomputable def o201_32 (P : Params) : Obj := ⟨.type "code", none, .fields (ar [.str (S "_law_prepared") 2369, .str (S "_law_prepared") 2370, .str (S "/claim/cut.py") 2371, .int 166 0, .int 1 0, .int 0 0, .int 0 0, .int 3 0, .ref 198, .bool true, .int 181 0, .ref 199, .none, .none, .none, .ref 200, .int 2372 0, .int 166 0, .str (S "/claim/cut.py") 2373]), ar []⟩
noncomputable def o202_32 (P : Params) : Obj := ⟨.type "function", none, .func (fd (st 22) "_law_prepared" 3 (.str (S "law_to0073_01") 2347) (.ref 201) 0), ar []⟩
noncomputable def o203_32 (P : Params) : Obj := ⟨.type "tuple", none, .seq (ar []) 0, ar []⟩
noncomputable def o204_32 (P : Params) : Obj := ⟨.none, none, .fields (ar []), ar []⟩
noncomputable def o205_32 (P : Params) : Obj := ⟨.type "tuple", none, .seq (ar [.str (S "kind") 2378, .str (S "sign") 2379]) 0, ar []⟩
noncomputable def o206_32 (P : Params) : Obj := ⟨.type "tuple", none, .seq (ar []) 0, ar []⟩
noncomputable def o207_32 (P : Params) : Obj := ⟨.none, none, .func (fd (st 23) "_law_written" 0 (.none) (.none) 0), ar []⟩
noncomputable def o208_32 (P : Params) : Obj := ⟨.type "code", none, .fields (ar [.str (S "_law_written") 2375, .str (S "_law_written") 2376, .str (S "/claim/cut.py") 2377, .int 168 0, .int 2 0, .int 0 0, .int 0 0, .int 3 0, .ref 203, .bool true, .int 181 0, .ref 204, .none, .ref 205, .ref 206, .ref 207, .int 2380 0, .int 168 0, .str (S "/claim/cut.py") 2381]), ar []⟩
noncomputable def o209_32 (P : Params) : Obj := ⟨.type "function", none, .func (fd (st 23) "_law_written" 3 (.str (S "law_to0073_01") 2347) (.ref 208) 0), ar []⟩
noncomputable def o210_32 (P : Params) : Obj := ⟨.type "tuple", none, .seq (ar []) 0, ar []⟩
noncomputable def o211_32 (P : Params) : Obj := ⟨.none, none, .fields (ar []), ar []⟩
noncomputable def o212_32 (P : Params) : Obj := ⟨.type "tuple", none, .seq (ar [.str (S "kind") 2386, .str (S "sign") 2387, .str (S "place") 2388]) 0, ar []⟩
noncomputable def o213_32 (P : Params) : Obj := ⟨.type "tuple", none, .seq (ar []) 0, ar []⟩
noncomputable def o214_32 (P : Params) : Obj := ⟨.none, none, .func (fd (st 24) "_law_meant" 0 (.none) (.none) 0), ar []⟩
noncomputable def o215_32 (P : Params) : Obj := ⟨.type "code", none, .fields (ar [.str (S "_law_meant") 2383, .str (S "_law_meant") 2384, .str (S "/claim/cut.py") 2385, .int 178 0, .int 2 0, .int 0 0, .int 0 0, .int 3 0, .ref 210, .bool true, .int 181 0, .ref 211, .none, .ref 212, .ref 213, .ref 214, .int 2389 0, .int 178 0, .str (S "/claim/cut.py") 2390]), ar []⟩
noncomputable def o216_32 (P : Params) : Obj := ⟨.type "function", none, .func (fd (st 24) "_law_meant" 3 (.str (S "law_to0073_01") 2347) (.ref 215) 0), ar []⟩
noncomputable def o217_32 (P : Params) : Obj := ⟨.type "tuple", none, .seq (ar []) 0, ar []⟩
noncomputable def o218_32 (P : Params) : Obj := ⟨.none, none, .fields (ar []), ar []⟩
noncomputable def o219_32 (P : Params) : Obj := ⟨.none, none, .func (fd (st 25) "_law_typed" 0 (.none) (.none) 0), ar []⟩
noncomputable def o220_32 (P : Params) : Obj := ⟨.type "code", none, .fields (ar [.str (S "_law_typed") 2392, .str (S "_law_typed") 2393, .str (S "/claim/cut.py") 2394, .int 185 0, .int 2 0, .int 0 0, .int 0 0, .int 3 0, .ref 217, .bool true, .int 181 0, .ref 218, .none, .none, .none, .ref 219, .int 2395 0, .int 185 0, .str (S "/claim/cut.py") 2396]), ar []⟩
noncomputable def o221_32 (P : Params) : Obj := ⟨.type "function", none, .func (fd (st 25) "_law_typed" 3 (.str (S "law_to0073_01") 2347) (.ref 220) 0), ar []⟩
noncomputable def o222_32 (P : Params) : Obj := ⟨.type "tuple", none, .seq (ar []) 0, ar []⟩
noncomputable def o223_32 (P : Params) : Obj := ⟨.none, none, .fields (ar []), ar []⟩
noncomputable def o224_32 (P : Params) : Obj := ⟨.none, none, .func (fd (st 26) "_law_sizes" 0 (.none) (.none) 0), ar []⟩
noncomputable def o225_32 (P : Params) : Obj := ⟨.type "code", none, .fields (ar [.str (S "_law_sizes") 2398, .str (S "_law_sizes") 2399, .str (S "/claim/cut.py") 2400, .int 194 0, .int 1 0, .int 0 0, .int 0 0, .int 3 0, .ref 222, .bool true, .int 181 0, .ref 223, .none, .none, .none, .ref 224, .int 2401 0, .int 194 0, .str (S "/claim/cut.py") 2402]), ar []⟩
noncomputable def o226_32 (P : Params) : Obj := ⟨.type "function", none, .func (fd (st 26) "_law_sizes" 3 (.str (S "law_to0073_01") 2347) (.ref 225) 0), ar []⟩
noncomputable def o227_32 (P : Params) : Obj := ⟨.type "tuple", none, .seq (ar []) 0, ar []⟩
noncomputable def o228_32 (P : Params) : Obj := ⟨.none, none, .fields (ar []), ar []⟩
noncomputable def o229_32 (P : Params) : Obj := ⟨.none, none, .func (fd (st 27) "_law_rows" 0 (.none) (.none) 0), ar []⟩
noncomputable def o230_32 (P : Params) : Obj := ⟨.type "code", none, .fields (ar [.str (S "_law_rows") 2404, .str (S "_law_rows") 2405, .str (S "/claim/cut.py") 2406, .int 203 0, .int 3 0, .int 0 0, .int 0 0, .int 3 0, .ref 227, .bool true, .int 181 0, .ref 228, .none, .none, .none, .ref 229, .int 2407 0, .int 203 0, .str (S "/claim/cut.py") 2408]), ar []⟩
noncomputable def o231_32 (P : Params) : Obj := ⟨.type "function", none, .func (fd (st 27) "_law_rows" 3 (.str (S "law_to0073_01") 2347) (.ref 230) 0), ar []⟩
noncomputable def o232_32 (P : Params) : Obj := ⟨.type "tuple", none, .seq (ar []) 0, ar []⟩
noncomputable def o233_32 (P : Params) : Obj := ⟨.none, none, .fields (ar []), ar []⟩
noncomputable def o234_32 (P : Params) : Obj := ⟨.none, none, .func (fd (st 28) "_law_filled" 0 (.none) (.none) 0), ar []⟩
noncomputable def o235_32 (P : Params) : Obj := ⟨.type "code", none, .fields (ar [.str (S "_law_filled") 2410, .str (S "_law_filled") 2411, .str (S "/claim/cut.py") 2412, .int 208 0, .int 4 0, .int 0 0, .int 0 0, .int 3 0, .ref 232, .bool true, .int 181 0, .ref 233, .none, .none, .none, .ref 234, .int 2413 0, .int 208 0, .str (S "/claim/cut.py") 2414]), ar []⟩
noncomputable def o236_32 (P : Params) : Obj := ⟨.type "function", none, .func (fd (st 28) "_law_filled" 3 (.str (S "law_to0073_01") 2347) (.ref 235) 0), ar []⟩
noncomputable def o237_32 (P : Params) : Obj := ⟨.type "tuple", none, .seq (ar []) 0, ar []⟩
noncomputable def o238_32 (P : Params) : Obj := ⟨.none, none, .fields (ar []), ar []⟩
noncomputable def o239_32 (P : Params) : Obj := ⟨.type "tuple", none, .seq (ar [.str (S "counts") 2419, .str (S "places") 2420, .str (S "ways") 2421, .str (S "many") 2422, .str (S "place") 2423]) 0, ar []⟩
noncomputable def o240_32 (P : Params) : Obj := ⟨.type "tuple", none, .seq (ar []) 0, ar []⟩
noncomputable def o241_32 (P : Params) : Obj := ⟨.none, none, .func (fd (st 29) "_law_single" 0 (.none) (.none) 0), ar []⟩
noncomputable def o242_32 (P : Params) : Obj := ⟨.type "code", none, .fields (ar [.str (S "_law_single") 2416, .str (S "_law_single") 2417, .str (S "/claim/cut.py") 2418, .int 221 0, .int 2 0, .int 0 0, .int 0 0, .int 3 0, .ref 237, .bool true, .int 181 0, .ref 238, .none, .ref 239, .ref 240, .ref 241, .int 2424 0, .int 221 0, .str (S "/claim/cut.py") 2425]), ar []⟩
noncomputable def o243_32 (P : Params) : Obj := ⟨.type "function", none, .func (fd (st 29) "_law_single" 3 (.str (S "law_to0073_01") 2347) (.ref 242) 0), ar []⟩
noncomputable def o244_32 (P : Params) : Obj := ⟨.type "tuple", none, .seq (ar []) 0, ar []⟩
noncomputable def o245_32 (P : Params) : Obj := ⟨.none, none, .fields (ar []), ar []⟩
noncomputable def o246_32 (P : Params) : Obj := ⟨.none, none, .func (fd (st 30) "_law_table" 0 (.none) (.none) 0), ar []⟩
noncomputable def o247_32 (P : Params) : Obj := ⟨.type "code", none, .fields (ar [.str (S "_law_table") 2427, .str (S "_law_table") 2428, .str (S "/claim/cut.py") 2429, .int 227 0, .int 2 0, .int 0 0, .int 0 0, .int 3 0, .ref 244, .bool true, .int 181 0, .ref 245, .none, .none, .none, .ref 246, .int 2430 0, .int 227 0, .str (S "/claim/cut.py") 2431]), ar []⟩
noncomputable def o248_32 (P : Params) : Obj := ⟨.type "function", none, .func (fd (st 30) "_law_table" 3 (.str (S "law_to0073_01") 2347) (.ref 247) 0), ar []⟩
noncomputable def o249_32 (P : Params) : Obj := ⟨.type "tuple", none, .seq (ar []) 0, ar []⟩
noncomputable def o250_32 (P : Params) : Obj := ⟨.none, none, .fields (ar []), ar []⟩
noncomputable def o251_32 (P : Params) : Obj := ⟨.none, none, .func (fd (st 31) "_law_determinant" 0 (.none) (.none) 0), ar []⟩
noncomputable def o252_32 (P : Params) : Obj := ⟨.type "code", none, .fields (ar [.str (S "_law_determinant") 2433, .str (S "_law_determinant") 2434, .str (S "/claim/cut.py") 2435, .int 233 0, .int 1 0, .int 0 0, .int 0 0, .int 3 0, .ref 249, .bool true, .int 181 0, .ref 250, .none, .none, .none, .ref 251, .int 2436 0, .int 233 0, .str (S "/claim/cut.py") 2437]), ar []⟩
noncomputable def o253_32 (P : Params) : Obj := ⟨.type "function", none, .func (fd (st 31) "_law_determinant" 3 (.str (S "law_to0073_01") 2347) (.ref 252) 0), ar []⟩
noncomputable def o254_32 (P : Params) : Obj := ⟨.type "tuple", none, .seq (ar []) 0, ar []⟩
noncomputable def o255_32 (P : Params) : Obj := ⟨.none, none, .fields (ar []), ar []⟩
noncomputable def o256_32 (P : Params) : Obj := ⟨.none, none, .func (fd (st 32) "law" 0 (.none) (.none) 0), ar []⟩
noncomputable def o257_32 (P : Params) : Obj := ⟨.type "code", none, .fields (ar [.str (S "law") 2439, .str (S "law") 2440, .str (S "/claim/cut.py") 2441, .int 241 0, .int 1 0, .int 0 0, .int 0 0, .int 3 0, .ref 254, .bool true, .int 181 0, .ref 255, .none, .none, .none, .ref 256, .int 2442 0, .int 241 0, .str (S "/claim/cut.py") 2443]), ar []⟩
noncomputable def o258_32 (P : Params) : Obj := ⟨.type "function", none, .func (fd (st 32) "law" 3 (.str (S "law_to0073_01") 2347) (.ref 257) 0), ar []⟩
noncomputable def t32 (P : Params) : BT := .node (boot_o_0 P) (.node (boot_o_1 P) (.node (o3_32 P) (.node (boot_o_7 P) (.node (o15_7 P) (.node (o31_7 P) (.node (o63_7 P) (.node (b3sub 31) (.node (o255_32 P) (.nil) (.nil)) (.nil)) (.node (o191_32 P) (.nil) (.nil))) (.node (o95_9 P) (.node (o159_32 P) (.nil) (.nil)) (.node (o223_32 P) (.nil) (.nil)))) (.node (o47_7 P) (.node (o79_8 P) (.node (o143_32 P) (.nil) (.nil)) (.node (o207_32 P) (.nil) (.nil))) (.node (b3sub 15) (.node (o175_32 P) (.nil) (.nil)) (.node (o239_32 P) (.nil) (.nil))))) (.node (o23_7 P) (.node (o39_7 P) (.node (o71_7 P) (.node (o135_32 P) (.nil) (.nil)) (.node (o199_32 P) (.nil) (.nil))) (.node (b3sub 7) (.node (o167_32 P) (.nil) (.nil)) (.node (o231_32 P) (.nil) (.nil)))) (.node (o55_7 P) (.node (o87_8 P) (.node (o151_32 P) (.nil) (.nil)) (.node (o215_32 P) (.nil) (.nil))) (.node (b3sub 23) (.node (o183_32 P) (.nil) (.nil)) (.node (o247_32 P) (.nil) (.nil)))))) (.node (o11_a P) (.node (o19_7 P) (.node (o35_7 P) (.node (o67_7 P) (.node (b3sub 35) (.nil) (.nil)) (.node (o195_32 P) (.nil) (.nil))) (.node (b3sub 3) (.node (o163_32 P) (.nil) (.nil)) (.node (o227_32 P) (.nil) (.nil)))) (.node (o51_7 P) (.node (o83_8 P) (.node (o147_32 P) (.nil) (.nil)) (.node (o211_32 P) (.nil) (.nil))) (.node (b3sub 19) (.node (o179_32 P) (.nil) (.nil)) (.node (o243_32 P) (.nil) (.nil))))) (.node (o27_7 P) (.node (o43_7 P) (.node (o75_7 P) (.node (o139_32 P) (.nil) (.nil)) (.node (o203_32 P) (.nil) (.nil))) (.node (b3sub 11) (.node (o171_32 P) (.nil) (.nil)) (.node (o235_32 P) (.nil) (.nil)))) (.node (o59_7 P) (.node (o91_9 P) (.node (o155_32 P) (.nil) (.nil)) (.node (o219_32 P) (.nil) (.nil))) (.node (b3sub 27) (.node (o187_32 P) (.nil) (.nil)) (.node (o251_32 P) (.nil) (.nil))))))) (.node (boot_o_5 P) (.node (boot_o_9 P) (.node (o17_7 P) (.node (o33_7 P) (.node (o65_7 P) (.node (b3sub 33) (.node (o257_32 P) (.nil) (.nil)) (.nil)) (.node (o193_32 P) (.nil) (.nil))) (.node (b3sub 1) (.node (o161_32 P) (.nil) (.nil)) (.node (o225_32 P) (.nil) (.nil)))) (.node (o49_7 P) (.node (o81_8 P) (.node (o145_32 P) (.nil) (.nil)) (.node (o209_32 P) (.nil) (.nil))) (.node (b3sub 17) (.node (o177_32 P) (.nil) (.nil)) (.node (o241_32 P) (.nil) (.nil))))) (.node (o25_7 P) (.node (o41_7 P) (.node (o73_7 P) (.node (o137_32 P) (.nil) (.nil)) (.node (o201_32 P) (.nil) (.nil))) (.node (b3sub 9) (.node (o169_32 P) (.nil) (.nil)) (.node (o233_32 P) (.nil) (.nil)))) (.node (o57_7 P) (.node (o89_9 P) (.node (o153_32 P) (.nil) (.nil)) (.node (o217_32 P) (.nil) (.nil))) (.node (b3sub 25) (.node (o185_32 P) (.nil) (.nil)) (.node (o249_32 P) (.nil) (.nil)))))) (.node (o13_a P) (.node (o21_7 P) (.node (o37_7 P) (.node (o69_7 P) (.node (b3sub 37) (.nil) (.nil)) (.node (o197_32 P) (.nil) (.nil))) (.node (b3sub 5) (.node (o165_32 P) (.nil) (.nil)) (.node (o229_32 P) (.nil) (.nil)))) (.node (o53_7 P) (.node (o85_8 P) (.node (o149_32 P) (.nil) (.nil)) (.node (o213_32 P) (.nil) (.nil))) (.node (b3sub 21) (.node (o181_32 P) (.nil) (.nil)) (.node (o245_32 P) (.nil) (.nil))))) (.node (o29_7 P) (.node (o45_7 P) (.node (o77_7 P) (.node (o141_32 P) (.nil) (.nil)) (.node (o205_32 P) (.nil) (.nil))) (.node (b3sub 13) (.node (o173_32 P) (.nil) (.nil)) (.node (o237_32 P) (.nil) (.nil)))) (.node (o61_7 P) (.node (o93_9 P) (.node (o157_32 P) (.nil) (.nil)) (.node (o221_32 P) (.nil) (.nil))) (.node (b3sub 29) (.node (o189_32 P) (.nil) (.nil)) (.node (o253_32 P) (.nil) (.nil)))))))) (.node (boot_o_2 P) (.node (boot_o_4 P) (.node (boot_o_8 P) (.node (o16_7 P) (.node (o32_7 P) (.node (o64_7 P) (.node (b3sub 32) (.node (o256_32 P) (.nil) (.nil)) (.nil)) (.node (o192_32 P) (.nil) (.nil))) (.node (b3o P 39) (.node (o160_32 P) (.nil) (.nil)) (.node (o224_32 P) (.nil) (.nil)))) (.node (o48_7 P) (.node (o80_8 P) (.node (o144_32 P) (.nil) (.nil)) (.node (o208_32 P) (.nil) (.nil))) (.node (b3sub 16) (.node (o176_32 P) (.nil) (.nil)) (.node (o240_32 P) (.nil) (.nil))))) (.node (o24_7 P) (.node (o40_7 P) (.node (o72_7 P) (.node (o136_32 P) (.nil) (.nil)) (.node (o200_32 P) (.nil) (.nil))) (.node (b3sub 8) (.node (o168_32 P) (.nil) (.nil)) (.node (o232_32 P) (.nil) (.nil)))) (.node (o56_7 P) (.node (o88_8 P) (.node (o152_32 P) (.nil) (.nil)) (.node (o216_32 P) (.nil) (.nil))) (.node (b3sub 24) (.node (o184_32 P) (.nil) (.nil)) (.node (o248_32 P) (.nil) (.nil)))))) (.node (o12_32 P) (.node (o20_7 P) (.node (o36_7 P) (.node (o68_7 P) (.node (b3sub 36) (.nil) (.nil)) (.node (o196_32 P) (.nil) (.nil))) (.node (b3sub 4) (.node (o164_32 P) (.nil) (.nil)) (.node (o228_32 P) (.nil) (.nil)))) (.node (o52_7 P) (.node (o84_8 P) (.node (o148_32 P) (.nil) (.nil)) (.node (o212_32 P) (.nil) (.nil))) (.node (b3sub 20) (.node (o180_32 P) (.nil) (.nil)) (.node (o244_32 P) (.nil) (.nil))))) (.node (o28_7 P) (.node (o44_7 P) (.node (o76_7 P) (.node (o140_32 P) (.nil) (.nil)) (.node (o204_32 P) (.nil) (.nil))) (.node (b3sub 12) (.node (o172_32 P) (.nil) (.nil)) (.node (o236_32 P) (.nil) (.nil)))) (.node (o60_7 P) (.node (o92_9 P) (.node (o156_32 P) (.nil) (.nil)) (.node (o220_32 P) (.nil) (.nil))) (.node (b3sub 28) (.node (o188_32 P) (.nil) (.nil)) (.node (o252_32 P) (.nil) (.nil))))))) (.node (boot_o_6 P) (.node (boot_o_10 P) (.node (o18_7 P) (.node (o34_7 P) (.node (o66_7 P) (.node (b3sub 34) (.node (o258_32 P) (.nil) (.nil)) (.nil)) (.node (o194_32 P) (.nil) (.nil))) (.node (b3sub 2) (.node (o162_32 P) (.nil) (.nil)) (.node (o226_32 P) (.nil) (.nil)))) (.node (o50_7 P) (.node (o82_8 P) (.node (o146_32 P) (.nil) (.nil)) (.node (o210_32 P) (.nil) (.nil))) (.node (b3sub 18) (.node (o178_32 P) (.nil) (.nil)) (.node (o242_32 P) (.nil) (.nil))))) (.node (o26_7 P) (.node (o42_7 P) (.node (o74_7 P) (.node (o138_32 P) (.nil) (.nil)) (.node (o202_32 P) (.nil) (.nil))) (.node (b3sub 10) (.node (o170_32 P) (.nil) (.nil)) (.node (o234_32 P) (.nil) (.nil)))) (.node (o58_7 P) (.node (o90_9 P) (.node (o154_32 P) (.nil) (.nil)) (.node (o218_32 P) (.nil) (.nil))) (.node (b3sub 26) (.node (o186_32 P) (.nil) (.nil)) (.node (o250_32 P) (.nil) (.nil)))))) (.node (o14_a P) (.node (o22_7 P) (.node (o38_7 P) (.node (o70_7 P) (.node (b3sub 38) (.nil) (.nil)) (.node (o198_32 P) (.nil) (.nil))) (.node (b3sub 6) (.node (o166_32 P) (.nil) (.nil)) (.node (o230_32 P) (.nil) (.nil)))) (.node (o54_7 P) (.node (o86_8 P) (.node (o150_32 P) (.nil) (.nil)) (.node (o214_32 P) (.nil) (.nil))) (.node (b3sub 22) (.node (o182_32 P) (.nil) (.nil)) (.node (o246_32 P) (.nil) (.nil))))) (.node (o30_7 P) (.node (o46_7 P) (.node (o78_8 P) (.node (o142_32 P) (.nil) (.nil)) (.node (o206_32 P) (.nil) (.nil))) (.node (b3sub 14) (.node (o174_32 P) (.nil) (.nil)) (.node (o238_32 P) (.nil) (.nil)))) (.node (o62_7 P) (.node (o94_9 P) (.node (o158_32 P) (.nil) (.nil)) (.node (o222_32 P) (.nil) (.nil))) (.node (b3sub 30) (.node (o190_32 P) (.nil) (.nil)) (.node (o254_32 P) (.nil) (.nil))))))))
theorem hB_tree (P : Params) : hB P (entL 344 (b3l.take 646) ++ entS 2282 (chunk b3l 38)) (subsL b3l 37 ++ [entS 2282 (chunk b3l 38)]) = absHeap (tM P) 135 {} := by kernel_rfl
end Mine
end
section
open PySem PySem.W PyProof.Rows
namespace Mine
theorem opn : opening pw = plainProg pw.main.scope.names := by kernel_rfl
theorem fen (s : Shared) : fenceModules? pw s = some s := by kernel_rfl
theorem bo : ∀ w : World, (fencedOpening treeTable pw w 30000).map (fun s => (s.heap, s.gens, s.drawn, s.toks)) = some (boot_heap w.params, Array.mk [], boot_drawn, boot_toks) := boot_open opn (by decide +kernel) fen
theorem pre : ∀ (w : World) (os : OsState), topGo treeTable pw w 11 ann 12 ⟨boot_heap w.params, Array.mk [], boot_drawn, boot_toks, os⟩ (topStub pw) = some (⟨ha w.params, #[], boot_drawn, 187, os⟩, ⟨denote treeTable cB, cB, p0, bB⟩) := by
  intro w os; kernel_rfl
theorem blk : ∀ (w : World) (os : OsState), segRun treeTable pw w 11 ann 1 1 ⟨ha w.params, #[], boot_drawn, 187, os⟩ (blockOf body env0 cB p0 bB) = some (.next, (sT ta 15 187 w os).abs, cB, p0) := by
  intro w os; kernel_rfl
theorem g1 : ∀ (w : World) (os : OsState), segRunT treeTable pw w 11 ann 1 450 (sT ta 15 187 w os) (piecesOf (body.take 8) env0 cB p0 bB) = some (.next, sT t7 78 277 w os, cB, ⟨64, 0, 64, 8⟩) := by
  intro w os
  rw [PySem.W.Fast.te10110043849684766642, PySem.W.Fast.te14364793385576792824]
  kernel_rfl
theorem g3 : ∀ (w : World) (os : OsState), segRunT treeTable pw w 11 ann 1 30 (sT t8 89 337 w os) (piecesOf ((body.drop 9).take 1) env0 cB ⟨65, 0, 65, 6⟩ bB) = some (.next, sT t9 96 344 w os, cB, ⟨66, 0, 67, 30⟩) := by
  intro w os; kernel_rfl
theorem g5 : ∀ (w : World) (os : OsState), segRunT treeTable pw w 11 ann 1 592 (sT t10 135 2295 w os) (piecesOf (body.drop 11) env0 cB ⟨68, 0, 68, 13⟩ bB) = some (.next, sT t32 259 2445 w os, cB, ⟨241, 0, 261, 87⟩) := by
  intro w os
  rw [PySem.W.Fast.te10110043849684766642, PySem.W.Fast.te14364793385576792824]
  kernel_rfl
theorem fin : ∀ (w : World) (os : OsState), topRun treeTable pw w 11 ann 2 (sT t32 259 2445 w os).abs ⟨doneF .next, cB, ⟨241, 0, 261, 87⟩, bB⟩ = some (sT t32 259 2445 w os).abs := by
  intro w os; kernel_rfl
end Mine
end
section
open PySem PySem.W PyProof.Rows
namespace Mine
variable {w : World} {s s1 s2 : Shared} {q q1 q2 : Pos} {P : Params} {os : OsState}
theorem go_store (w : World) (os : OsState) : Go w 7 ⟨absHeap (tM w.params) 135 {}, #[], boot_drawn, 2294, os⟩ b3pos (do standAt b3np; bindName env0 b3n (.ref 96); pure Flow.next) .next (sT t10 135 2295 w os).abs ⟨68, 0, 68, 13⟩ := fun K H gd lv => by
  kernel_rfl
theorem go_assignDict {l : List It} (hl : l.length = 650) (g : Good l) {n : Str} {np qq qe : Pos} {se : Shared}
    (st : Go w 7 (sS P (entL 344 (l.take 646) ++ entS 2282 (chunk l 38)) (subsL l 37 ++ [entS 2282 (chunk l 38)]) 2294 os) b3pos (do standAt np; bindName env0 n (.ref 96); pure Flow.next) .next se qe) :
    Go w 12524 (sA P os l 0) q (exec (.Assign [.Name n np] (.Dict (l.map fun x => some x.ke) (l.map It.ve) b3pos) qq) env0) .next se qe := by
  have e := exec_Assign_Name (env := env0) n np (.Dict (l.map fun x => some x.ke) (l.map It.ve) b3pos) qq rfl
  rw [e]
  refine go_mono (go_bind (n := 1) (k := 12523) go_standAt ?_)
  exact go_mono (go_bind (n := 12516) (k := 7) (go_evalDict (P := P) hl g) st)
theorem go_st10 (w : World) (os : OsState) : Go w 12524 (sT t9 96 344 w os).abs q (exec (st 10) env0) .next (sT t10 135 2295 w os).abs ⟨68, 0, 68, 13⟩ := by
  rw [st10]
  refine go_assignDict (P := w.params) (os := os) b3_len b3_good ?_
  have e := hB_tree w.params
  unfold sS
  rw [e]
  exact go_store w os
theorem go_one {st : Stmt} {n : Nat} (h : Go w n s q (exec st env0) .next s1 q1) : segRun treeTable pw w 11 ann 1 (n + 1) s (piecesOf [st] env0 cB q bB) = some (.next, s1, cB, q1) := by
  have h : Go w n s q (execs [st] env0) .next s1 q1 := by
    rw [execs_cons]
    refine go_mono (go_bind (n := n) (k := 0) h ?_)
    exact go_pure (a := Flow.next)
  exact seg_go (n := n) (N := 1) (h doneF deadEnd id id) rfl
theorem one10 : (body.drop 10).take 1 = [st 10] := by kernel_rfl
theorem g4 (w : World) (os : OsState) : segRun treeTable pw w 11 ann 1 12525 (sT t9 96 344 w os).abs (piecesOf ((body.drop 10).take 1) env0 cB ⟨66, 0, 67, 30⟩ bB) = some (.next, (sT t10 135 2295 w os).abs, cB, ⟨68, 0, 68, 13⟩) := by
  rw [one10]
  exact go_one (go_st10 w os)
end Mine
end
section
open PySem PySem.W PyProof.Rows
namespace Mine
noncomputable abbrev G2P (w : World) : Prop := (fun os => segRunT treeTable pw w 11 ann 1 999 (sT t7 78 277 w os) (piecesOf ((body.drop 8).take 1) env0 cB ⟨64, 0, 64, 8⟩ bB)) = fun os => some (.next, sT t8 89 337 w os, cB, ⟨65, 0, 65, 6⟩)
theorem g2ff (w : World) : G2P ((w.withFollow "special-get-raises" false).withFollow "set-order" false) := by
  unfold G2P; rw [PySem.W.Fast.te10110043849684766642, PySem.W.Fast.te14364793385576792824]; kernel_rfl
theorem g2tf (w : World) : G2P ((w.withFollow "special-get-raises" true).withFollow "set-order" false) := by
  unfold G2P; rw [PySem.W.Fast.te10110043849684766642, PySem.W.Fast.te14364793385576792824]; kernel_rfl
theorem g2ft (w : World) : G2P ((w.withFollow "special-get-raises" false).withFollow "set-order" true) := by
  unfold G2P; rw [PySem.W.Fast.te10110043849684766642, PySem.W.Fast.te14364793385576792824]; kernel_rfl
theorem g2tt (w : World) : G2P ((w.withFollow "special-get-raises" true).withFollow "set-order" true) := by
  unfold G2P; rw [PySem.W.Fast.te10110043849684766642, PySem.W.Fast.te14364793385576792824]; kernel_rfl
theorem g2 (w : World) : G2P w :=
  byRow2 "set-order" (P := G2P) (byRow2 "special-get-raises" (P := fun w => G2P (w.withFollow "set-order" false)) g2ff g2tf) (byRow2 "special-get-raises" (P := fun w => G2P (w.withFollow "set-order" true)) g2ft g2tt) w
end Mine
end
section
open PySem PySem.W PyProof.Rows
namespace Mine
abbrev rw_ := PySem.Challenge.rw_to0073_01
theorem whole : body.take 8 ++ ((body.drop 8).take 1 ++ ((body.drop 9).take 1 ++ ((body.drop 10).take 1 ++ (body.drop 11 ++ [])))) = behindTheImports pw := by kernel_rfl
noncomputable def nM : Nat := 12 + (1 + (450 + (999 + (30 + (12525 + (592 + 2))))))
theorem run (w : World) (os : OsState) : topRun treeTable pw w 11 ann nM ⟨boot_heap w.params, Array.mk [], boot_drawn, boot_toks, os⟩ (topStub pw) = some (sT t32 259 2445 w os).abs := by
  have k5 := piece_app (q := p0) (rest := []) (segRun_of (g5 w os)) (piece_nil (fin w os))
  have k4 := piece_app (q := p0) (g4 w os) k5
  have k3 := piece_app (q := p0) (segRun_of (g3 w os)) k4
  have k2 := piece_app (q := p0) (segRun_of (congrFun (g2 w) os)) k3
  have k1 := piece_app (q := p0) (segRun_of (g1 w os)) k2
  rw [whole] at k1
  have hb : segRun treeTable pw w 11 ann 1 1 ⟨ha w.params, #[], boot_drawn, 187, os⟩ (blockOf (behindTheImports pw) env0 cB p0 bB) = some (.next, (sT ta 15 187 w os).abs, cB, p0) := blk w os
  have kb := piece_block (q := p0) hb k1
  exact go_top (pre w os) kb
noncomputable def hE (P : Params) : Heap := absHeap (t32 P) 259 {}
theorem size (w : World) : ((boot_heap w.params).isNs mainGlobals && (Array.mk [] : Array GenState).size == 0, (boot_heap w.params).objs.size, (boot_heap w.params).nsMap mainGlobals "__annotations__") = (true, 11, ann) := by kernel_rfl
noncomputable def qv : Program := { pw with main := { pw.main with body := [st 32] } }
noncomputable def kA : List Nat := [3, 27, 28, 34, 35, 48, 49, 55, 56, 62, 63, 72, 73, 85, 94, 95, 96, 140, 141, 147, 148, 154, 155, 161, 162, 168, 169, 175, 176, 182, 183, 185, 189, 190, 196, 197, 201, 202, 208, 209, 215, 216, 220, 221, 225, 226, 230, 231, 235, 236, 242, 243, 247, 248, 252, 253, 257, 258]
noncomputable def kF (P : Params) : Frag := [(3, o3_32 P), (27, o27_7 P), (28, o28_7 P), (34, o34_7 P), (35, o35_7 P), (48, o48_7 P), (49, o49_7 P), (55, o55_7 P), (56, o56_7 P), (62, o62_7 P), (63, o63_7 P), (72, o72_7 P), (73, o73_7 P), (85, o85_8 P), (94, o94_9 P), (95, o95_9 P), (96, b3o P 39), (140, o140_32 P), (141, o141_32 P), (147, o147_32 P), (148, o148_32 P), (154, o154_32 P), (155, o155_32 P), (161, o161_32 P), (162, o162_32 P), (168, o168_32 P), (169, o169_32 P), (175, o175_32 P), (176, o176_32 P), (182, o182_32 P), (183, o183_32 P), (185, o185_32 P), (189, o189_32 P), (190, o190_32 P), (196, o196_32 P), (197, o197_32 P), (201, o201_32 P), (202, o202_32 P), (208, o208_32 P), (209, o209_32 P), (215, o215_32 P), (216, o216_32 P), (220, o220_32 P), (221, o221_32 P), (225, o225_32 P), (226, o226_32 P), (230, o230_32 P), (231, o231_32 P), (235, o235_32 P), (236, o236_32 P), (242, o242_32 P), (243, o243_32 P), (247, o247_32 P), (248, o248_32 P), (252, o252_32 P), (253, o253_32 P), (257, o257_32 P), (258, o258_32 P)]
noncomputable def looseN : List Str := pw.boundNames.filter (fun n => !(n == S "law"))
theorem kA_eq (P : Params) : kA = (kF P).map (·.1) := by kernel_rfl
noncomputable abbrev r0 : RowW := rw_.row.toRowW
noncomputable abbrev XtL : Shared → Bool := fun s => xlAt qv [] s && recOk (RowW.records r0) s
noncomputable abbrev HK : Hook := kHook kF kA kA_eq
theorem looks (w : World) : (fun os => ((staticsOk (importedModules pw.main.body) (boot_heap w.params) (hE w.params) && namesBound pw (hE w.params) && gensDone ⟨hE w.params, #[], boot_drawn, 2445, os⟩ && laidKept (boot_heap w.params) (hE w.params)),
        openSeen qv looseN (importedModules pw.main.body) XtL true ⟨hE w.params, #[], boot_drawn, 2445, os⟩, HK.obs ⟨hE w.params, #[], boot_drawn, 2445, os⟩)) = fun _ => (true, openGood qv looseN, HK.val w) := by
  rw [PySem.W.Fast.te4187177175401517315]
  kernel_rfl
end Mine
end
section
open PySem PySem.W PyProof.Rows
namespace Mine
theorem left : LeftO pw qv looseN XtL HK.obs HK.val 30000 := LeftO.of_pieces (H₀ := boot_heap) (H₁ := hE) bo size run (by decide +kernel) looks
noncomputable def dLaw : DefRec := ⟨S "law", dA (st 32), dB (st 32), dS (st 32), match st 32 with | .FunctionDef _ _ _ _ _ _ _ _ _ p => p | _ => p0⟩
theorem hdef : defOf qv rw_.row.name = some (dLaw, []) := by kernel_rfl
theorem hp : rw_.row.prog.theDef rw_.row.name = some (dLaw.params, dLaw.body, dLaw.scope) := by kernel_rfl
theorem hk : kwWritten? dLaw.params.kwonlyargs dLaw.params.kw_defaults = some ([] : List (Str × Expr)) := by kernel_rfl
theorem okl : (chainsOk qv && opensWell rw_.row.prog && (frees rw_.row.toRowW && rw_.row.toRowW.within.isEmpty)) = true := by decide +kernel
theorem bare : rw_.row.prog.bare := ⟨rfl, rfl, rfl, rfl, rfl, by decide +kernel⟩
set_option maxHeartbeats 4000000 in
theorem said : PySem.Challenge.rw_to0073_01.wellSaid = true := by
  unfold OpenLaw.wellSaid
  iterate 18 (refine look_both ?_ (by decide +kernel))
  unfold OpenRow.wellSaid
  refine look_both (look_both ?_ (by decide +kernel)) (by decide +kernel)
  unfold OpenRow.partSaid
  iterate 13 (refine look_both ?_ (by decide +kernel))
  unfold looksOpen
  iterate 5 (refine look_both ?_ (by decide +kernel))
  decide +kernel
theorem head (call : WalkO qv looseN (XL qv []) HK.says rw_.row.toRowW dLaw [] fun f vs => PySem.call f vs) : PySem.Challenge.rw_to0073_01.Holds := by
  refine holds_law said fun said' => ?_
  refine holds_open (r := rw_.row) (q := qv) (loose := looseN) (Xt := XtL) (XP := XL qv []) (Yf := HK.obs) (Ya := HK.val) (YP := HK.says) (d := dLaw) (kwd := []) (N := 30000) left (Hook.of HK) (Hook.keeps HK)
    (fun s e => xl_of s (Bool.and_eq_true_iff.mp e).1) XL.keeps hdef hp hk (fun s e => recFacts_of (Bool.and_eq_true_iff.mp e).2) rfl said' okl bare ?hw call
  case hw => w_witness2
end Mine
end
section
open PySem PySem.W PyProof.Rows
namespace Mine
noncomputable abbrev Kp (h h' : Heap) : Prop := ∀ b o, h.get? b = some o → h'.get? b = some o
mutual
/-- what a value reads as; 'N' are the addresses that it must not lean on -/
inductive Rd (N : Addr → Prop) (h : Heap) : Value → PyData → Prop
  | none : Rd N h .none .none
  | bool (b) : Rd N h (.bool b) (.bool b)
  | int (i t) : Rd N h (.int i t) (.int i)
  | str (x t) : Rd N h (.str x t) (.str x)
  | list {a vs n xs} : IsL h a vs n → ¬ N a → RdAll N h vs.toList xs → Rd N h (.ref a) (.list xs)
  | tuple {a vs n xs} : IsT h a vs n → ¬ N a → RdAll N h vs.toList xs → Rd N h (.ref a) (.tuple xs)
inductive RdAll (N : Addr → Prop) (h : Heap) : List Value → List PyData → Prop
  | nil : RdAll N h [] []
  | cons {v vs d ds} : Rd N h v d → RdAll N h vs ds → RdAll N h (v :: vs) (d :: ds)
end
mutual
theorem Rd.keepOn {N M : Addr → Prop} {h h' : Heap} (hN : ∀ a, M a → N a)
    (hk : ∀ b o vs n, h.get? b = some o → o.data = .seq vs n → ¬ N b → h'.get? b = some o) :
    ∀ {v d}, Rd N h v d → Rd M h' v d
  | _, _, .none => .none
  | _, _, .bool b => .bool b
  | _, _, .int i t => .int i t
  | _, _, .str x t => .str x t
  | _, _, .list ho hn hr => .list (hk _ _ _ _ ho rfl hn) (fun m => hn (hN _ m)) (RdAll.keepOn hN hk hr)
  | _, _, .tuple ho hn hr => .tuple (hk _ _ _ _ ho rfl hn) (fun m => hn (hN _ m)) (RdAll.keepOn hN hk hr)
theorem RdAll.keepOn {N M : Addr → Prop} {h h' : Heap} (hN : ∀ a, M a → N a)
    (hk : ∀ b o vs n, h.get? b = some o → o.data = .seq vs n → ¬ N b → h'.get? b = some o) :
    ∀ {v d}, RdAll N h v d → RdAll M h' v d
  | _, _, .nil => .nil
  | _, _, .cons a b => .cons (Rd.keepOn hN hk a) (RdAll.keepOn hN hk b)
end
theorem Rd.keeps {N : Addr → Prop} {h h' : Heap} (hk : Kp h h') {v d} (r : Rd N h v d) : Rd N h' v d := r.keepOn (fun _ x => x) fun b o _ _ e _ _ => hk b o e
theorem RdAll.keeps {N : Addr → Prop} {h h' : Heap} (hk : Kp h h') {v d} (r : RdAll N h v d) : RdAll N h' v d := r.keepOn (fun _ x => x) fun b o _ _ e _ _ => hk b o e
theorem Rd.less {N M : Addr → Prop} {h : Heap} (hN : ∀ a, M a → N a) {v d} (r : Rd N h v d) : Rd M h v d := r.keepOn hN fun b o _ _ e _ _ => e
theorem RdAll.less {N M : Addr → Prop} {h : Heap} (hN : ∀ a, M a → N a) {v d} (r : RdAll N h v d) : RdAll M h v d := r.keepOn hN fun b o _ _ e _ _ => e
mutual
/-- a new set of addresses may be shunned when they are unallocated or no list -/
theorem Rd.more {N M : Addr → Prop} {h : Heap} (hM : ∀ a o vs n, M a → h.get? a = some o → o.data = .seq vs n → N a) : ∀ {v d}, Rd N h v d → Rd M h v d
  | _, _, .none => .none
  | _, _, .bool b => .bool b
  | _, _, .int i t => .int i t
  | _, _, .str x t => .str x t
  | _, _, .list ho hn hr => .list ho (fun m => hn (hM _ _ _ _ m ho rfl)) (RdAll.more hM hr)
  | _, _, .tuple ho hn hr => .tuple ho (fun m => hn (hM _ _ _ _ m ho rfl)) (RdAll.more hM hr)
theorem RdAll.more {N M : Addr → Prop} {h : Heap} (hM : ∀ a o vs n, M a → h.get? a = some o → o.data = .seq vs n → N a) : ∀ {v d}, RdAll N h v d → RdAll M h v d
  | _, _, .nil => .nil
  | _, _, .cons a b => .cons (Rd.more hM a) (RdAll.more hM b)
end
mutual
theorem Rd.reads {N : Addr → Prop} {h : Heap} : ∀ {v d}, Rd N h v d → ∃ as, Reads h v d as
  | _, _, .none => ⟨_, .none⟩
  | _, _, .bool b => ⟨_, .bool b⟩
  | _, _, .int i t => ⟨_, .int i t⟩
  | _, _, .str x t => ⟨_, .str x t⟩
  | _, _, .list ho hn hr => let ⟨_, r⟩ := RdAll.reads hr; ⟨_, .list ho rfl rfl r⟩
  | _, _, .tuple ho _ hr => let ⟨_, r⟩ := RdAll.reads hr; ⟨_, .tuple ho rfl rfl r⟩
theorem RdAll.reads {N : Addr → Prop} {h : Heap} : ∀ {v d}, RdAll N h v d → ∃ as, ReadsAll h v d as
  | _, _, .nil => ⟨_, .nil⟩
  | _, _, .cons a b => let ⟨_, r⟩ := Rd.reads a; let ⟨_, q⟩ := RdAll.reads b; ⟨_, .cons r q⟩
end
theorem RdAll.append {N : Addr → Prop} {h : Heap} : ∀ {vs ds ws es}, RdAll N h vs ds → RdAll N h ws es → RdAll N h (vs ++ ws) (ds ++ es)
  | _, _, _, _, .nil, r => r
  | _, _, _, _, .cons a b, r => .cons a (b.append r)
theorem RdAll.length {N : Addr → Prop} {h : Heap} : ∀ {vs ds}, RdAll N h vs ds → vs.length = ds.length
  | _, _, .nil => rfl
  | _, _, .cons _ b => congrArg (· + 1) b.length
theorem RdAll.get {N : Addr → Prop} {h : Heap} : ∀ {vs ds} (i : Nat) {d}, RdAll N h vs ds → ds[i]? = some d → ∃ v, vs[i]? = some v ∧ Rd N h v d
  | _, _, 0, _, .cons a _, e => by cases e; exact ⟨_, rfl, a⟩
  | _, _, i + 1, _, .cons _ b, e => b.get i e
theorem RdAll.get' {N : Addr → Prop} {h : Heap} : ∀ {vs ds} (i : Nat) {v}, RdAll N h vs ds → vs[i]? = some v → ∃ d, ds[i]? = some d ∧ Rd N h v d
  | _, _, 0, _, .cons a _, e => by cases e; exact ⟨_, rfl, a⟩
  | _, _, i + 1, _, .cons _ b, e => b.get' i e
theorem RdAll.drop {N : Addr → Prop} {h : Heap} : ∀ {vs ds} (i : Nat), RdAll N h vs ds → RdAll N h (vs.drop i) (ds.drop i)
  | _, _, 0, r => r
  | _, _, _ + 1, .nil => .nil
  | _, _, i + 1, .cons _ b => b.drop i
theorem RdAll.take {N : Addr → Prop} {h : Heap} : ∀ {vs ds} (i : Nat), RdAll N h vs ds → RdAll N h (vs.take i) (ds.take i)
  | _, _, 0, r => .nil
  | _, _, _ + 1, .nil => .nil
  | _, _, i + 1, .cons a b => .cons a (b.take i)

theorem RdAll.set {N : Addr → Prop} {h : Heap} : ∀ {vs ds} (i : Nat) {v d}, RdAll N h vs ds → Rd N h v d → RdAll N h (vs.set i v) (ds.set i d)
  | _, _, _, _, _, .nil, _ => .nil
  | _, _, 0, _, _, .cons _ b, r => .cons r b
  | _, _, i + 1, _, _, .cons a b, r => .cons a (b.set i r)

/-- what a name may hold: data, or this very value -/
inductive D
  | dat (d : PyData)
  | val (v : Value)
noncomputable def D.ok (N : Addr → Prop) (h : Heap) (v : Value) : D → Prop
  | .dat d => Rd N h v d
  | .val u => v = u
theorem D.ok.keeps {N : Addr → Prop} {h h' : Heap} (hk : Kp h h') {v : Value} : ∀ {d : D}, d.ok N h v → d.ok N h' v
  | .dat _, r => Rd.keeps hk r
  | .val _, r => r

structure Has (env : Env) (h : Heap) (x : Str) (v : Value) : Prop where
  how : (env.kindOf x = some .local ∧ ∃ m, h.Ns env.locals m ∧ m x = some v) ∨ (env.kindOf x = some .cell ∧ ∃ c, env.cells.lookup x = some c ∧ h.IsCell c (some v))
theorem Has.keeps {env : Env} {h h' : Heap} {x : Str} {v : Value} (H : Has env h x v) (hk : Kp h h') : Has env h' x v := ⟨by
  rcases H.how with ⟨a, m, b, c⟩ | ⟨a, c, b, d⟩
  · exact .inl ⟨a, m, b.keeps hk, c⟩
  · exact .inr ⟨a, c, b, d.keeps hk⟩⟩

noncomputable abbrev Own := List (Addr × List PyData)
noncomputable abbrev Vars := List (Str × D)

/-- the room that is left above a frame; and a token has been given out -/
structure Rm (k : Nat) (A : Around) (t : Nat) : Prop where
  handled : A.handled = none
  depth : A.depth + k < 900
  units : A.units + 8 * k < 9000
  pos : 0 < t
theorem Rm.room {k : Nat} {A : Around} {t : Nat} (R : Rm k A t) : A.depth < recursionLimit := by have := R.depth; have : recursionLimit = 1000 := rfl; omega
theorem Rm.less {k j : Nat} {A : Around} {t : Nat} (R : Rm k A t) (h : j ≤ k) : Rm j A t := ⟨R.handled, by have := R.depth; omega, by have := R.units; omega, R.pos⟩
theorem Rm.deeper {k : Nat} {A : Around} {t : Nat} (R : Rm (k + 1) A t) (env : Env) : Rm k (A.deeper env) t :=
  ⟨R.handled, by have := R.depth; show A.depth + 1 + k < 900; omega, by have := R.units; show A.units + 3 + 8 * k < 9000; omega, R.pos⟩
theorem Rm.in1 {k : Nat} {A : Around} {t : Nat} (R : Rm (k + 1) A t) : Rm k A.in1 t := ⟨R.handled, by have := R.depth; show A.depth + k < 900; omega, by have := R.units; show A.units + 1 + 8 * k < 9000; omega, R.pos⟩
theorem Rm.up {k : Nat} {A : Around} {t t' : Nat} (R : Rm k A t) (h : t ≤ t') : Rm k A t' := ⟨R.handled, R.depth, R.units, Nat.lt_of_lt_of_le R.pos h⟩

/-- the base: what every call of this law finds in its heap -/
structure Cx (w : World) (h : Heap) : Prop where
  kin : ∀ a o, (a, o) ∈ kF w.params → a ≠ 185 → h.get? a = some o
  mb : ∃ mb, h.Ns builtinsNs mb ∧ ∀ x : Str, x ≠ "__name__" → mb x = bootBuiltins x
  nolimit : h.NoLimit
theorem Cx.keeps {w : World} {h h' : Heap} (C : Cx w h) (hk : Kp h h') : Cx w h' :=
  ⟨fun a o x y => hk _ _ (C.kin a o x y), let ⟨mb, a, b⟩ := C.mb; ⟨mb, a.keeps hk, b⟩, C.nolimit.keeps hk⟩

/-- a frame: the world, the heap at its entry, what is shunned from outside, its names -/
structure Fx where
  w : World
  h₀ : Heap
  N₀ : Addr → Prop
  env : Env
noncomputable def Fx.N (X : Fx) (W : Own) (a : Addr) : Prop := X.N₀ a ∨ a ∈ W.map (·.1)
noncomputable def Fx.T (X : Fx) (W : Own) (a : Addr) : Prop := a = X.env.locals ∨ (∃ n, X.env.cells.lookup n = some a ∧ X.env.locals < a) ∨ a ∈ W.map (·.1)
/-- the same frame that shuns more -/
noncomputable def Fx.sh (X : Fx) (N : Addr → Prop) : Fx := { X with N₀ := N }

structure Stt (X : Fx) (W : Own) (ρ : Vars) (h : Heap) : Prop where
  cx : Cx X.w X.h₀
  low : ∀ a, X.N₀ a → a < X.h₀.objs.size ∨ ∃ o, h.get? a = some o
  keep : Kp X.h₀ h
  en : X.env.globals = mainGlobals ∧ X.env.builtins = builtinsNs ∧ X.env.scope.kind = .function
  loc : ∃ m, h.Ns X.env.locals m
  above : X.h₀.objs.size ≤ X.env.locals
  cab : ∀ p ∈ X.env.cells, X.h₀.objs.size ≤ p.2
  cel : ∀ n c, X.env.cells.lookup n = some c → ∃ v, h.IsCell c v
  apart : X.env.cells.Pairwise fun x y => x.2 ≠ y.2
  own : ∀ p ∈ W, X.h₀.objs.size ≤ p.1 ∧ ∃ vs n, IsL h p.1 vs n ∧ RdAll (X.N W) h vs.toList p.2
  vars : ∀ p ∈ ρ, ∃ v, Has X.env h p.1 v ∧ p.2.ok (X.N W) h v
theorem Stt.keeps {X : Fx} {W : Own} {ρ : Vars} {h h' : Heap} (T : Stt X W ρ h) (hk : Kp h h') : Stt X W ρ h' where
  cx := T.cx
  low := fun a ha => (T.low a ha).imp id fun ⟨o, e⟩ => ⟨o, hk _ _ e⟩
  keep := fun b o e => hk _ _ (T.keep b o e)
  en := T.en
  loc := let ⟨m, e⟩ := T.loc; ⟨m, e.keeps hk⟩
  above := T.above
  cab := T.cab
  cel := fun n c hp => let ⟨v, e⟩ := T.cel n c hp; ⟨v, e.keeps hk⟩
  apart := T.apart
  own := fun p hp => let ⟨a, vs, n, b, c⟩ := T.own p hp; ⟨a, vs, n, hk _ _ b, c.keeps hk⟩
  vars := fun p hp => let ⟨v, a, b⟩ := T.vars p hp; ⟨v, a.keeps hk, b.keeps hk⟩
theorem Stt.less {X : Fx} {W : Own} {ρ ρ' : Vars} {h : Heap} (T : Stt X W ρ h) (hs : ∀ p ∈ ρ', p ∈ ρ) : Stt X W ρ' h :=
  { T with vars := fun p hp => T.vars p (hs p hp) }
theorem Stt.cxn {X : Fx} {W : Own} {ρ : Vars} {h : Heap} (T : Stt X W ρ h) : Cx X.w h := T.cx.keeps T.keep
theorem Stt.nlt {X : Fx} {W : Own} {ρ : Vars} {h : Heap} (T : Stt X W ρ h) (a : Addr) (ha : X.N W a) : a < h.objs.size := by
  rcases ha with ha | ha
  · rcases T.low a ha with hl | ⟨o, e⟩
    · exact Nat.lt_of_lt_of_le (Nat.lt_of_lt_of_le hl T.above) (Nat.le_of_lt (let ⟨_, e⟩ := T.loc; e.lt))
    · exact Heap.lt_size e
  · obtain ⟨p, hp, rfl⟩ := List.mem_map.mp ha
    obtain ⟨_, vs, n, b, _⟩ := T.own p hp
    exact Heap.lt_size b
theorem Stt.fresh {X : Fx} {W : Own} {ρ : Vars} {h h' : Heap} (T : Stt X W ρ h) (hs : Kp h h') : ¬ X.N W h'.objs.size := fun m => Nat.lt_irrefl _ ((T.keeps hs).nlt _ m)

noncomputable abbrev mo (w : World) := model pw w
noncomputable def To (s s' : Shared) : Prop := ∃ h' tk, s' = { s with heap := h', toks := tk } ∧ Kp s.heap h' ∧ s.toks ≤ tk
theorem To.rfl (s : Shared) : To s s := ⟨s.heap, s.toks, by cases s; exact Eq.refl _, fun _ _ e => e, Nat.le_refl _⟩
theorem To.tok (s : Shared) (t : Nat) (h : s.toks ≤ t := by omega) : To s { s with toks := t } := ⟨s.heap, t, Eq.refl _, fun _ _ e => e, h⟩
theorem Kp.push (h : Heap) (o : Obj) : Kp h (h.push o) := fun _ _ e => Heap.get?_push_of_some _ e
theorem To.push (s : Shared) (o : Obj) : To s { s with heap := s.heap.push o } := ⟨_, s.toks, Eq.refl _, Kp.push _ _, Nat.le_refl _⟩
theorem To.mk {s : Shared} {h : Heap} {t : Nat} (hk : Kp s.heap h) (ht : s.toks ≤ t) : To s { s with heap := h, toks := t } := ⟨_, _, Eq.refl _, hk, ht⟩
theorem To.heap {s s' : Shared} (h : To s s') : Kp s.heap s'.heap := by obtain ⟨h', tk, rfl, k, _⟩ := h; exact k
theorem To.le {s s' : Shared} (h : To s s') : s.toks ≤ s'.toks := by obtain ⟨h', tk, rfl, k, q⟩ := h; exact q
theorem To.trans {s s' s'' : Shared} (a : To s s') (b : To s' s'') : To s s'' := by
  obtain ⟨h', tk, rfl, k, q⟩ := a; obtain ⟨h'', tk', rfl, k', q'⟩ := b; exact ⟨h'', tk', Eq.refl _, fun b o e => k' _ _ (k _ _ e), Nat.le_trans q q'⟩
theorem Rm.to {k : Nat} {A : Around} {s s' : Shared} (R : Rm k A s.toks) (t : To s s') : Rm k A s'.toks := R.up t.le

/-- the expression gives 'd' and keeps every object -/
noncomputable def Ev (X : Fx) (k : Nat) (W : Own) (ρ : Vars) (e : Expr) (d : D) : Prop :=
  ∀ (A : Around) (E : Value → Shared → Prop) (s : Shared) (Q : Value → Shared → Prop), Rm k A s.toks → Stt X W ρ s.heap →
    (∀ v s', To s s' → d.ok (X.N W) s'.heap v → Q v s') → wpAny (mo X.w) A (eval e X.env) Q E s
/-- a test -/
noncomputable def Tst (X : Fx) (k : Nat) (W : Own) (ρ : Vars) (e : Expr) (b : Bool) : Prop :=
  ∀ (A : Around) (E : Value → Shared → Prop) (s : Shared) (Q : Bool → Shared → Prop), Rm k A s.toks → Stt X W ρ s.heap →
    (∀ s', To s s' → Q b s') → wpAny (mo X.w) A (isTrue e X.env (eval e X.env)) Q E s

section
variable {X : Fx} {k : Nat} {W : Own} {ρ : Vars}
theorem Ev.to {e : Expr} {d d' : D} (h : Ev X k W ρ e d) (hd : d = d') : Ev X k W ρ e d' := hd ▸ h
theorem Tst.to {e : Expr} {d d' : Bool} (h : Tst X k W ρ e d) (hd : d = d') : Tst X k W ρ e d' := hd ▸ h
theorem Ev.int {i : Int} {kk : Nat} {pos : Pos} : Ev X k W ρ (.Constant (.int i) kk pos) (.dat (.int i)) :=
  fun A E s Q R T h => wpAny_Constant_int (h _ _ (To.tok _ _) (.int _ _))
theorem Ev.str {x : Str} {kk : Nat} {pos : Pos} : Ev X k W ρ (.Constant (.str x) kk pos) (.dat (.str x)) :=
  fun A E s Q R T h => Calls.Constant_str (h _ _ (To.tok _ _) (.str _ _))
theorem Ev.nil {kk : Nat} {pos : Pos} : Ev X k W ρ (.Constant .none kk pos) (.dat .none) := fun A E s Q R T h => Constant_none (h _ _ (To.rfl _) .none)
theorem Ev.nameIn {x : Str} {pos : Pos} {d : D} (hx : (x, d) ∈ ρ) (hd : (x == ("__debug__" : Str)) = false) : Ev X k W ρ (.Name x pos) d := fun A E s Q R T h => by
  obtain ⟨v, H, r⟩ := T.vars _ hx
  refine wpAny_Name ?_ hd
  rcases H.how with ⟨a, m, b, c⟩ | ⟨a, c, b, e⟩
  · exact wpAny_loadName_local T.en.2.2 a b c (h _ _ (To.rfl _) r)
  · exact wpAny_loadName_cell T.en.2.2 a b e (h _ _ (To.rfl _) r)
theorem mem_of_lookupD {x : Str} {d : D} : ∀ {ρ : Vars}, ρ.lookup x = some d → (x, d) ∈ ρ
  | (n, v) :: r, h => by
    rw [List.lookup_cons] at h
    cases hb : x == n with
    | true => rw [hb] at h; cases h; rw [beq_iff_eq.mp hb]; exact List.mem_cons_self
    | false => rw [hb] at h; exact List.mem_cons_of_mem _ (mem_of_lookupD h)
theorem Ev.name {x : Str} {pos : Pos} {d : D} (hx : ρ.lookup x = some d) (hd : (x == ("__debug__" : Str)) = false) : Ev X k W ρ (.Name x pos) d := Ev.nameIn (mem_of_lookupD hx) hd
end
end Mine
end
section
open PySem PySem.W PyProof.Rows
namespace Mine
section
variable {X : Fx} {k : Nat} {W : Own} {ρ : Vars}
theorem Ev.bin {l r : Expr} {op : Operator} {pos : Pos} {a b d : PyData} (hl : Ev X k W ρ l (.dat a)) (hr : Ev X k W ρ r (.dat b))
    (ho : ∀ (A : Around) (E : Value → Shared → Prop) (s : Shared) (Q : Value → Shared → Prop) (u v : Value), Rm k A s.toks → Stt X W ρ s.heap → Rd (X.N W) s.heap u a → Rd (X.N W) s.heap v b →
      (∀ x s', To s s' → Rd (X.N W) s'.heap x d → Q x s') → wpAny (mo X.w) A (binaryOp op u v) Q E s) : Ev X k W ρ (.BinOp l op r pos) (.dat d) := fun A E s Q R T h =>
  wpAny_BinOp (hl A E s _ R T fun u s₁ k₁ ru => hr A E s₁ _ (R.to k₁) (T.keeps k₁.heap) fun v s₂ k₂ rv =>
    ho A E s₂ Q u v ((R.to k₁).to k₂) ((T.keeps k₁.heap).keeps k₂.heap) (Rd.keeps k₂.heap ru) rv fun x s₃ k₃ r => h x s₃ ((k₁.trans k₂).trans k₃) r)
theorem Ev.binI {op : Operator} {l r : Expr} {pos : Pos} {a b c : Int} (hl : Ev X k W ρ l (.dat (.int a))) (hr : Ev X k W ρ r (.dat (.int b)))
    (f : ∀ (A : Around) (E : Value → Shared → Prop) (s : Shared) (Q : Value → Shared → Prop) (t u : Tok), Q (.int c s.toks) { s with toks := s.toks + 1 } → wpAny (mo X.w) A (binaryOp op (.int a t) (.int b u)) Q E s) :
    Ev X k W ρ (.BinOp l op r pos) (.dat (.int c)) :=
  Ev.bin hl hr fun A E s Q u v R T ru rv h => by
    cases ru; cases rv
    exact f A E s Q _ _ (h _ _ (To.tok _ _) (.int _ _))
theorem Ev.addI {l r : Expr} {pos : Pos} {a b : Int} (hl : Ev X k W ρ l (.dat (.int a))) (hr : Ev X k W ρ r (.dat (.int b))) : Ev X k W ρ (.BinOp l .Add r pos) (.dat (.int (a + b))) :=
  Ev.binI hl hr fun A E s Q t u h => wpAny_add_int h
theorem Ev.subI {l r : Expr} {pos : Pos} {a b : Int} (hl : Ev X k W ρ l (.dat (.int a))) (hr : Ev X k W ρ r (.dat (.int b))) : Ev X k W ρ (.BinOp l .Sub r pos) (.dat (.int (a - b))) :=
  Ev.binI hl hr fun A E s Q t u h => AutoIntOps.sub_0 h
theorem Ev.mulI {l r : Expr} {pos : Pos} {a b : Int} (hl : Ev X k W ρ l (.dat (.int a))) (hr : Ev X k W ρ r (.dat (.int b))) (hm : IntMulOk a b) : Ev X k W ρ (.BinOp l .Mult r pos) (.dat (.int (a * b))) :=
  Ev.binI hl hr fun A E s Q t u h => AutoIntOps.mul_0 h hm
theorem Ev.fdivI {l r : Expr} {pos : Pos} {a b : Int} (hl : Ev X k W ρ l (.dat (.int a))) (hr : Ev X k W ρ r (.dat (.int b))) (hb : (b == 0) = false) (hp : b.natAbs < 1073741824) : Ev X k W ρ (.BinOp l .FloorDiv r pos) (.dat (.int (a.fdiv b))) :=
  Ev.binI hl hr fun A E s Q t u h => AutoIntOps.floordiv_1 (by rw [hb]; decide) (by rw [PyProof.noPylong_small hp]; decide) h
theorem Ev.modI {l r : Expr} {pos : Pos} {a b : Int} (hl : Ev X k W ρ l (.dat (.int a))) (hr : Ev X k W ρ r (.dat (.int b))) (hb : (b == 0) = false) : Ev X k W ρ (.BinOp l .Mod r pos) (.dat (.int (a.fmod b))) :=
  Ev.binI hl hr fun A E s Q t u h => AutoIntOps.mod_1 (by rw [hb]; decide) h
theorem Ev.addS {l r : Expr} {pos : Pos} {a b : Str} (hl : Ev X k W ρ l (.dat (.str a))) (hr : Ev X k W ρ r (.dat (.str b))) (hs : a.length + b.length ≤ sizeLine) : Ev X k W ρ (.BinOp l .Add r pos) (.dat (.str (a ++ b))) :=
  Ev.bin hl hr fun A E s Q u v R T ru rv h => by
    cases ru; cases rv
    exact wpAny_with_toks (Nat.le_refl _) (SB.add (fun t' k' hk => h _ _ (To.tok _ _ hk) (.str _ _)) hs)
theorem Ev.addL {l r : Expr} {pos : Pos} {a b : List PyData} (hl : Ev X k W ρ l (.dat (.list a))) (hr : Ev X k W ρ r (.dat (.list b))) (hs : a.length + b.length ≤ sizeLine) : Ev X k W ρ (.BinOp l .Add r pos) (.dat (.list (a ++ b))) :=
  Ev.bin hl hr fun A E s Q u v R T ru rv h => by
  cases ru with
  | @list p vs n _ p1 p2 p3 =>
    cases rv with
    | @list q ws n' _ q1 q2 q3 =>
      refine P.add_list p1 q1 (h _ _ (To.push _ _) ?_) (by have := p3.length; have := q3.length; simp at *; omega)
      refine Rd.list (Heap.get?_push_size _ rfl) (T.fresh fun _ _ e => e) ?_
      rw [Array.toList_append]
      exact (p3.append q3).keeps (Kp.push _ _)
/-- comparisons of data, as plain facts -/
noncomputable def Cmp (w : World) (op : CmpOp) (a b : PyData) (c : Bool) : Prop :=
  ∀ (N : Addr → Prop) (k : Nat) (A : Around) (E : Value → Shared → Prop) (s : Shared) (Q : Value → Shared → Prop) (u v : Value), Rm k A s.toks → Rd N s.heap u a → Rd N s.heap v b → Q (.bool c) s → wpAny (mo w) A (compareOp op u v) Q E s
theorem Ev.cmpD {op : CmpOp} {l r : Expr} {pos : Pos} {a b : PyData} {c : Bool} (hl : Ev X k W ρ l (.dat a)) (hr : Ev X k W ρ r (.dat b)) (hc : Cmp X.w op a b c) (hm : behindInMarks op r = false) :
    Ev X k W ρ (.Compare l [op] [r] pos) (.dat (.bool c)) := fun A E s Q R T h =>
  wpAny_Compare1 (hl A E s _ R T fun u s₁ k₁ ru => hr A E s₁ _ (R.to k₁) (T.keeps k₁.heap) fun v s₂ k₂ rv =>
    hc _ _ A E s₂ Q u v ((R.to k₁).to k₂) (Rd.keeps k₂.heap ru) rv (h _ _ (k₁.trans k₂) (.bool _))) hm
theorem Tst.cmpD {op : CmpOp} {l r : Expr} {pos : Pos} {a b : PyData} {c : Bool} (hl : Ev X k W ρ l (.dat a)) (hr : Ev X k W ρ r (.dat b)) (hc : Cmp X.w op a b c) (hm : behindInMarks op r = false) :
    Tst X k W ρ (.Compare l [op] [r] pos) c := fun A E s Q R T h =>
  wpAny_isTrue_Compare1 (hl A E s _ R T fun u s₁ k₁ ru => hr A E s₁ _ (R.to k₁) (T.keeps k₁.heap) fun v s₂ k₂ rv =>
    hc _ _ A E s₂ _ u v ((R.to k₁).to k₂) (Rd.keeps k₂.heap ru) rv (wpAny_truthy_bool (h _ (k₁.trans k₂)))) hm
section
variable {w : World}
theorem Cmp.eqI (a b : Int) : Cmp w .Eq (.int a) (.int b) (a == b) := fun N k A E s Q u v R ru rv h => by cases ru; cases rv; exact wpAny_eq_int h
theorem Cmp.ltI (a b : Int) : Cmp w .Lt (.int a) (.int b) (decide (a < b)) := fun N k A E s Q u v R ru rv h => by cases ru; cases rv; exact wpAny_lt_int h
theorem Cmp.geI (a b : Int) : Cmp w .GtE (.int a) (.int b) (decide (b ≤ a)) := fun N k A E s Q u v R ru rv h => by cases ru; cases rv; exact ge_int h
theorem Cmp.eqS (a b : Str) : Cmp w .Eq (.str a) (.str b) (a == b) := fun N k A E s Q u v R ru rv h => by cases ru; cases rv; exact eq_str h
theorem Cmp.inS (a b : Str) : Cmp w .In (.str a) (.str b) (Txt.contains b a) := fun N k A E s Q u v R ru rv h => by cases ru; cases rv; exact SB.contains h
theorem Cmp.notInS (a b : Str) : Cmp w .NotIn (.str a) (.str b) (!Txt.contains b a) := fun N k A E s Q u v R ru rv h => by cases ru; cases rv; exact SB.notContains h
theorem Cmp.ltS (a b : Str) : Cmp w .Lt (.str a) (.str b) (decide (a.cps.toList < b.cps.toList)) := fun N k A E s Q u v R ru rv h => by cases ru; cases rv; exact lt_str h
theorem Cmp.gtS (a b : Str) : Cmp w .Gt (.str a) (.str b) (decide (b.cps.toList < a.cps.toList)) := fun N k A E s Q u v R ru rv h => by cases ru; cases rv; exact P.gt_str h
theorem Cmp.isNone (a : PyData) : Cmp w .Is a .none (match a with | .none => true | _ => false) := fun N k A E s Q u v R ru rv h => by
  cases rv; cases ru <;> first | exact is_none_none h | exact is_none_ne (by intro e; cases e) h
theorem Cmp.isNotNone (a : PyData) : Cmp w .IsNot a .none (match a with | .none => false | _ => true) := fun N k A E s Q u v R ru rv h => by
  cases rv; cases ru <;> first | exact isnot_none_none h | exact isnot_none_ne (by intro e; cases e) h
theorem Cmp.eqD {a b : PyData} (ha : a.canLay0 = true) (hb : b.canLay0 = true) (hd : a.depth ≤ 16) : Cmp w .Eq a b (PyData.eqv a b) := fun N k A E s Q u v R ru rv h => by
  obtain ⟨as, qa⟩ := ru.reads; obtain ⟨bs, qb⟩ := rv.reads
  exact SeqAt.compareEq_reads qa qb ha hb (by have := R.units; have : cLine = 9900 := rfl; omega) h
open Classical in
/-- the datum that a value reads as -/
noncomputable def datOf (N : Addr → Prop) (h : Heap) (v : Value) : PyData := if p : ∃ d, Rd N h v d then p.choose else .none
theorem datOf_eq {N : Addr → Prop} {h : Heap} {v : Value} {d : PyData} (r : Rd N h v d) : datOf N h v = d := by
  have p : ∃ d, Rd N h v d := ⟨d, r⟩
  unfold datOf
  rw [dif_pos p]
  obtain ⟨as, q⟩ := p.choose_spec.reads
  obtain ⟨bs, q'⟩ := r.reads
  exact (q.unique _ _ q').1
theorem RdAll.dats {N : Addr → Prop} {h : Heap} : ∀ {vs ds}, RdAll N h vs ds → vs.map (datOf N h) = ds
  | _, _, .nil => rfl
  | _, _, .cons a b => by rw [List.map_cons, datOf_eq a, b.dats]
theorem RdAll.mem {N : Addr → Prop} {h : Heap} {v : Value} : ∀ {vs ds}, RdAll N h vs ds → v ∈ vs → ∃ d, d ∈ ds ∧ Rd N h v d
  | _, _, .cons a b, hm => by
    rcases List.mem_cons.mp hm with rfl | hm
    · exact ⟨_, List.mem_cons_self, a⟩
    · obtain ⟨d, h1, h2⟩ := b.mem hm; exact ⟨d, List.mem_cons_of_mem _ h1, h2⟩
theorem canLayAll0_mem {d : PyData} : ∀ {ds : List PyData}, PyData.canLayAll0 ds = true → d ∈ ds → d.canLay0 = true
  | x :: xs, h, hm => by
    simp only [PyData.canLayAll0, Bool.and_eq_true] at h
    rcases List.mem_cons.mp hm with rfl | hm
    · exact h.1
    · exact canLayAll0_mem h.2 hm
theorem eqAtD {N : Addr → Prop} {A : Around} {s : Shared} {x y : Value} {d e : PyData} (R : A.units < 9000) (rx : Rd N s.heap x d) (ry : Rd N s.heap y e) (hx : d.canLay0 = true) (hy : e.canLay0 = true) (hd : d.depth ≤ 16) :
    SeqAt.EqAt A.in1 s y x (PyData.eqv (datOf N s.heap y) d) := by
  rw [datOf_eq ry]
  obtain ⟨as, q⟩ := rx.reads
  obtain ⟨bs, q'⟩ := ry.reads
  exact SeqAt.eqAt_reads _ _ _ _ _ _ _ _ q' q hy hx (by have : cLine = 9900 := rfl; show A.units + 1 + _ < _; omega)
theorem Cmp.inL {x : PyData} {ys : List PyData} (hx : x.canLay0 = true) (hy : PyData.canLayAll0 ys = true) (hd : x.depth ≤ 16) : Cmp w .In x (.list ys) (ys.any fun y => PyData.eqv y x) := fun N k A E s Q u v R ru rv h => by
  cases rv with
  | @list p vs n _ p1 p2 p3 =>
    refine SeqAt.in_listAt (fun y => PyData.eqv (datOf N s.heap y) x) ⟨_, p1, rfl, _, rfl⟩ (fun y hm => ?_) ?_
    · obtain ⟨d, h1, h2⟩ := p3.mem (Array.mem_toList_iff.mpr hm)
      exact eqAtD (by have := R.units; omega) ru h2 hx (canLayAll0_mem hy h1) hd
    · have e : (vs.toList.any fun y => PyData.eqv (datOf N s.heap y) x) = ys.any fun y => PyData.eqv y x := by rw [← p3.dats, List.any_map]; rfl
      rw [← Array.any_toList, e]; exact h
theorem Cmp.notInL {x : PyData} {ys : List PyData} (hx : x.canLay0 = true) (hy : PyData.canLayAll0 ys = true) (hd : x.depth ≤ 16) : Cmp w .NotIn x (.list ys) (!ys.any fun y => PyData.eqv y x) := fun N k A E s Q u v R ru rv h => by
  cases rv with
  | @list p vs n _ p1 p2 p3 =>
    refine SeqAt.notIn_listAt (fun y => PyData.eqv (datOf N s.heap y) x) ⟨_, p1, rfl, _, rfl⟩ (fun y hm => ?_) ?_
    · obtain ⟨d, h1, h2⟩ := p3.mem (Array.mem_toList_iff.mpr hm)
      exact eqAtD (by have := R.units; omega) ru h2 hx (canLayAll0_mem hy h1) hd
    · have e : (vs.toList.any fun y => PyData.eqv (datOf N s.heap y) x) = ys.any fun y => PyData.eqv y x := by rw [← p3.dats, List.any_map]; rfl
      rw [← Array.any_toList, e]; exact h
theorem Cmp.neD {a b : PyData} (ha : a.canLay0 = true) (hb : b.canLay0 = true) (hd : a.depth ≤ 16) : Cmp w .NotEq a b (!PyData.eqv a b) := fun N k A E s Q u v R ru rv h => by
  obtain ⟨as, qa⟩ := ru.reads; obtain ⟨bs, qb⟩ := rv.reads
  exact cmp_ofNotEq (SeqAt.neOverData _ _ _ _ _ _ _ _ _ _ _ _ qa qb ha hb (by have := R.units; have : cLine = 9900 := rfl; omega) h)
end
theorem Tst.not {x : Expr} {pos : Pos} {b : Bool} (hx : Tst X k W ρ x b) : Tst X k W ρ (.UnaryOp .Not x pos) (!b) := fun A E s Q R T h =>
  isTrue_not (hx A E s _ R T h)
theorem Tst.int {x : Expr} {a : Int} (hx : Ev X k W ρ x (.dat (.int a))) (he : ∀ whole : Sem Value, isTrue x X.env whole = (do let v ← whole; standAt x.pos; holding [v] (truthy v))) : Tst X k W ρ x (a != 0) := fun A E s Q R T h =>
  isTrue_plain (hx A E s _ R T fun v s' t r => by
    change Rd _ _ _ _ at r
    cases r
    exact truthy_int (h _ t)) (he _)
theorem Tst.str {x : Expr} {a : Str} (hx : Ev X k W ρ x (.dat (.str a))) (hl : a.length < 2 ^ 60) (he : ∀ whole : Sem Value, isTrue x X.env whole = (do let v ← whole; standAt x.pos; holding [v] (truthy v))) : Tst X k W ρ x ((a.length : Int) != 0) := fun A E s Q R T h =>
  isTrue_plain (hx A E s _ R T fun v s' t r => by
    change Rd _ _ _ _ at r
    cases r
    exact P.truthy_str (by omega) (h _ (t.trans (To.tok _ _)))) (he _)
end
end Mine
end
section
open PySem PySem.W PyProof.Rows
namespace Mine
section
variable {X : Fx} {k : Nat} {W : Own} {ρ : Vars}

inductive Dk (N : Addr → Prop) (h : Heap) : List Value → List D → Prop
  | nil : Dk N h [] []
  | cons {v vs d ds} : D.ok N h v d → Dk N h vs ds → Dk N h (v :: vs) (d :: ds)
theorem Dk.keeps {N : Addr → Prop} {h h' : Heap} (hk : Kp h h') : ∀ {vs ds}, Dk N h vs ds → Dk N h' vs ds
  | _, _, .nil => .nil
  | _, _, .cons a b => .cons (D.ok.keeps hk a) (b.keeps hk)
theorem Dk.rd {N : Addr → Prop} {h : Heap} : ∀ {ds : List PyData} {vs}, Dk N h vs (ds.map .dat) → RdAll N h vs ds
  | [], _, .nil => .nil
  | _ :: _, _, .cons a b => .cons a b.rd
theorem Dk.length {N : Addr → Prop} {h : Heap} : ∀ {ds : List D} {vs}, Dk N h vs ds → vs.length = ds.length
  | _, _, .nil => rfl
  | _, _, .cons _ b => congrArg (· + 1) b.length
inductive EvAll (X : Fx) (k : Nat) (W : Own) (ρ : Vars) : List Expr → List D → Prop
  | nil : EvAll X k W ρ [] []
  | cons {e es d ds} : (∀ r, starEach (e :: r) X.env = (false, eval e X.env) :: starEach r X.env) → Ev X k W ρ e d → EvAll X k W ρ es ds → EvAll X k W ρ (e :: es) (d :: ds)
theorem EvAll.spliced {pos : Pos} : ∀ {es : List Expr} {ds : List D}, EvAll X k W ρ es ds → ∀ (A : Around) (E : Value → Shared → Prop) (s : Shared) (Q : List Value → Shared → Prop), Rm k A s.toks → Stt X W ρ s.heap →
    (∀ vs s', To s s' → Dk (X.N W) s'.heap vs ds → Q vs s') → wpAny (mo X.w) A (PySem.spliced (backTo pos (starEach es X.env))) Q E s
  | _, _, .nil, A, E, s, Q, R, T, h => by
    show wpAny _ A (PySem.spliced []) Q E s
    exact Calls.spliced_nil (h _ _ (To.rfl _) .nil)
  | _, _, .cons hs he hr, A, E, s, Q, R, T, h => by
    rw [hs]
    show wpAny _ A (PySem.spliced ((false, eval _ X.env) :: backTo pos (starEach _ X.env))) Q E s
    refine Calls.spliced_cons (he A E s _ R T fun v s₁ k₁ r₁ => hr.spliced A E s₁ _ (R.to k₁) (T.keeps k₁.heap) fun vs s₂ k₂ r₂ => h _ _ (k₁.trans k₂) (.cons (D.ok.keeps k₂.heap r₁) r₂))
theorem EvAll.args {pos : Pos} {f : Value} {es : List Expr} {ds : List D} (h : EvAll X k W ρ es ds) (A : Around) (E : Value → Shared → Prop) (s : Shared) (Q : Args → Shared → Prop) (R : Rm k A s.toks) (T : Stt X W ρ s.heap)
    (hq : ∀ vs s', To s s' → Dk (X.N W) s'.heap vs ds → Q ⟨vs, []⟩ s') : wpAny (mo X.w) A (evalArgs f true (backTo pos (starEach es X.env)) []) Q E s := by
  cases h with
  | nil => exact evalArgs_nil3 (f := f) (Q := Q) (hq _ _ (To.rfl _) .nil)
  | @cons e es d ds hs he hr =>
    have e1 : backTo pos (starEach (e :: es) X.env) = (false, eval e X.env) :: backTo pos (starEach es X.env) := by rw [hs]; rfl
    rw [e1]
    refine Calls.evalArgs_plain ?_
    rw [← e1]
    exact (EvAll.cons hs he hr).spliced A E s _ R T fun vs s' k' r => hq vs s' k' r
theorem EvAll.plain {pos : Pos} : ∀ {es : List Expr} {ds : List D}, EvAll X k W ρ es ds → (backTo pos (starEach es X.env)).any (·.1) = false
  | _, _, .nil => rfl
  | _, _, .cons hs _ hr => by rw [hs]; exact hr.plain
theorem Ev.tuple {es : List Expr} {kk : Nat} {pos : Pos} {ds : List PyData} (h : EvAll X k W ρ es (ds.map .dat)) (hn : ds.length ≤ 1000) : Ev X k W ρ (.Tuple es kk pos) (.dat (.tuple ds)) := fun A E s Q R T hq =>
  Tuple_ (h.spliced A E s _ R T fun vs s' k' r => by
    have hl := r.length
    rw [List.length_map] at hl
    refine wpAny_newObj_type (hq _ _ (k'.trans (To.push _ _)) (.tuple (Heap.get?_push_size _ rfl) (T.fresh k'.heap) ?_)) (by show vs.toArray.size ≤ sizeLine; rw [List.size_toArray]; have : sizeLine = 2 ^ 24 := rfl; omega)
    exact r.rd.keeps (Kp.push _ _))
theorem Ev.list {es : List Expr} {pos : Pos} {ds : List PyData} (h : EvAll X k W ρ es (ds.map .dat)) (hn : ds.length ≤ 1000) : Ev X k W ρ (.List es pos) (.dat (.list ds)) := fun A E s Q R T hq =>
  List_ (h.spliced A E s _ R T fun vs s' k' r => by
    have hl := r.length
    rw [List.length_map] at hl
    refine wpAny_newObj_type (hq _ _ (k'.trans (To.push _ _)) (.list (Heap.get?_push_size _ rfl) (T.fresh k'.heap) ?_)) (by show vs.toArray.size ≤ sizeLine; rw [List.size_toArray]; have : sizeLine = 2 ^ 24 := rfl; omega)
    exact r.rd.keeps (Kp.push _ _))

theorem Ev.subB {l r : Expr} {pos : Pos} {a b : Bool} (hl : Ev X k W ρ l (.dat (.bool a))) (hr : Ev X k W ρ r (.dat (.bool b))) : Ev X k W ρ (.BinOp l .Sub r pos) (.dat (.int (b2i a - b2i b))) :=
  Ev.bin hl hr fun A E s Q u v R T ru rv h => by
    cases ru; cases rv
    exact sub_bool (h _ _ (To.tok _ _) (.int _ _))
-- subscripts
theorem Ev.sub {value slice : Expr} {pos : Pos} {a b d : PyData} (ha : Ev X k W ρ value (.dat a)) (hb : Ev X k W ρ slice (.dat b))
    (f : ∀ (A : Around) (E : Value → Shared → Prop) (s : Shared) (Q : Value → Shared → Prop) (u v : Value), Rd (X.N W) s.heap u a → Rd (X.N W) s.heap v b → (∀ x s', To s s' → Rd (X.N W) s'.heap x d → Q x s') →
      wpAny (mo X.w) A (subscriptTail value slice u v) Q E s) : Ev X k W ρ (.Subscript value slice pos) (.dat d) := fun A E s Q R T hq =>
  Subscript_ (ha A E s _ R T fun u s₁ k₁ r₁ => hb A E s₁ _ (R.to k₁) (T.keeps k₁.heap) fun v s₂ k₂ r₂ => f A E s₂ Q u v (Rd.keeps k₂.heap r₁) r₂ fun x s₃ k₃ r => hq x s₃ ((k₁.trans k₂).trans k₃) r)
theorem Ev.itemL {value slice : Expr} {pos : Pos} {xs : List PyData} {i : Int} {j : Nat} {d : PyData} (ha : Ev X k W ρ value (.dat (.list xs))) (hb : Ev X k W ρ slice (.dat (.int i))) (hlo : -(2 ^ 63) ≤ i) (hhi : i < 2 ^ 63)
    (hj : seqIndex? i xs.length = some j) (hx : xs[j]? = some d) (hs : ∀ o i, subscripted slice false o i = operate [o, i] (getItem o i)) : Ev X k W ρ (.Subscript value slice pos) (.dat d) :=
  Ev.sub ha hb fun A E s Q u v ru rv h => by
    cases rv with
    | int _ t =>
      cases ru with
      | @list p vs n _ p1 p2 p3 =>
        obtain ⟨y, hy, ry⟩ := p3.get j hx
        have hl : s.heap.IsList p vs := ⟨_, p1, rfl, _, rfl⟩
        refine tail_any hl.typeIs slot_list_getitem.lookup ?_ (hs _ _)
        have hsz : vs.size = xs.length := by have := p3.length; simpa using this
        rcases Int.lt_or_le i 0 with h0 | h0
        · refine kde_getNeg (vs := vs.toList) (by simpa using hl) h0 hlo (j := j) (by simpa [hsz] using hj) hy (h _ _ (To.rfl _) ry)
        · have hjj : j = i.toNat := by
            unfold seqIndex? at hj
            have hn : ¬ (i < 0) := Int.not_lt.mpr h0
            simp only [hn, if_false] at hj
            split at hj
            · exact (Option.some.inj hj).symm
            · cases hj
          subst hjj
          exact wpAny_getItem_list hl h0 hhi (by simpa using hy) (h _ _ (To.rfl _) ry)
theorem Ev.itemT {value slice : Expr} {pos : Pos} {xs : List PyData} {i : Int} {j : Nat} {d : PyData} (ha : Ev X k W ρ value (.dat (.tuple xs))) (hb : Ev X k W ρ slice (.dat (.int i))) (hlo : -(2 ^ 63) ≤ i) (hhi : i < 2 ^ 63)
    (hj : seqIndex? i xs.length = some j) (hx : xs[j]? = some d) (hs : ∀ o i, subscripted slice false o i = operate [o, i] (getItem o i)) : Ev X k W ρ (.Subscript value slice pos) (.dat d) :=
  Ev.sub ha hb fun A E s Q u v ru rv h => by
    cases rv with
    | int _ t =>
      cases ru with
      | @tuple p vs n _ p1 p2 p3 =>
        obtain ⟨y, hy, ry⟩ := p3.get j hx
        have hl : IsTup s.heap p vs := ⟨_, p1, rfl, _, rfl⟩
        refine tail_any hl.typeIs slot_tuple_getitem.lookup ?_ (hs _ _)
        have hsz : vs.size = xs.length := by have := p3.length; simpa using this
        exact PyProof.Rows.getItem_tuple hl hlo hhi (by rw [hsz]; exact hj) (by simpa using hy) (h _ _ (To.rfl _) ry)
theorem Ev.itemS {value slice : Expr} {pos : Pos} {x : Str} {i : Int} (ha : Ev X k W ρ value (.dat (.str x))) (hb : Ev X k W ρ slice (.dat (.int i))) (hr : fitsSsize i = true) (hin : (Txt.charAt x i).isSome = true)
    (hs : ∀ o i, subscripted slice false o i = operate [o, i] (getItem o i)) : Ev X k W ρ (.Subscript value slice pos) (.dat (.str (Txt.item x i))) :=
  Ev.sub ha hb fun A E s Q u v ru rv h => by
    cases rv; cases ru
    exact tail_any (typeIs_str s _ _) F.slot_str_getitem.lookup (SB.getItem hr hin (h _ _ (To.tok _ _) (.str _ _))) (hs _ _)
/-- one end of a slice -/
inductive Pt (X : Fx) (k : Nat) (W : Own) (ρ : Vars) : Option Expr → Option Int → Prop
  | no : Pt X k W ρ none none
  | of {e i} : Ev X k W ρ e (.dat (.int i)) → Pt X k W ρ (some e) (some i)
theorem Pt.part {e : Option Expr} {p : Option Int} (h : Pt X k W ρ e p) (A : Around) (E : Value → Shared → Prop) (s : Shared) (Q : Value → Shared → Prop) (R : Rm k A s.toks) (T : Stt X W ρ s.heap)
    (hq : ∀ v s', To s s' → IsPart v p → Q v s') : wpAny (mo X.w) A (evalPart e X.env) Q E s := by
  cases h with
  | no => rw [evalPart_none]; exact wpAny_pure (hq _ _ (To.rfl _) .none)
  | of he =>
    rw [evalPart_some]
    refine he A E s _ R T fun v s' t r => ?_
    change Rd _ _ _ _ at r
    cases r
    exact hq _ _ t (.int _ _)
theorem RdAll.picked {N : Addr → Prop} {h : Heap} {vs : Array Value} {ds : List PyData} (r : RdAll N h vs.toList ds) (js : List Nat) : RdAll N h (js.filterMap (vs[·]?)) (js.filterMap (ds[·]?)) := by
  induction js with
  | nil => exact .nil
  | cons j js ih =>
    rw [List.filterMap_cons, List.filterMap_cons]
    cases hd : ds[j]? with
    | none =>
      have : vs[j]? = none := by
        have hl := r.length
        rw [Array.length_toList] at hl
        simp only [List.getElem?_eq_none_iff, Array.getElem?_eq_none_iff] at hd ⊢
        rw [hl]; exact hd
      rw [this]; exact ih
    | some d =>
      obtain ⟨v, hv, rv⟩ := r.get j hd
      rw [show vs[j]? = some v by simpa using hv]
      exact .cons rv ih
/-- what a slice of step 1 picks -/
noncomputable def sliced (xs : List PyData) (lo hi : Option Int) : List PyData :=
  let b := sliceBounds lo hi none xs.length
  (sliceRange b.1 b.2.1 b.2.2).filterMap (xs[·]?)
theorem Ev.sliceL {value : Expr} {lo hi : Option Expr} {p pos : Pos} {xs : List PyData} {a b : Option Int} (hv : Ev X k W ρ value (.dat (.list xs))) (hl : Pt X k W ρ lo a) (hh : Pt X k W ρ hi b) (hn : xs.length ≤ 100000)
    (ht : ∀ o r, letTemporaryGo value o r = pure ()) : Ev X k W ρ (.Subscript value (.Slice lo hi Option.none p) pos) (.dat (.list (sliced xs a b))) := fun A E s Q R T hq => by
  refine wpAny_Subscript_list_slice (hv A E s _ R T fun v s₁ k₁ r₁ => hl.part A E s₁ _ (R.to k₁) (T.keeps k₁.heap) fun vl s₂ k₂ r₂ => hh.part A E s₂ _ ((R.to k₁).to k₂) ((T.keeps k₁.heap).keeps k₂.heap) fun vu s₃ k₃ r₃ => ?_) ht
  have r₁ := Rd.keeps k₃.heap (Rd.keeps k₂.heap r₁)
  have T3 := ((T.keeps k₁.heap).keeps k₂.heap).keeps k₃.heap
  cases r₁ with
  | @list q vs n _ q1 q2 q3 =>
    have hlen := q3.length
    rw [Array.length_toList] at hlen
    refine ⟨q, vs, a, b, rfl, ⟨_, q1, rfl, _, rfl⟩, by have : sizeLine = 2 ^ 24 := rfl; omega, r₂, r₃, hq _ _ (((k₁.trans k₂).trans k₃).trans ((To.push _ _).trans (To.push _ _))) ?_⟩
    have hfr := T3.fresh (Kp.push s₃.heap { cls := .type "slice", data := .fields #[vl, vu, .none] })
    rw [Heap.size_push] at hfr
    refine Rd.list (vs := slicePick vs a b none) (n := 0) ?_ hfr ?_
    · have := Heap.get?_push_size (s₃.heap.push { cls := .type "slice", data := .fields #[vl, vu, .none] }) (o := { cls := .type "list", data := .seq (slicePick vs a b none) }) rfl
      rw [Heap.size_push] at this
      exact this
    · have := (q3.keeps (Kp.push s₃.heap { cls := .type "slice", data := .fields #[vl, vu, .none] })).keeps (Kp.push _ { cls := .type "list", data := .seq (slicePick vs a b none) })
      have q := this.picked (sliceRange (sliceBounds a b none vs.size).1 (sliceBounds a b none vs.size).2.1 (sliceBounds a b none vs.size).2.2)
      unfold sliced
      rw [← hlen]
      simpa [slicePick] using q
end
end Mine
end
section
open PySem PySem.W PyProof.Rows
namespace Mine

theorem Ns_agree {h : Heap} {a : Addr} {m m' : Str → Option Value} (x : h.Ns a m) (y : h.Ns a m') : m = m' := by
  obtain ⟨o, es, ep, ho, hd, _, hf⟩ := x
  obtain ⟨o', es', ep', ho', hd', _, hf'⟩ := y
  rw [ho] at ho'; cases ho'
  rw [hd] at hd'; cases hd'
  funext n
  rw [← hf n, ← hf' n]
theorem Ns_ne_cell {h : Heap} {a c : Addr} {m : Str → Option Value} {v : Option Value} (x : h.Ns a m) (y : h.IsCell c v) : a ≠ c := by
  rintro rfl
  obtain ⟨o, es, ep, ho, hd, _⟩ := x
  obtain ⟨o', ho', hd'⟩ := y
  rw [ho] at ho'; cases ho'
  rw [hd] at hd'; cases hd'
theorem Ns_ne_seq {h : Heap} {a c : Addr} {m : Str → Option Value} {o : Obj} {vs : Array Value} {n : Nat} (x : h.Ns a m) (y : h.get? c = some o) (hd : o.data = .seq vs n) : a ≠ c := by
  rintro rfl
  obtain ⟨o', es, ep, ho', hd', _⟩ := x
  rw [y] at ho'; cases ho'
  rw [hd] at hd'; cases hd'
theorem cell_ne_seq {h : Heap} {a c : Addr} {v : Option Value} {o : Obj} {vs : Array Value} {n : Nat} (x : h.IsCell a v) (y : h.get? c = some o) (hd : o.data = .seq vs n) : a ≠ c := by
  rintro rfl
  obtain ⟨o', ho', hd'⟩ := x
  rw [y] at ho'; cases ho'
  rw [hd] at hd'; cases hd'

/-- what a block may have changed -/
structure Mv (X : Fx) (W W' : Own) (s s' : Shared) : Prop where
  same : ∃ h' tk, s' = { s with heap := h', toks := tk } ∧ s.toks ≤ tk
  kept : ∀ b o, ¬ X.T W b → s.heap.get? b = some o → s'.heap.get? b = some o
  newer : ∀ b, b ∈ W'.map (·.1) → b ∈ W.map (·.1) ∨ (s.heap.get? b = none ∧ ¬ X.T [] b)
theorem Mv.ofTo {X : Fx} {W : Own} {s s' : Shared} (t : To s s') : Mv X W W s s' := ⟨let ⟨a, b, c, _, d⟩ := t; ⟨a, b, c, d⟩, fun b o _ e => t.heap b o e, fun _ h => .inl h⟩
theorem Mv.newerT {X : Fx} {W W' : Own} {s s' : Shared} (m : Mv X W W' s s') (b : Addr) (q : X.T W' b) : X.T W b ∨ s.heap.get? b = none := by
  rcases q with q | q | q
  · exact .inl (.inl q)
  · exact .inl (.inr (.inl q))
  · exact (m.newer b q).imp (fun q => .inr (.inr q)) fun q => q.1
theorem Fx.T.nil {X : Fx} {W : Own} {c : Addr} (q : X.T W c) (h : c ∉ W.map (·.1)) : X.T [] c := by
  rcases q with q | q | q
  · exact .inl q
  · exact .inr (.inl q)
  · exact absurd q h
theorem Fx.T.any {X : Fx} {W : Own} {c : Addr} (q : X.T [] c) : X.T W c := by
  rcases q with q | q | q
  · exact .inl q
  · exact .inr (.inl q)
  · exact absurd q (by simp)
theorem Mv.trans {X : Fx} {W W₁ W₂ : Own} {s s₁ s₂ : Shared} (a : Mv X W W₁ s s₁) (b : Mv X W₁ W₂ s₁ s₂) : Mv X W W₂ s s₂ where
  same := by obtain ⟨h, t, rfl, q⟩ := a.same; obtain ⟨h', t', rfl, q'⟩ := b.same; exact ⟨h', t', rfl, Nat.le_trans q q'⟩
  kept := fun c o hc e => b.kept c o (fun q => by rcases a.newerT c q with q | q; exact hc q; rw [q] at e; cases e) (a.kept c o hc e)
  newer := fun c q => by
    rcases b.newer c q with q | q
    · exact a.newer c q
    · by_cases hw : c ∈ W.map (·.1)
      · exact .inl hw
      · refine .inr ⟨?_, q.2⟩
        cases e : s.heap.get? c with
        | none => rfl
        | some o => have := a.kept c o (fun t => q.2 (t.nil hw)) e; rw [q.1] at this; cases this
theorem Mv.le {X : Fx} {W W' : Own} {s s' : Shared} (m : Mv X W W' s s') : s.toks ≤ s'.toks := by obtain ⟨h, t, rfl, q⟩ := m.same; exact q
theorem Mv.toTo {X : Fx} {W W' : Own} {s s₁ : Shared} (a : Mv X W W' s s₁) {s₂ : Shared} (t : To s₁ s₂) : Mv X W W' s s₂ := by
  have := a.trans (Mv.ofTo (W := W') t); exact this

section
variable {X : Fx} {k : Nat} {W : Own} {ρ : Vars} {A : Around} {E : Value → Shared → Prop} {s : Shared}

theorem Stt.notT {h : Heap} (T : Stt X W ρ h) {a : Addr} (ha : a < X.h₀.objs.size) : ¬ X.T W a := by
  rintro (q | q | q)
  · subst q; exact Nat.lt_irrefl _ (Nat.lt_of_lt_of_le ha T.above)
  · obtain ⟨n, hp, _⟩ := q
    exact Nat.lt_irrefl _ (Nat.lt_of_lt_of_le ha (T.cab _ (mem_of_lookup hp)))
  · obtain ⟨p, hp, rfl⟩ := List.mem_map.mp q
    exact Nat.lt_irrefl _ (Nat.lt_of_lt_of_le ha (T.own p hp).1)

/-- the objects that storing these names may change -/
noncomputable def Fx.G (X : Fx) (xs : List Str) (c : Addr) : Prop := c = X.env.locals ∨ ∃ x ∈ xs, X.env.cells.lookup x = some c ∧ X.env.locals < c
structure Sv (X : Fx) (xs : List Str) (s s' : Shared) : Prop where
  same : ∃ h' tk, s' = { s with heap := h', toks := tk } ∧ s.toks ≤ tk
  kept : ∀ c o, ¬ X.G xs c → s.heap.get? c = some o → s'.heap.get? c = some o
theorem Sv.mv {X : Fx} {xs : List Str} {W : Own} {s s' : Shared} (v : Sv X xs s s') : Mv X W W s s' :=
  ⟨v.same, fun b o hb e => v.kept b o (fun q => hb (by rcases q with q | ⟨x, _, q⟩; exact .inl q; exact .inr (.inl ⟨x, q⟩))) e, fun _ q => .inl q⟩
theorem Sv.trans {X : Fx} {xs ys : List Str} {s s₁ s₂ : Shared} (a : Sv X xs s s₁) (b : Sv X ys s₁ s₂) : Sv X (xs ++ ys) s s₂ :=
  ⟨by obtain ⟨h, t, rfl, q⟩ := a.same; obtain ⟨h', t', rfl, q'⟩ := b.same; exact ⟨h', t', rfl, Nat.le_trans q q'⟩, fun c o hc e => b.kept c o (fun q => hc (by rcases q with q | ⟨x, m, q⟩; exact .inl q; exact .inr ⟨x, List.mem_append_right _ m, q⟩)) (a.kept c o (fun q => hc (by rcases q with q | ⟨x, m, q⟩; exact .inl q; exact .inr ⟨x, List.mem_append_left _ m, q⟩)) e)⟩
theorem Sv.ofTo {X : Fx} {xs : List Str} {s s' : Shared} (t : To s s') : Sv X xs s s' := ⟨let ⟨a, b, c, _, d⟩ := t; ⟨a, b, c, d⟩, fun b o _ e => t.heap b o e⟩
/-- a name that may be stored -/
noncomputable def Kn (env : Env) (x : Str) : Prop := env.kindOf x = some .local ∨ (env.kindOf x = some .cell ∧ ∃ k, env.cells.lookup x = some (env.locals + 1 + k))
noncomputable def put (x : Str) (d : D) (ρ : Vars) : Vars := (x, d) :: ρ.filter fun p => !(p.1 == x)
theorem Stt.store {x : Str} {v : Value} {d : D} {Q : Unit → Shared → Prop} (T : Stt X W ρ s.heap) (hk : Kn X.env x)
    (r : d.ok (X.N W) s.heap v) (h : ∀ s', Stt X W (put x d ρ) s'.heap → Sv X [x] s s' → Q () s') : wpAny (mo X.w) A (storeName X.env x v) Q E s := by
  obtain ⟨m, hm⟩ := T.loc
  have old : ∀ {b o}, X.h₀.get? b = some o → ¬ X.T W b := fun e => T.notT (Heap.lt_size e)
  rcases hk with hl | ⟨hl, hc⟩
  · refine wpAny_storeName_local hl hm (fun h' hn hs => h _ ?_ ⟨⟨_, _, rfl, Nat.le_succ _⟩, fun b o hb e => hs.extBut b o (fun q => hb (.inl q)) e⟩) (by rw [T.en.2.2]; rfl)
    have kq : ∀ b o vs n, s.heap.get? b = some o → o.data = .seq vs n → h'.get? b = some o := fun b o vs n e hd => hs.extBut b o (Ne.symm (Ns_ne_seq hm e hd)) e
    have kr : ∀ {v d}, Rd (X.N W) s.heap v d → Rd (X.N W) h' v d := fun r => r.keepOn (fun _ q => q) fun b o vs n e hd _ => kq b o vs n e hd
    have kd : ∀ {v} {d : D}, d.ok (X.N W) s.heap v → d.ok (X.N W) h' v := fun {v d} r => by cases d with | dat d => exact kr r | val u => exact r
    have hlow : ∀ a, X.N₀ a → a < X.h₀.objs.size ∨ ∃ o, h'.get? a = some o := fun a ha => (T.low a ha).imp id fun ⟨o, e⟩ => by
      by_cases hq : a = X.env.locals
      · subst hq; obtain ⟨o', _, _, e', _⟩ := hn; exact ⟨o', e'⟩
      · exact ⟨o, hs.extBut a o hq e⟩
    refine { T with low := hlow, keep := fun b o e => hs.extBut b o (fun q => old e (.inl q)) (T.keep b o e), loc := ⟨_, hn⟩, cel := fun n c e => ?_, own := fun p hp => ?_, vars := fun p hp => ?_ }
    · obtain ⟨v, q⟩ := T.cel n c e; exact ⟨v, q.sameBut hs (Ne.symm (Ns_ne_cell hm q))⟩
    · obtain ⟨a, vs, n, b, c⟩ := T.own p hp
      exact ⟨a, vs, n, kq _ _ _ _ b rfl, c.keepOn (fun _ q => q) fun b o vs n e hd _ => kq b o vs n e hd⟩
    · rcases List.mem_cons.mp hp with rfl | hp
      · exact ⟨v, ⟨.inl ⟨hl, _, hn, if_pos rfl⟩⟩, kd r⟩
      · obtain ⟨hp, hne⟩ := List.mem_filter.mp hp
        obtain ⟨u, H, r'⟩ := T.vars p hp
        refine ⟨u, ⟨?_⟩, kd r'⟩
        rcases H.how with ⟨a, m', b, c⟩ | ⟨a, c, b, e⟩
        · refine .inl ⟨a, _, hn, ?_⟩
          have hne' : p.1 ≠ x := by intro q; rw [q] at hne; simp at hne
          show (if p.1 = x then some v else m p.1) = some u
          rw [if_neg hne', Ns_agree hm b]; exact c
        · exact .inr ⟨a, c, b, e.sameBut hs (Ne.symm (Ns_ne_cell hm e))⟩
  · obtain ⟨kk, hc⟩ := hc
    have hLt : X.env.locals < X.env.locals + 1 + kk := Nat.lt_of_lt_of_le (Nat.lt_succ_self _) (Nat.le_add_right _ _)
    generalize X.env.locals + 1 + kk = c at hc hLt
    obtain ⟨v₀, hv₀⟩ := T.cel x c hc
    refine wpAny_storeName_cell T.en.2.2 hl hc hv₀ fun h' hv hs => h _ ?_ ⟨⟨_, _, rfl, Nat.le_refl _⟩, fun b o hb e => hs.extBut b o (fun q => hb (.inr ⟨x, by simp, q ▸ hc, q ▸ hLt⟩)) e⟩
    have kq : ∀ b o vs n, s.heap.get? b = some o → o.data = .seq vs n → h'.get? b = some o := fun b o vs n e hd => hs.extBut b o (Ne.symm (cell_ne_seq hv₀ e hd)) e
    have kr : ∀ {v d}, Rd (X.N W) s.heap v d → Rd (X.N W) h' v d := fun r => r.keepOn (fun _ q => q) fun b o vs n e hd _ => kq b o vs n e hd
    have kd : ∀ {v} {d : D}, d.ok (X.N W) s.heap v → d.ok (X.N W) h' v := fun {v d} r => by cases d with | dat d => exact kr r | val u => exact r
    have hLc := Ns_ne_cell hm hv₀
    have hlow : ∀ a, X.N₀ a → a < X.h₀.objs.size ∨ ∃ o, h'.get? a = some o := fun a ha => (T.low a ha).imp id fun ⟨o, e⟩ => by
      by_cases hq : a = c
      · subst hq; obtain ⟨o', e', _⟩ := hv; exact ⟨o', e'⟩
      · exact ⟨o, hs.extBut a o hq e⟩
    refine { T with low := hlow, keep := fun b o e => hs.extBut b o (fun q => old e (.inr (.inl ⟨x, q ▸ hc, q ▸ hLt⟩))) (T.keep b o e), loc := ⟨_, hm.sameBut hs hLc⟩, cel := fun n c' e => ?_, own := fun p hp => ?_, vars := fun p hp => ?_ }
    · by_cases hq : c' = c
      · subst hq; exact ⟨_, hv⟩
      · obtain ⟨u, q⟩ := T.cel n c' e; exact ⟨u, q.sameBut hs hq⟩
    · obtain ⟨a, vs, n, b, c⟩ := T.own p hp
      exact ⟨a, vs, n, kq _ _ _ _ b rfl, c.keepOn (fun _ q => q) fun b o vs n e hd _ => kq b o vs n e hd⟩
    · rcases List.mem_cons.mp hp with rfl | hp
      · exact ⟨v, ⟨.inr ⟨hl, c, hc, hv⟩⟩, kd r⟩
      · obtain ⟨hp, hne⟩ := List.mem_filter.mp hp
        obtain ⟨u, H, r'⟩ := T.vars p hp
        have hne' : p.1 ≠ x := by intro q; rw [q] at hne; simp at hne
        refine ⟨u, ⟨?_⟩, kd r'⟩
        rcases H.how with ⟨a, m', b, c'⟩ | ⟨a, c', b, e⟩
        · exact .inl ⟨a, m', b.sameBut hs (Ns_ne_cell b hv₀), c'⟩
        · refine .inr ⟨a, c', b, e.sameBut hs fun q => hne' ?_⟩
          exact name_of_addr T.apart (mem_of_lookup b) (q ▸ mem_of_lookup hc)

/-- a block that falls through; P tells what is owned and held behind it -/
noncomputable def Thru (X : Fx) (k : Nat) (W : Own) (ρ : Vars) (ss : List Stmt) (P : Own → Vars → Prop) : Prop :=
  ∀ (A : Around) (E : Value → Shared → Prop) (s : Shared) (Q : Flow → Shared → Prop), Rm k A s.toks → Stt X W ρ s.heap →
    (∀ W' ρ' s', P W' ρ' → Stt X W' ρ' s'.heap → Mv X W W' s s' → Q .next s') → wpAny (mo X.w) A (execs ss X.env) Q E s
/-- a block that returns -/
noncomputable def Bk (X : Fx) (k : Nat) (W : Own) (ρ : Vars) (ss : List Stmt) (d : PyData) : Prop :=
  ∀ (A : Around) (E : Value → Shared → Prop) (s : Shared) (Q : Flow → Shared → Prop), Rm k A s.toks → Stt X W ρ s.heap →
    (∀ v s', Kp X.h₀ s'.heap → (∃ h' tk, s' = { s with heap := h', toks := tk } ∧ s.toks ≤ tk) → Rd X.N₀ s'.heap v d → Q (.ret v) s') → wpAny (mo X.w) A (execs ss X.env) Q E s
theorem Thru.nil {P : Own → Vars → Prop} (h : P W ρ) : Thru X k W ρ [] P := fun A E s Q R T q => wpAny_execs_nil (q _ _ _ h T (Mv.ofTo (To.rfl _)))
theorem execs_append (a b : List Stmt) (env : Env) : execs (a ++ b) env = (do match ← execs a env with | .next => execs b env | f => pure f) := by
  induction a with
  | nil => rfl
  | cons st a ih =>
    rw [List.cons_append, execs_cons, execs_cons]
    simp only [bind_assoc]
    congr 1; funext f
    cases f <;> first | exact ih | rfl
theorem Thru.seq {a b : List Stmt} {P P' : Own → Vars → Prop} (h : Thru X k W ρ a P) (h' : ∀ W' ρ', P W' ρ' → Thru X k W' ρ' b P') : Thru X k W ρ (a ++ b) P' := fun A E s Q R T q => by
  rw [execs_append]
  exact wpAny_bind (h A E s _ R T fun W' ρ' s' p T' m => h' W' ρ' p A E s' _ (R.up m.le) T' fun W'' ρ'' s'' p' T'' m' => q W'' ρ'' s'' p' T'' (m.trans m'))
theorem Bk.seq {a b : List Stmt} {P : Own → Vars → Prop} {d : PyData} (h : Thru X k W ρ a P) (h' : ∀ W' ρ', P W' ρ' → Bk X k W' ρ' b d) : Bk X k W ρ (a ++ b) d := fun A E s Q R T q => by
  rw [execs_append]
  exact wpAny_bind (h A E s _ R T fun W' ρ' s' p T' m => h' W' ρ' p A E s' _ (R.up m.le) T' fun v s'' a b c => q v s'' a (by obtain ⟨h1, t1, rfl, q1⟩ := m.same; obtain ⟨h2, t2, rfl, q2⟩ := b; exact ⟨h2, t2, rfl, Nat.le_trans q1 q2⟩) c)
theorem Thru.cons {st : Stmt} {b : List Stmt} {P P' : Own → Vars → Prop} (h : Thru X k W ρ [st] P) (h' : ∀ W' ρ', P W' ρ' → Thru X k W' ρ' b P') : Thru X k W ρ (st :: b) P' := Thru.seq (a := [st]) h h'
theorem Bk.cons {st : Stmt} {b : List Stmt} {P : Own → Vars → Prop} {d : PyData} (h : Thru X k W ρ [st] P) (h' : ∀ W' ρ', P W' ρ' → Bk X k W' ρ' b d) : Bk X k W ρ (st :: b) d := Bk.seq (a := [st]) h h'
theorem Thru.to {ss : List Stmt} {P P' : Own → Vars → Prop} (h : Thru X k W ρ ss P) (h' : ∀ W' ρ', P W' ρ' → P' W' ρ') : Thru X k W ρ ss P' := fun A E s Q R T q => h A E s Q R T fun W' ρ' s' p => q W' ρ' s' (h' _ _ p)
theorem one {st : Stmt} {Q : Flow → Shared → Prop} (h : wpAny (mo X.w) A (exec st X.env) Q E s) : wpAny (mo X.w) A (execs [st] X.env) Q E s :=
  wpAny_execs_cons (wpAny_mono h (fun f s' q => by cases f <;> first | exact wpAny_execs_nil q | exact q) fun _ _ e => e)
theorem Thru.assign {x : Str} {e : Expr} {p pos : Pos} {d : D} (he : Ev X k W ρ e d) (hk : Kn X.env x) (hs : swapsWith e (some (.Name x p)) pos.line X.env = pure false) :
    Thru X k W ρ [.Assign [.Name x p] e pos] (fun W' ρ' => W' = W ∧ ρ' = put x d ρ) := fun A E s Q R T q => by
  refine one ?_
  rw [exec_Assign_Name _ _ _ _ _ hs]
  refine wpAny_bind (wpAny_standAt (wpAny_bind (he A E s _ R T fun v s₁ t r => wpAny_bind (wpAny_standAt (wpAny_bind (wpAny_bindName ?_))))))
  exact Stt.store (T.keeps t.heap) hk r fun s₂ T₂ m => wpAny_pure (q W _ s₂ ⟨rfl, rfl⟩ T₂ ((Mv.ofTo t).trans m.mv))
theorem Thru.ifT {test : Expr} {body orelse : List Stmt} {pos : Pos} {b : Bool} {P : Own → Vars → Prop} (ht : Tst X k W ρ test b) (h : Thru X k W ρ (if b then body else orelse) P) : Thru X k W ρ [.If test body orelse pos] P := fun A E s Q R T q => by
  refine one (wpAny_If (ht A E s _ R T fun s' t => ?_))
  have hh := h A E s' Q (R.to t) (T.keeps t.heap) fun W' ρ' s'' p T' m => q W' ρ' s'' p T' ((Mv.ofTo t).trans m)
  cases b <;> exact hh
theorem execs_If (test : Expr) (body orelse rest : List Stmt) (pos : Pos) (env : Env) : execs (.If test body orelse pos :: rest) env = (do standAt pos; let b ← isTrue test env (eval test env); execs ((if b then body else orelse) ++ rest) env) := by
  rw [execs_cons, exec_If]
  simp only [bind_assoc]
  congr 1; funext _; congr 1; funext b
  rw [execs_append]
  cases b <;> rfl
theorem Bk.ifT {test : Expr} {body orelse rest : List Stmt} {pos : Pos} {b : Bool} {d : PyData} (ht : Tst X k W ρ test b) (h : Bk X k W ρ ((if b then body else orelse) ++ rest) d) : Bk X k W ρ (.If test body orelse pos :: rest) d := fun A E s Q R T q => by
  rw [execs_If]
  refine wpAny_bind (wpAny_standAt (wpAny_bind (ht A E s _ R T fun s' t => ?_)))
  exact h A E s' Q (R.to t) (T.keeps t.heap) fun v s'' a b c => q v s'' a (by obtain ⟨h1, t1, rfl, _, q1⟩ := t; obtain ⟨h2, t2, rfl, q2⟩ := b; exact ⟨h2, t2, rfl, Nat.le_trans q1 q2⟩) c
theorem Bk.ret {e : Expr} {rest : List Stmt} {pos : Pos} {d : PyData} (he : Ev X k W ρ e (.dat d)) : Bk X k W ρ (.Return (some e) pos :: rest) d := fun A E s Q R T q =>
  wpAny_execs_cons (wpAny_Return_some (he A E s _ R T fun v s' t r => q v s' (fun b o e => t.heap b o (T.keep b o e)) (let ⟨a, b, c, _, d⟩ := t; ⟨a, b, c, d⟩) (Rd.less (fun _ q => .inl q) r)))
end
end Mine
end
section
open PySem PySem.W PyProof.Rows
namespace Mine

noncomputable def esOf : Data → Array DictEntry | .dict es _ => es | _ => #[]
noncomputable def epOf : Data → Nat | .dict _ n => n | _ => 0
noncomputable def gmap (P : Params) (x : Str) : Option Value := nsFind (esOf (o3_32 P).data) x
theorem main_data (P : Params) : (o3_32 P).data = .dict (esOf (o3_32 P).data) (epOf (o3_32 P).data) := by kernel_rfl
theorem main_keys (P : Params) : ((esOf (o3_32 P).data).toList.all fun e => match e.key with | .str _ _ => true | _ => false) = true := by kernel_rfl
theorem kF_at {P : Params} (i : Nat) {a : Addr} {o : Obj} (h : (kF P)[i]? = some (a, o)) : (a, o) ∈ kF P := List.mem_of_getElem? h
theorem main_strs (P : Params) : StrKeys (esOf (o3_32 P).data) := fun e he => by
  have h := List.all_eq_true.mp (main_keys P) e (Array.mem_toList_iff.mpr he)
  cases hk : e.key <;> rw [hk] at h <;> first | exact ⟨_, _, rfl⟩ | cases h
theorem Cx.main {w : World} {h : Heap} (C : Cx w h) : h.Ns mainGlobals (gmap w.params) :=
  ⟨o3_32 w.params, esOf (o3_32 w.params).data, epOf (o3_32 w.params).data, C.kin 3 _ (kF_at 0 rfl) (by decide), main_data _, main_strs _, fun _ => rfl⟩

section
variable {X : Fx} {k : Nat} {W : Own} {ρ : Vars}
theorem Ev.glob {x : Str} {pos : Pos} {v : Value} (hk : X.env.kindOf x = some .globalImplicit) (hg : gmap X.w.params x = some v) (hd : (x == ("__debug__" : Str)) = false) : Ev X k W ρ (.Name x pos) (.val v) := fun A E s Q R T h =>
  Calls.Name_function_global T.en.2.2 hk (Calls.loadGlobal_global (mg := gmap X.w.params) (by rw [T.en.1]; exact T.cxn.main) hg (h _ _ (To.rfl _) rfl)) hd
theorem Ev.blt {x : Str} {pos : Pos} {v : Value} (hk : X.env.kindOf x = some .globalImplicit) (hg : gmap X.w.params x = none) (hb : bootBuiltins x = some v) (hn : x ≠ "__name__") (hd : (x == ("__debug__" : Str)) = false) : Ev X k W ρ (.Name x pos) (.val v) := fun A E s Q R T h => by
  obtain ⟨mb, h1, h2⟩ := T.cxn.mb
  exact Calls.Name_function_global T.en.2.2 hk (Calls.loadGlobal_builtin (mg := gmap X.w.params) (mb := mb) (by rw [T.en.1]; exact T.cxn.main) hg (by rw [T.en.2.1]; exact h1) (by rw [h2 x hn]; exact hb) (h _ _ (To.rfl _) rfl)) hd

/-- a call's contract, over data -/
noncomputable def Cn (w : World) (k : Nat) (f : Value) (ds : List D) (d : D) : Prop :=
  ∀ (A : Around) (E : Value → Shared → Prop) (s : Shared) (Q : Value → Shared → Prop) (N : Addr → Prop), Rm k A s.toks → Cx w s.heap → (∀ a, N a → a < s.heap.objs.size) → ∀ vs, Dk N s.heap vs ds →
    (∀ v s', To s s' → d.ok N s'.heap v → Q v s') → wpAny (mo w) A (call f vs) Q E s
theorem Cn.less {w : World} {k j : Nat} {f : Value} {ds : List D} {d : D} (h : Cn w k f ds d) (hj : k ≤ j) : Cn w j f ds d := fun A E s Q N R => h A E s Q N (R.less hj)
/-- what may be called in the way of a Name -/
inductive Fv (w : World) : Value → Prop
  | b (id) : Fv w (.builtin id)
  | t (T) : Fv w (.type T)
  | f {a o fd} : (a, o) ∈ kF w.params → a ≠ 185 → o.data = .func fd → Fv w (.ref a)
theorem Ev.call {x : Str} {p pos : Pos} {es : List Expr} {f : Value} {ds : List D} {d : D} (hf : Ev X k W ρ (.Name x p) (.val f)) (hv : Fv X.w f) (ha : EvAll X k W ρ es ds) (hc : Cn X.w k f ds d) :
    Ev X k W ρ (.Call (.Name x p) es [] pos) d := fun A E s Q R T h => by
  refine wpAny_Call_NameR (hf A E s _ R T fun v s₁ t r => ?_)
  obtain rfl : v = f := r
  have T₁ := T.keeps t.heap
  have fin : ∀ vs s', To s₁ s' → Dk (X.N W) s'.heap vs ds → wpAny (mo X.w) A (PySem.call v ([] ++ vs) []) Q E s' := fun vs s' t' r' =>
    hc A E s' Q (X.N W) ((R.to t).to t') (T₁.keeps t'.heap).cxn (T₁.keeps t'.heap).nlt vs r' fun v s'' t'' r'' => h v s'' ((t.trans t').trans t'') r''
  cases hv with
  | b id => exact Calls.callWith_builtin ha.plain (ha.args A E s₁ _ (R.to t) T₁ fin)
  | t ty => exact PyProof.Rows.callWith_type ha.plain (ha.args A E s₁ _ (R.to t) T₁ fin)
  | @f a o fd hm hn hd => exact Calls.callWith_function (o := o) (fd := fd) (ha.args A E s₁ _ (R.to t) T₁ fun vs s' t' r' => ⟨⟨(T₁.keeps t'.heap).cxn.kin a o hm hn, hd⟩, fin vs s' t' r'⟩)

/-- how a parameter stands in its scope -/
noncomputable def Kd (scope : Scope) (n : Str) : Prop := scope.names.lookup n = some .local ∨ (scope.names.lookup n = some .cell ∧ ∀ L, ((cellsFrom L scope.names []).lookup n).isSome = true)
noncomputable def AllKd (scope : Scope) : List Str → Prop
  | [] => True
  | n :: r => Kd scope n ∧ AllKd scope r
theorem AllKd.mem {scope : Scope} {n : Str} : ∀ {ns}, AllKd scope ns → n ∈ ns → Kd scope n
  | _ :: _, ⟨a, b⟩, hm => by
    rcases List.mem_cons.mp hm with rfl | hm
    · exact a
    · exact b.mem hm
theorem bindL_skip {kf : Str → Option NameKind} {n : Str} : ∀ {binds : List (Str × Value)} {m : Str → Option Value}, n ∉ binds.map (·.1) → bindL kf binds m n = m n
  | [], _, _ => rfl
  | (a, v) :: r, m, h => by
    have h1 : n ≠ a := fun e => h (by simp [e])
    have h2 : n ∉ r.map (·.1) := fun e => h (by simp only [List.map_cons]; exact List.mem_cons_of_mem _ e)
    unfold bindL
    rw [bindL_skip h2]
    split
    · exact if_neg h1
    · rfl
theorem bindC_skip {kf : Str → Option NameKind} {n : Str} : ∀ {binds : List (Str × Value)} {m : Str → Option Value}, n ∉ binds.map (·.1) → bindC kf binds m n = m n
  | [], _, _ => rfl
  | (a, v) :: r, m, h => by
    have h1 : n ≠ a := fun e => h (by simp [e])
    have h2 : n ∉ r.map (·.1) := fun e => h (by simp only [List.map_cons]; exact List.mem_cons_of_mem _ e)
    unfold bindC
    rw [bindC_skip h2]
    split
    · rfl
    · exact if_neg h1
theorem bindL_get {kf : Str → Option NameKind} {n : Str} {v : Value} : ∀ {binds : List (Str × Value)} {m : Str → Option Value}, (binds.map (·.1)).Nodup → (n, v) ∈ binds → kf n = some .local → bindL kf binds m n = some v
  | (a, u) :: r, m, hn, hm, hk => by
    obtain ⟨h1, h2⟩ := List.nodup_cons.mp hn
    unfold bindL
    rcases List.mem_cons.mp hm with e | hm
    · cases e
      rw [bindL_skip h1, if_pos hk]; exact if_pos rfl
    · exact bindL_get h2 hm hk
theorem bindC_get {kf : Str → Option NameKind} {n : Str} {v : Value} : ∀ {binds : List (Str × Value)} {m : Str → Option Value}, (binds.map (·.1)).Nodup → (n, v) ∈ binds → kf n ≠ some .local → bindC kf binds m n = some v
  | (a, u) :: r, m, hn, hm, hk => by
    obtain ⟨h1, h2⟩ := List.nodup_cons.mp hn
    unfold bindC
    rcases List.mem_cons.mp hm with e | hm
    · cases e
      rw [bindC_skip h1, if_neg hk]; exact if_pos rfl
    · exact bindC_get h2 hm hk
theorem Dk.zip {N : Addr → Prop} {h : Heap} : ∀ {ns : List Str} {vs ds}, Dk N h vs ds → ∀ {n : Str} {d : D}, (n, d) ∈ ns.zip ds → ∃ v, (n, v) ∈ ns.zip vs ∧ d.ok N h v
  | [], _, _, _, _, _, hm => by simp at hm
  | _ :: _, _, _, .nil, _, _, hm => by simp at hm
  | a :: r, _, _, .cons x y, n, d, hm => by
    rw [List.zip_cons_cons] at hm
    rcases List.mem_cons.mp hm with e | hm
    · cases e; exact ⟨_, by rw [List.zip_cons_cons]; exact List.mem_cons_self, x⟩
    · obtain ⟨v, h1, h2⟩ := y.zip hm
      exact ⟨v, by rw [List.zip_cons_cons]; exact List.mem_cons_of_mem _ h1, h2⟩
theorem zip_fst_sub : ∀ (ns : List Str) (vs : List Value), ((ns.zip vs).map (·.1)).Sublist ns
  | [], _ => by simp
  | _ :: _, [] => by simp
  | a :: r, v :: vs => by rw [List.zip_cons_cons, List.map_cons]; exact (zip_fst_sub r vs).cons_cons a
theorem cells_le : ∀ (names : List (Str × NameKind)) (n lo : Nat) (acc : List (Str × Addr)), lo ≤ n → (∀ p ∈ acc, lo ≤ p.2) → ∀ p ∈ cellsFrom n names acc, lo ≤ p.2
  | [], _, _, _, _, ha => ha
  | (name, kind) :: r, n, lo, acc, hn, ha => by
    unfold cellsFrom
    split
    · exact cells_le r (n + 1) lo _ (by omega) fun p hp => by
        rcases List.mem_cons.mp hp with rfl | hp
        · exact hn
        · exact ha p hp
    · exact cells_le r n lo acc hn ha
/-- the frame of a call -/
noncomputable def fx (w : World) (name : Str) (scope : Scope) (a : Addr) (cd : Value) (h₀ : Heap) (N : Addr → Prop) : Fx := ⟨w, h₀, N, envOfC name scope h₀.objs.size a cd⟩
theorem Stt.enter {w : World} {name : Str} {scope : Scope} {a : Addr} {cd : Value} {h₀ h₁ : Heap} {N : Addr → Prop} {ns : List Str} {vs : List Value} {ds : List D} (C : Cx w h₀) (hN : ∀ a, N a → a < h₀.objs.size) (hd : Dk N h₀ vs ds)
    (hk : scope.kind = .function) (hnd : ns.Nodup) (hkd : AllKd scope ns)
    (F : Fr h₀ h₀.objs.size h₁ (bindL (envOfC name scope h₀.objs.size a cd).kindOf (ns.zip vs) fun _ => none))
    (L : Cl h₀.objs.size (cellsFrom (h₀.objs.size + 1) scope.names []) h₁ (bindC (envOfC name scope h₀.objs.size a cd).kindOf (ns.zip vs) fun _ => none)) :
    Stt (fx w name scope a cd h₀ N) [] ((ns.zip ds)) h₁ where
  cx := C
  low := fun a ha => .inl (hN a ha)
  keep := F.keep
  en := ⟨rfl, rfl, hk⟩
  loc := ⟨_, F.ns⟩
  above := Nat.le_refl _
  cab := cells_le _ _ _ _ (Nat.le_succ _) (fun _ h => nomatch h)
  cel := fun n c e => ⟨_, L.cell n c e⟩
  apart := L.apart
  own := fun _ h => nomatch h
  vars := fun p hp => by
    obtain ⟨v, hm, r⟩ := hd.zip (n := p.1) (d := p.2) hp
    have hnn : ((ns.zip vs).map (·.1)).Nodup := (zip_fst_sub ns vs).nodup hnd
    have hin : p.1 ∈ ns := (zip_fst_sub ns vs).subset (List.mem_map.mpr ⟨_, hm, rfl⟩)
    have rr : p.2.ok ((fx w name scope a cd h₀ N).N []) h₁ v := by
      have r' := D.ok.keeps F.keep r
      cases hp2 : p.2 with
      | val u => rw [hp2] at r'; exact r'
      | dat d =>
        rw [hp2] at r'
        exact Rd.less (fun a q => by rcases q with q | q; exact q; exact absurd q (by simp)) r'
    refine ⟨v, ⟨?_⟩, rr⟩
    rcases hkd.mem hin with hl | ⟨hl, hc⟩
    · exact .inl ⟨hl, _, F.ns, bindL_get hnn hm hl⟩
    · obtain ⟨c, hc⟩ := Option.isSome_iff_exists.mp (hc (h₀.objs.size + 1))
      refine .inr ⟨hl, c, hc, ?_⟩
      have := L.cell p.1 c hc
      rw [bindC_get hnn hm (by show scope.names.lookup p.1 ≠ _; rw [hl]; decide)] at this
      exact this
theorem call_cellsT {w : World} {A : Around} {s : Shared} {R : Result → Shared → Prop} {name : Str} {params : Arguments} {body : List Stmt} {scope : Scope}
    {pm cd doc : Value} {a : Addr} {o : Obj} {args : List Value} {binds : List (Str × Value)}
    (hroom : A.depth < recursionLimit) (ho : s.heap.get? a = some o) (hdata : o.data = .func (Calls.docDef name params body scope pm cd doc)) (hlim : s.heap.NoLimit) (hcd : s.heap.CodeRec cd name)
    (hbind : bindArgs (Calls.docDef name params body scope pm cd doc) ⟨args, []⟩ = pure binds)
    (hkind : ∀ x ∈ binds, scope.names.lookup x.1 = some .local ∨ (scope.names.lookup x.1 = some .cell ∧ ((cellsFrom (s.heap.objs.size + 1) scope.names []).lookup x.1).isSome = true))
    (h : ∀ h₁ tk, s.toks ≤ tk → Fr s.heap s.heap.objs.size h₁ (bindL (envOfC name scope s.heap.objs.size a cd).kindOf binds fun _ => none) →
      Cl s.heap.objs.size (cellsFrom (s.heap.objs.size + 1) scope.names []) h₁ (bindC (envOfC name scope s.heap.objs.size a cd).kindOf binds fun _ => none) →
      wpAny (mo w) (A.deeper (envOfC name scope s.heap.objs.size a cd)) (execs body (envOfC name scope s.heap.objs.size a cd))
        (fun f s' => R (.ok (.ret (match f with | .ret v => v | _ => .none))) s') (fun _ _ => False) { s with heap := h₁, toks := tk })
    (hco : scope.isCoroutine = false) (hgen : scope.isGenerator = false) (hk : scope.kind = .function) :
    codeAny (mo w) A (.call (.ref a) ⟨args, []⟩) R s := by
  refine codeAny_call_function (fd := Calls.docDef name params body scope pm cd doc) hroom ho hdata hco hgen rfl hcd ?_
  rw [hbind]
  refine wpAny_pure (wpAny_with_toks (Nat.le_refl _) (wpAny_newFunctionEnv_cells hk hkind fun env he s' X htk => ?_))
  subst he
  refine ⟨hlim.keeps X.toInCall.keep, codeAny_func ?_⟩
  obtain ⟨h₁, tk, rfl, _⟩ := X.done
  exact wpAny_mono (h h₁ tk htk ⟨X.toInCall.ns, X.toInCall.keep, X.toInCall.fresh⟩ ⟨X.cell, X.apart, X.above⟩) (fun _ _ x => x) (fun _ _ x => x.elim)
theorem Cn.of_body {w : World} {name : Str} {params : Arguments} {body : List Stmt} {scope : Scope} {pm doc : Value} {a c : Addr} {o oc : Obj} {cvs : Array Value} {ct : Tok} {ns : List Str} {ds : List D} {d : PyData}
    (ho : (a, o) ∈ kF w.params) (hn : a ≠ 185) (hdata : o.data = .func (Calls.docDef name params body scope pm (.ref c) doc)) (hc : (c, oc) ∈ kF w.params) (hn' : c ≠ 185) (hcd : oc.data = .fields cvs) (hcn : cvs[1]? = some (.str name ct))
    (hbind : ∀ vs : List Value, vs.length = ds.length → bindArgs (Calls.docDef name params body scope pm (.ref c) doc) ⟨vs, []⟩ = pure (ns.zip vs))
    (hk : scope.kind = .function) (hco : scope.isCoroutine = false) (hgen : scope.isGenerator = false) (hnd : ns.Nodup) (hkd : AllKd scope ns)
    (hb : ∀ h₀ N, Bk (fx w name scope a (.ref c) h₀ N) k [] (ns.zip ds) body d) : Cn w (k + 1) (.ref a) ds (.dat d) := fun A E s Q N R C hN vs r h => by
  have hrec : s.heap.CodeRec (.ref c) name := ⟨c, oc, cvs, ct, rfl, C.kin c oc hc hn', hcd, hcn⟩
  refine wpAny_call (call_cellsT (binds := ns.zip vs) R.room (C.kin a o ho hn) hdata C.nolimit hrec (hbind vs r.length) (fun x hx => ?_) (fun h₁ tk htk F L => ?_) hco hgen hk)
  · rcases hkd.mem ((zip_fst_sub ns vs).subset (List.mem_map.mpr ⟨x, hx, rfl⟩)) with q | ⟨q, q'⟩
    · exact .inl q
    · exact .inr ⟨q, q' _⟩
  · refine hb s.heap N (A.deeper _) _ _ _ ((R.deeper _).up htk) (Stt.enter C hN r hk hnd hkd F L) fun v s' hkp hs hr => ?_
    exact h v s' (by obtain ⟨h2, t2, rfl, q⟩ := hs; exact ⟨h2, t2, rfl, hkp, Nat.le_trans htk q⟩) hr
end
end Mine
end
section
open PySem PySem.W PyProof.Rows
namespace Mine
theorem inOrder_cons (t : Value → Sem Unit) (ts : List (Value → Sem Unit)) (x : Value) (xs : List Value) : assignInOrder (t :: ts) (x :: xs) = (do holding xs (t x); assignInOrder ts xs) := rfl
theorem inOrder_nil (xs : List Value) : assignInOrder [] xs = pure () := rfl

/-- what a loop's turn is handed -/
inductive Tn
  | one (d : D)
  | two (a b : D)
noncomputable def Tn.ok (N : Addr → Prop) (h : Heap) (v : Value) : Tn → Prop
  | .one d => d.ok N h v
  | .two a b => ∃ t x y, v = .ref t ∧ h.IsTuple t #[x, y] ∧ a.ok N h x ∧ b.ok N h y
inductive Tgn (env : Env) : Expr → List Str → Prop
  | one {x p} : Kn env x → Tgn env (.Name x p) [x]
  | two {x y p q k pos} : Kn env x → Kn env y → Tgn env (.Tuple [.Name x p, .Name y q] k pos) [x, y]
noncomputable def fits : List Str → Tn → Prop
  | [_], .one _ => True
  | [_, _], .two _ _ => True
  | _, _ => False
noncomputable def bindT : List Str → Tn → Vars → Vars
  | [x], .one d, ρ => put x d ρ
  | [x, y], .two a b, ρ => put y b (put x a ρ)
  | _, _, ρ => ρ

section
variable {X : Fx} {k : Nat} {W : Own} {ρ : Vars} {A : Around} {E : Value → Shared → Prop} {s : Shared}
theorem D.ok.sv {xs : List Str} {s s' : Shared} {v : Value} (T : Stt X W ρ s.heap) (m : Sv X xs s s') : ∀ {d : D}, d.ok (X.N W) s.heap v → d.ok (X.N W) s'.heap v
  | .val _, r => r
  | .dat _, r => Rd.keepOn (fun _ q => q) (fun b o vs n e hd _ => m.kept b o (fun q => by
      rcases q with q | ⟨x, _, q, _⟩
      · obtain ⟨mm, hm⟩ := T.loc
        exact Ns_ne_seq hm e hd q.symm
      · obtain ⟨c, hc⟩ := T.cel _ _ q
        exact cell_ne_seq hc e hd rfl) e) r
theorem Sv.mv' {xs : List Str} {s s' : Shared} (v : Sv X xs s s') : Mv X [] [] s s' := v.mv
theorem Stt.assignT {target : Expr} {xs : List Str} {it : Tn} {v : Value} {Q : Unit → Shared → Prop} (R : Rm k A s.toks) (T : Stt X W ρ s.heap) (ht : Tgn X.env target xs) (hf : fits xs it) (r : it.ok (X.N W) s.heap v)
    (h : ∀ s', Stt X W (bindT xs it ρ) s'.heap → Sv X xs s s' → Q () s') : wpAny (mo X.w) A (assign target X.env v) Q E s := by
  cases ht with
  | one hk =>
    cases it with
    | one d => exact wpAny_assign_Name (T.store hk r h)
    | two _ _ => exact hf.elim
  | @two x y p q kk pos hx hy =>
    cases it with
    | one d => exact hf.elim
    | two a b =>
      obtain ⟨t, u, v, rfl, ht, ra, rb⟩ := r
      refine wpAny_assign_Tuple R.handled ht rfl rfl fun h' he => ?_
      have t1 : To s { s with heap := h' } := ⟨h', s.toks, rfl, fun c o e => he c o (Nat.ne_of_lt (Heap.lt_size e)) e, Nat.le_refl _⟩
      show wpAny _ A (assignInOrder [assign (.Name x p) X.env, assign (.Name y q) X.env] [u, v]) Q E _
      rw [inOrder_cons]
      refine wpAny_bind (wpAny_holding (wpAny_assign_Name ((T.keeps t1.heap).store hx (D.ok.keeps t1.heap ra) fun s₂ T₂ m₂ => ?_)))
      rw [inOrder_cons]
      refine wpAny_bind (wpAny_holding (wpAny_assign_Name (T₂.store hy (D.ok.sv (T.keeps t1.heap) m₂ (D.ok.keeps t1.heap rb)) fun s₃ T₃ m₃ => ?_)))
      rw [inOrder_nil]
      exact wpAny_pure (h s₃ T₃ (by have := ((Sv.ofTo (X := X) (xs := []) t1).trans m₂).trans m₃; exact this))

/-- what an iterable gives, turn by turn -/
noncomputable def Itr (X : Fx) (k : Nat) (W : Own) (ρ : Vars) (target iter : Expr) (its : List Tn) : Prop :=
  ∀ (A : Around) (E : Value → Shared → Prop) (s : Shared) (Q : Value → Shared → Prop), Rm k A s.toks → Stt X W ρ s.heap →
    (∀ I fp wr P Md St s', To s s' → KTurns pw X.w A target I fp wr its.length P Md St → St 0 s'.heap →
      (∀ b ∈ wr, s.heap.get? b = none) → (∀ b ∈ fp, (∃ o, s'.heap.get? b = some o) ∧ ¬ X.T W b) → (∀ i h, St i h → ∀ b ∈ wr, ∃ o, h.get? b = some o) →
      (∀ i it, its[i]? = some it → ∀ v h N', (∀ a, N' a → X.N W a ∨ a ∈ wr ∨ s'.heap.get? a = none) → (∀ b o, s'.heap.get? b = some o → ¬ X.T W b → b ∉ wr → h.get? b = some o) → P i v h → it.ok N' h v) →
      (∀ (A' : Around) (E : Value → Shared → Prop) (s : Shared) (Q : Value → Shared → Prop), St 0 s.heap → Q (.ref I) s → wpAny (mo X.w) A' (pyIter (.ref I)) Q E s) → Q (.ref I) s') →
    wpAny (mo X.w) A (eval iter X.env) (fun x s₁ => wpAny (mo X.w) A (pyIter x) Q E s₁) E s

/-- objects at addresses that are shunned and untouched by the frame may change -/
theorem Stt.but {N' M : Addr → Prop} {wr : List Addr} {h h' : Heap} (T : Stt (X.sh N') W ρ h) (hM : ∀ a, M a → N' a) (hwN : ∀ b ∈ wr, N' b) (hk : ∀ b o, b ∉ wr → h.get? b = some o → h'.get? b = some o)
    (hT : ∀ b ∈ wr, ¬ X.T W b) (hC : ∀ n c, X.env.cells.lookup n = some c → c ∉ wr) (h0 : ∀ b ∈ wr, X.h₀.get? b = none) (hl : ∀ a, M a → a < X.h₀.objs.size ∨ ∃ o, h'.get? a = some o) : Stt (X.sh M) W ρ h' := by
  have rk : ∀ {v d}, Rd ((X.sh N').N W) h v d → Rd ((X.sh M).N W) h' v d := fun r => r.keepOn (fun a q => q.imp (hM a) id) fun b o vs n e _ hn => hk b o (fun q => hn (.inl (hwN b q))) e
  have rka : ∀ {v d}, RdAll ((X.sh N').N W) h v d → RdAll ((X.sh M).N W) h' v d := fun r => r.keepOn (fun a q => q.imp (hM a) id) fun b o vs n e _ hn => hk b o (fun q => hn (.inl (hwN b q))) e
  have nl : X.env.locals ∉ wr := fun q => hT _ q (.inl rfl)
  have nc : ∀ {n c}, X.env.cells.lookup n = some c → c ∉ wr := fun e => hC _ _ e
  refine ⟨T.cx, hl, fun b o e => hk b o (fun q => by have := h0 b q; rw [show X.h₀.get? b = some o from e] at this; cases this) (T.keep b o e), T.en, ?_, T.above, T.cab, fun n c e => ?_, T.apart, fun p hp => ?_, fun p hp => ?_⟩
  · obtain ⟨m, q⟩ := T.loc; exact ⟨m, q.at' fun o e => hk _ o nl e⟩
  · obtain ⟨v, o, q, d⟩ := T.cel n c e; exact ⟨v, o, hk _ o (nc e) q, d⟩
  · obtain ⟨a, vs, n, b, c⟩ := T.own p hp
    exact ⟨a, vs, n, hk _ _ (fun q => hT _ q (.inr (.inr (List.mem_map.mpr ⟨p, hp, rfl⟩)))) b, rka c⟩
  · obtain ⟨v, H, r⟩ := T.vars p hp
    refine ⟨v, ⟨?_⟩, ?_⟩
    · rcases H.how with ⟨a, m, b, c⟩ | ⟨a, c, b, o, e, d⟩
      · exact .inl ⟨a, m, b.at' fun o e => hk _ o nl e, c⟩
      · exact .inr ⟨a, c, b, o, hk _ o (nc b) e, d⟩
    · cases hd : p.2 with
      | val u => rw [hd] at r; exact r
      | dat d => rw [hd] at r; exact rk r
theorem Stt.shun {wr : List Addr} {h h' : Heap} (T : Stt X W ρ h) (hw : ∀ b ∈ wr, h.get? b = none) (hk : Kp h h') (al : ∀ b ∈ wr, ∃ o, h'.get? b = some o) : Stt (X.sh fun a => X.N₀ a ∨ a ∈ wr) W ρ h' := by
  have hm : ∀ a o vs n, (X.sh fun a => X.N₀ a ∨ a ∈ wr).N W a → h.get? a = some o → o.data = .seq vs n → X.N W a := fun a o vs n q e _ => by
    rcases q with (q | q) | q
    · exact .inl q
    · rw [hw a q] at e; cases e
    · exact .inr q
  refine ⟨T.cx, fun a q => ?_, (T.keeps hk).keep, T.en, (T.keeps hk).loc, T.above, T.cab, (T.keeps hk).cel, T.apart, fun p hp => ?_, fun p hp => ?_⟩
  · rcases q with q | q
    · exact (T.keeps hk).low a q
    · exact .inr (al a q)
  · obtain ⟨a, vs, n, b, c⟩ := T.own p hp
    exact ⟨a, vs, n, hk _ _ b, (c.more hm).keeps hk⟩
  · obtain ⟨v, H, r⟩ := T.vars p hp
    refine ⟨v, H.keeps hk, ?_⟩
    cases hd : p.2 with
    | val u => rw [hd] at r; exact r
    | dat d => rw [hd] at r; exact (Rd.more hm r).keeps hk

/-- the for statement: J tells what is owned and held ahead of the i-th turn -/
theorem Thru.loop {target iter : Expr} {body : List Stmt} {pos : Pos} {xs : List Str} {its : List Tn} (hit : Itr X k W ρ target iter its) (hs : ∀ x, foldedSetIterable iter X.env x = pure x) (ht : Tgn X.env target xs) (hf : ∀ it ∈ its, fits xs it)
    (J : Nat → Own → Vars → Prop) (h0 : J 0 W ρ)
    (step : ∀ N' i it W' ρ', its[i]? = some it → J i W' ρ' → Thru (X.sh N') k W' (bindT xs it ρ') body (J (i + 1))) : Thru X k W ρ [.For target iter body [] pos] (J its.length) := fun A E s Q R T q => by
  refine one (wpAny_For (hit A E s _ R T fun I fp wr P Md St s₂ t W₀ hst hwr hfp hal hok _ => ?_) hs)
  refine codeAny_forLoop_any
    (fun n s' => ∃ h tk i Wi ρi, s' = { s₂ with heap := h, toks := tk } ∧ s₂.toks ≤ tk ∧ St i h ∧ i ≤ its.length ∧ n = its.length + 1 - i ∧ J i Wi ρi ∧ Stt (X.sh fun a => X.N₀ a ∨ a ∈ wr) Wi ρi h ∧
      (∀ b o, ¬ X.T W b → b ∉ wr → s₂.heap.get? b = some o → h.get? b = some o) ∧ (∀ b, b ∈ Wi.map (·.1) → b ∈ W.map (·.1) ∨ (s₂.heap.get? b = none ∧ ¬ X.T [] b))) ?_ (its.length + 1)
    ⟨s₂.heap, s₂.toks, 0, W, ρ, rfl, Nat.le_refl _, hst, Nat.zero_le _, rfl, h0, T.shun hwr t.heap (hal 0 _ hst), fun _ _ _ _ e => e, fun _ q => .inl q⟩
  rintro n s' ⟨h, tk, i, Wi, ρi, rfl, htk, hst', hi, rfl, hJ, Ti, hkp, hnw⟩
  have wrT : ∀ b ∈ wr, ¬ X.T Wi b := fun b hb q => by
    obtain ⟨⟨o, e⟩, hn⟩ := hfp b (W₀.sub b hb)
    by_cases hw : b ∈ Wi.map (·.1)
    · rcases hnw b hw with q' | q'
      · exact hn (.inr (.inr q'))
      · rw [e] at q'; exact nomatch q'.1
    · exact hn (q.nil hw).any
  have wrC : ∀ n c, X.env.cells.lookup n = some c → c ∉ wr := fun n c e q => by
    obtain ⟨v, o, e', _⟩ := T.cel n c e
    rw [hwr c q] at e'; cases e'
  have wr0 : ∀ b ∈ wr, X.h₀.get? b = none := fun b hb => by
    cases e : X.h₀.get? b with
    | none => rfl
    | some o => have := T.keep b o e; rw [hwr b hb] at this; cases this
  by_cases hlt : i < its.length
  · refine wpAny_with_toks (n := s₂.toks) htk (W₀.item i _ _ _ hlt hst' fun v h₁ tk₁ hMd hk₁ htk₁ => ?_)
    refine W₀.go i v _ _ _ hMd fun h₂ hP hst₂ hk₂ => ?_
    have hk : ∀ b o, b ∉ wr → h.get? b = some o → h₂.get? b = some o := fun b o hb e => hk₂ b o hb (hk₁ b o hb e)
    have hkp₂ : ∀ b o, ¬ X.T W b → b ∉ wr → s₂.heap.get? b = some o → h₂.get? b = some o := fun b o a c e => hk b o c (hkp b o a c e)
    have T₂ : Stt (X.sh fun a => X.N₀ a ∨ a ∈ wr) Wi ρi h₂ := Ti.but (fun _ q => q) (fun b hb => .inr hb) hk wrT wrC wr0 fun a q => by
      rcases q with q | q
      · by_cases hw : a ∈ wr
        · exact .inr (hal _ _ hst₂ a hw)
        · rcases Ti.low a (.inl q) with q | ⟨o, e⟩
          · exact .inl q
          · exact .inr ⟨o, hk a o hw e⟩
      · exact .inr (hal _ _ hst₂ a q)
    obtain ⟨it, hit'⟩ : ∃ it, its[i]? = some it := ⟨its[i], List.getElem?_eq_getElem hlt⟩
    have iok : it.ok ((X.sh fun a => X.N₀ a ∨ a ∈ wr).N Wi) h₂ v := hok i it hit' v h₂ _ (fun a q => by
      rcases q with (q | q) | q
      · exact .inl (.inl q)
      · exact .inr (.inl q)
      · rcases hnw a q with q | q
        · exact .inl (.inr q)
        · exact .inr (.inr q.1)) (fun b o e a c => hkp₂ b o a c e) hP
    refine Stt.assignT (X := X.sh fun a => X.N₀ a ∨ a ∈ wr) (s := { s₂ with heap := h₂, toks := tk₁ }) ((R.to t).up htk₁) T₂ ht (hf it (List.mem_of_getElem? hit')) iok fun s₃ T₃ m₃ => ?_
    refine step (fun a => X.N₀ a ∨ a ∈ wr) i it Wi ρi hit' hJ A _ s₃ _ (((R.to t).up htk₁).up m₃.mv'.le) T₃ fun W₄ ρ₄ s₄ hJ₄ T₄ m₄ => ?_
    have mm := (m₃.mv (W := Wi)).trans m₄
    obtain ⟨h₄, tk₄, e4, q4⟩ := mm.same
    subst e4
    refine ⟨its.length + 1 - (i + 1), by omega, h₄, tk₄, i + 1, W₄, ρ₄, rfl, Nat.le_trans htk₁ q4, ?_, hlt, rfl, hJ₄, T₄, fun b o a c e => ?_, fun b q => ?_⟩
    · refine W₀.frame _ _ _ hst₂ fun b hb o e => mm.kept b o (fun q => ?_) e
      obtain ⟨⟨o', e'⟩, hn⟩ := hfp b hb
      by_cases hw : b ∈ Wi.map (·.1)
      · rcases hnw b hw with q' | q'
        · exact hn (.inr (.inr q'))
        · rw [e'] at q'; exact nomatch q'.1
      · exact hn (Fx.T.any (Fx.T.nil (X := X) q hw))
    · refine mm.kept b o (fun q => ?_) (hkp₂ b o a c e)
      by_cases hw : b ∈ Wi.map (·.1)
      · rcases hnw b hw with q' | q'
        · exact a (.inr (.inr q'))
        · rw [e] at q'; exact nomatch q'.1
      · exact a (Fx.T.any (Fx.T.nil (X := X) q hw))
    · rcases mm.newer b q with q | q
      · exact hnw b q
      · by_cases hw : b ∈ W.map (·.1)
        · exact .inl hw
        · by_cases hb : b ∈ wr
          · obtain ⟨o, e⟩ := hal _ _ hst₂ b hb; rw [e] at q; exact nomatch q.1
          · refine .inr ⟨?_, q.2⟩
            cases e : s₂.heap.get? b with
            | none => rfl
            | some o => have := hkp₂ b o (fun t => q.2 (t.nil hw)) hb e; rw [this] at q; exact nomatch q.1
  · have hin : i = its.length := by omega
    subst hin
    refine wpAny_with_toks (n := s₂.toks) htk (W₀.done _ _ _ hst' fun h₁ tk₁ hk₁ htk₁ => wpAny_execs_nil ?_)
    have T₁ : Stt X Wi ρi h₁ := Ti.but (M := X.N₀) (fun _ q => .inl q) (fun b hb => .inr hb) hk₁ wrT wrC wr0 fun a q => by
      by_cases hw : a ∈ wr
      · rcases T.low a q with q | ⟨o, e⟩
        · exact .inl q
        · rw [hwr a hw] at e; cases e
      · rcases Ti.low a (.inl q) with q | ⟨o, e⟩
        · exact .inl q
        · exact .inr ⟨o, hk₁ a o hw e⟩
    refine q Wi ρi _ hJ T₁ ⟨?_, fun b o hb e => ?_, fun b q => ?_⟩
    · obtain ⟨h2, t2, rfl, _, q2⟩ := t; exact ⟨h₁, tk₁, rfl, Nat.le_trans q2 htk₁⟩
    · have hbw : b ∉ wr := fun q => by rw [hwr b q] at e; cases e
      exact hk₁ b o hbw (hkp b o hb hbw (t.heap b o e))
    · rcases hnw b q with q | q
      · exact .inl q
      · refine .inr ⟨?_, q.2⟩
        cases e : s.heap.get? b with
        | none => rfl
        | some o => have := t.heap b o e; rw [q.1] at this; cases this
end
end Mine
end
section
open PySem PySem.W PyProof.Rows
namespace Mine

/-- a datum as a turn's item -/
inductive Shp : PyData → Tn → Prop
  | one (d) : Shp d (.one (.dat d))
  | two (a b) : Shp (.tuple [a, b]) (.two (.dat a) (.dat b))
theorem Shp.ok {N : Addr → Prop} {h : Heap} {v : Value} {d : PyData} {it : Tn} (p : Shp d it) (r : Rd N h v d) : it.ok N h v := by
  cases p with
  | one => exact r
  | two a b =>
    cases r with
    | @tuple t vs n _ p1 p2 p3 =>
      have hl := p3.length
      obtain ⟨l, rfl⟩ : ∃ l : List Value, vs = l.toArray := ⟨vs.toList, by simp⟩
      simp only at p3 hl
      cases p3 with
      | cons x q =>
        cases q with
        | cons y q =>
          cases q with
          | nil => exact ⟨t, _, _, rfl, ⟨_, p1, rfl, n, rfl⟩, x, y⟩
inductive Shps : List PyData → List Tn → Prop
  | nil : Shps [] []
  | cons {d it ds its} : Shp d it → Shps ds its → Shps (d :: ds) (it :: its)
theorem Shps.length : ∀ {ds its}, Shps ds its → ds.length = its.length
  | _, _, .nil => rfl
  | _, _, .cons _ b => congrArg (· + 1) b.length
theorem Shps.get : ∀ {ds its} {i : Nat} {it : Tn}, Shps ds its → its[i]? = some it → ∃ d, ds[i]? = some d ∧ Shp d it
  | _, _, 0, _, .cons a _, e => by cases e; exact ⟨_, rfl, a⟩
  | _, _, i + 1, _, .cons _ b, e => b.get (i := i) e
theorem Shps.ones : ∀ ds : List PyData, Shps ds (ds.map fun d => .one (.dat d))
  | [] => .nil
  | d :: ds => .cons (.one d) (Shps.ones ds)
theorem Shps.twos : ∀ ps : List (PyData × PyData), Shps (ps.map fun p => .tuple [p.1, p.2]) (ps.map fun p => .two (.dat p.1) (.dat p.2))
  | [] => .nil
  | p :: ps => .cons (.two p.1 p.2) (Shps.twos ps)

section
variable {X : Fx} {k : Nat} {W : Own} {ρ : Vars} {A : Around} {E : Value → Shared → Prop} {s : Shared}
/-- a datum read in a frame keeps being read where the frame's own objects alone change -/
theorem Stt.carry {h h' : Heap} {wr : List Addr} {N' : Addr → Prop} {h₂ : Heap} (T : Stt X W ρ h) (hw : ∀ b ∈ wr, h.get? b = none) (hk : Kp h h₂) (hN : ∀ a, N' a → X.N W a ∨ a ∈ wr ∨ h₂.get? a = none)
    (kp : ∀ b o, h₂.get? b = some o → ¬ X.T W b → b ∉ wr → h'.get? b = some o) {v : Value} {d : PyData} (r : Rd (X.N W) h v d) : Rd N' h' v d := by
  have r2 : Rd (fun a => X.N W a ∨ N' a) h v d := r.more fun a o vs n q e _ => by
    rcases q with q | q
    · exact q
    · rcases hN a q with q | q | q
      · exact q
      · rw [hw a q] at e; cases e
      · rw [hk a o e] at q; cases q
  refine r2.keepOn (fun a q => .inr q) fun b o vs n e hd hn => kp b o (hk b o e) ?_ (fun q => by rw [hw b q] at e; cases e)
  rintro (q | ⟨x, q, _⟩ | q)
  · obtain ⟨m, hm⟩ := T.loc; exact Ns_ne_seq hm e hd q.symm
  · obtain ⟨c, hc⟩ := T.cel _ _ q; exact cell_ne_seq hc e hd rfl
  · exact hn (.inl (.inr q))
/-- an object that is new ahead of the frame's heap is none of the frame's own -/
theorem Stt.newNotT {h : Heap} (T : Stt X W ρ h) {a : Addr} (ha : h.objs.size ≤ a) : ¬ X.T W a := by
  rintro (q | ⟨x, q, _⟩ | q)
  · obtain ⟨m, hm⟩ := T.loc; have := hm.lt; rw [← q] at this; exact Nat.lt_irrefl _ (Nat.lt_of_lt_of_le this ha)
  · obtain ⟨c, hc⟩ := T.cel _ _ q; exact Nat.lt_irrefl _ (Nat.lt_of_lt_of_le hc.lt ha)
  · exact Nat.lt_irrefl _ (Nat.lt_of_lt_of_le (T.nlt a (.inr q)) ha)
theorem Stt.seqNotT {h : Heap} (T : Stt X W ρ h) {a : Addr} {o : Obj} {vs : Array Value} {n : Nat} (e : h.get? a = some o) (hd : o.data = .seq vs n) (hn : ¬ X.N W a) : ¬ X.T W a := by
  rintro (q | ⟨x, q, _⟩ | q)
  · obtain ⟨m, hm⟩ := T.loc; exact Ns_ne_seq hm e hd q.symm
  · obtain ⟨c, hc⟩ := T.cel _ _ q; exact cell_ne_seq hc e hd rfl
  · exact hn (.inr q)
theorem get_none {h : Heap} {a : Addr} (ha : h.objs.size ≤ a) : h.get? a = none := by
  cases e : h.get? a with
  | none => rfl
  | some o => exact absurd (Heap.lt_size e) (Nat.not_lt.mpr ha)
theorem get_none_kp {h h' : Heap} {a : Addr} (hk : Kp h h') (ha : h'.get? a = none) : h.get? a = none := by
  cases e : h.get? a with
  | none => rfl
  | some o => rw [hk a o e] at ha; cases ha

theorem Itr.list {target iter : Expr} {ds : List PyData} {its : List Tn} (he : Ev X k W ρ iter (.dat (.list ds))) (hd : Shps ds its) : Itr X k W ρ target iter its := fun A E s Q R T h =>
  he A E s _ R T fun v s₁ t r => by
    have T₁ := T.keeps t.heap
    change Rd _ _ _ _ at r
    cases r with
    | @list ax vs n _ p1 p2 p3 =>
      have hl : s₁.heap.IsList ax vs := ⟨_, p1, rfl, n, rfl⟩
      have hne : ax ≠ s₁.heap.objs.size := Nat.ne_of_lt (Heap.lt_size p1)
      have hlen : vs.size = its.length := by have := p3.length; rw [Array.length_toList] at this; rw [this, hd.length]
      refine wpAny_pyIter_list hl ?_
      have W₀ : Walks pw X.w A s₁.heap.objs.size [s₁.heap.objs.size, ax] [s₁.heap.objs.size] its.length (fun i v => vs[i]? = some v) (fun i h => h.IsListIter s₁.heap.objs.size ax i ∧ h.IsList ax vs) := hlen ▸ Walks.list R.handled s₁.heap.objs.size ax hne vs
      have kp : Kp s₁.heap (s₁.heap.push { cls := .type "list_iterator", data := .fields #[.ref ax, .int 0 0] }) := Kp.push _ _
      have hI : (s₁.heap.push { cls := .type "list_iterator", data := .fields #[.ref ax, .int 0 0] }).get? s₁.heap.objs.size = some { cls := .type "list_iterator", data := .fields #[.ref ax, .int 0 0] } := Heap.get?_push_size _ rfl
      refine h _ _ _ _ _ _ _ (t.trans (To.push _ _)) (KTurns.ofWalks (target := target) W₀ fun i v s Q E st hQ => letGo_listiter st.1 hQ) ⟨⟨_, hI, rfl, rfl⟩, hl.push _⟩ (fun b hb => ?_) (fun b hb => ?_) (fun i h st b hb => ?_) (fun i it e v h' N' hN hk hP => ?_) (fun A' E s Q st hQ => wpAny_pyIter_listiter st.1 hQ)
      · rw [List.mem_singleton.mp hb]
        exact get_none_kp t.heap (get_none (Nat.le_refl _))
      · rcases List.mem_cons.mp hb with rfl | hb
        · exact ⟨⟨_, hI⟩, T₁.newNotT (Nat.le_refl _)⟩
        · rw [List.mem_singleton.mp hb]
          exact ⟨⟨_, kp _ _ p1⟩, T₁.seqNotT p1 rfl p2⟩
      · rw [List.mem_singleton.mp hb]
        obtain ⟨⟨o, e, _⟩, _⟩ := st; exact ⟨o, e⟩
      · obtain ⟨d, hd', sp⟩ := hd.get e
        obtain ⟨u, hu, ru⟩ := p3.get i hd'
        have huv : u = v := by
          have hP' : vs[i]? = some v := hP
          rw [Array.getElem?_toList] at hu
          rw [hu] at hP'; exact Option.some.inj hP'
        subst huv
        exact sp.ok (Stt.carry T₁ (fun b hb => by rw [List.mem_singleton.mp hb]; exact get_none (Nat.le_refl _)) kp hN hk ru)
noncomputable def rng (n : Int) : List Tn := (List.range n.toNat).map fun (i : Nat) => Tn.one (.dat (.int (i : Int)))
theorem Itr.range {x : Str} {p pos : Pos} {px : Pos} {nx : Str} {es : List Expr} {n : Int} (hf : Ev X k W ρ (.Name x p) (.val (.type "range"))) (ha : EvAll X k W ρ es [.dat (.int n)]) (hlo : -(2 ^ 62) ≤ n) (hhi : n < 2 ^ 62) :
    Itr X k W ρ (.Name nx px) (.Call (.Name x p) es [] pos) (rng n) := fun A E s Q R T h => by
  refine wpAny_Call_NameR (hf A E s _ R T fun v s₁ t r => ?_)
  obtain rfl : v = .type "range" := r
  have T₁ := T.keeps t.heap
  refine PyProof.Rows.callWith_type ha.plain (ha.args A E s₁ _ (R.to t) T₁ fun vs s₂ t₂ r₂ => ?_)
  cases r₂ with
  | cons r₂ q =>
    cases q
    change Rd _ _ _ _ at r₂
    cases r₂ with
    | int _ tN =>
      have T₂ := T₁.keeps t₂.heap
      refine call_range_1 ?_
      refine wpAny_pyIter_range (IsRange.new ..) (small_one (by decide) (by decide) hlo hhi) ?_
      have hsz : Builtin.Range.rangeSize 0 n 1 = (n.toNat : Int) := by rw [rangeSize_one]; split <;> omega
      have e1 : (0 + ((0 : Nat) : Int) * 1) = 0 := by simp
      have e2 : ((n.toNat : Int) - ((0 : Nat) : Int)) = Builtin.Range.rangeSize 0 n 1 := by rw [hsz]; simp
      have hlen : n.toNat = (rng n).length := by simp [rng]
      generalize hH : s₂.heap.push { cls := .type "range", data := .fields #[.int 0 s₂.toks, .int n tN, .int 1 (s₂.toks + 1)] } = H
      have kH : Kp s₂.heap H := hH ▸ Kp.push _ _
      generalize hO : ({ cls := .type "range_iterator", data := .fields #[rawInt 0, rawInt (Builtin.Range.rangeSize 0 n 1), rawInt 1] } : Obj) = Oo
      have hI : (H.push Oo).get? H.objs.size = some Oo := Heap.get?_push_size _ (by rw [← hO]; rfl)
      have W₀ : Walks pw X.w A H.objs.size [H.objs.size] [H.objs.size] (rng n).length (fun i v => ∃ t, v = .int (0 + i * 1) t) (fun i h => IsRangeIter h H.objs.size (0 + (i : Nat) * 1) ((n.toNat : Int) - (i : Nat)) 1) :=
        hlen ▸ Walks.range R.handled H.objs.size 0 1 n.toNat
      have T₃ := T₂.keeps kH
      refine h H.objs.size _ _ _ _ _ _ ((t.trans t₂).trans (To.mk (fun b o e => Kp.push _ _ b o (kH b o e)) (by show s₂.toks ≤ s₂.toks + 1 + 1; omega))) (KTurns.ofWalks (target := .Name nx px) W₀ fun i v s Q E st hQ => wpAny_pure hQ) ?_ (fun b hb => ?_) (fun b hb => ?_) (fun i h st b hb => ?_) (fun i it e v h' N' hN hk hP => ?_) (fun A' E s Q st hQ => wpAny_pyIter_rangeiter st hQ)
      · show IsRangeIter (H.push Oo) H.objs.size _ _ 1
        rw [e1, e2]; unfold IsRangeIter; rw [hI, ← hO]
      · rw [List.mem_singleton.mp hb]
        exact get_none_kp (t.heap) (get_none_kp t₂.heap (get_none_kp kH (get_none (Nat.le_refl _))))
      · rw [List.mem_singleton.mp hb]
        exact ⟨⟨_, hI⟩, T₃.newNotT (Nat.le_refl _)⟩
      · rw [List.mem_singleton.mp hb]
        exact ⟨_, st⟩
      · obtain ⟨tv, rfl⟩ : ∃ t, v = .int (0 + (i : Int) * 1) t := hP
        have hi : i < n.toNat := by
          have := (List.getElem?_eq_some_iff.mp e).1
          rw [← hlen] at this; exact this
        have : it = Tn.one (.dat (.int (i : Int))) := by
          have q : (rng n)[i]? = some (Tn.one (.dat (.int (i : Int)))) := by simp [rng, hi]
          rw [q] at e; exact (Option.some.inj e).symm
        subst this
        have e3 : (0 + (i : Int) * 1) = (i : Int) := by omega
        rw [e3]
        exact Rd.int _ _
end
end Mine
end
section
open PySem PySem.W PyProof.Rows
namespace Mine

/-- the frame of a comprehension -/
noncomputable def Fx.inComp (X : Fx) (scope : Scope) (cells : List (Str × Addr)) (C : Addr) : Fx := { X with env := compEnvC scope cells C X.env }
noncomputable def TstAll (X : Fx) (k : Nat) (W : Own) (ρ : Vars) : List Expr → Bool → Prop
  | [], b => b = true
  | [c], b => Tst X k W ρ c b
  | _, _ => False
/-- the tests of a turn and the element that it gives -/
noncomputable def CE (X : Fx) (k : Nat) (W : Own) (ρ : Vars) (ifs : List Expr) (elt : Expr) (r : Option PyData) : Prop :=
  match r with
  | some d => TstAll X k W ρ ifs true ∧ Ev X k W ρ elt (.dat d)
  | none => TstAll X k W ρ ifs false
/-- cells of a comprehension's own: none, or one -/
inductive OwnC (scope : Scope) : List Str → Prop
  | no : (∀ n acc, cellsFrom n scope.names acc = acc) → (∀ h, pushCells h scope.names = h) → OwnC scope []
  | one {x} : (∀ n acc, cellsFrom n scope.names acc = (x, n) :: acc) → (∀ h, pushCells h scope.names = h.push { cls := .type "cell", data := .cell none }) → OwnC scope [x]
noncomputable def ownCells (oc : List Str) (c : Addr) : List (Str × Addr) := oc.map fun x => (x, c)
/-- the captured names -/
noncomputable def Cap (X : Fx) (scope : Scope) (oc : List Str) (cl : List (Str × Addr)) (ρ : Vars) : Vars → Prop
  | [] => True
  | (x, d) :: r => (ρ.lookup x = some d ∧ X.env.kindOf x = some .cell ∧ (∃ c, X.env.cells.lookup x = some c ∧ cl.lookup x = some c) ∧ oc.contains x = false ∧ (relabel scope X.env).names.lookup x = some .cell) ∧ Cap X scope oc cl ρ r
theorem Cap.at {X : Fx} {scope : Scope} {oc : List Str} {cl : List (Str × Addr)} {ρ : Vars} : ∀ {ρc : Vars}, Cap X scope oc cl ρ ρc → ∀ p ∈ ρc,
    p ∈ ρ ∧ X.env.kindOf p.1 = some .cell ∧ (∃ c, X.env.cells.lookup p.1 = some c ∧ cl.lookup p.1 = some c) ∧ p.1 ∉ oc ∧ (relabel scope X.env).names.lookup p.1 = some .cell
  | (x, d) :: r, ⟨⟨h1, h2, h3, h4, h5⟩, hr⟩, p, hp => by
    rcases List.mem_cons.mp hp with rfl | hp
    · exact ⟨mem_of_lookupD h1, h2, h3, (fun q => by rw [List.contains_iff_mem.mpr q] at h4; cases h4), h5⟩
    · exact hr.at p hp
/-- the closure of a comprehension: cells of the frame's own -/
noncomputable def Clo (X : Fx) : List (Str × Addr) → Prop
  | [] => True
  | (x, c) :: r => X.env.cells.lookup x = some c ∧ (r.map (·.1)).contains x = false ∧ Clo X r
theorem Clo.at {X : Fx} : ∀ {cl}, Clo X cl → ∀ p ∈ cl, X.env.cells.lookup p.1 = some p.2
  | (x, c) :: r, ⟨a, b, hr⟩, p, hp => by
    rcases List.mem_cons.mp hp with rfl | hp
    · exact a
    · exact hr.at p hp
theorem Clo.apart {X : Fx} (hX : X.env.cells.Pairwise fun x y => x.2 ≠ y.2) : ∀ {cl}, Clo X cl → cl.Pairwise fun x y => x.2 ≠ y.2
  | [], _ => .nil
  | (x, c) :: r, ⟨a, b, hr⟩ => .cons (fun p hp e => by
      have e' : c = p.2 := e
      have := name_of_addr hX (mem_of_lookup a) (e' ▸ mem_of_lookup (hr.at p hp))
      have q : (r.map (·.1)).contains x = true := List.contains_iff_mem.mpr (this ▸ List.mem_map.mpr ⟨p, hp, rfl⟩)
      rw [q] at b; cases b) (hr.apart hX)

section
variable {X : Fx} {k : Nat} {W : Own} {ρ : Vars} {A : Around} {E : Value → Shared → Prop} {s : Shared}
theorem wpAny_testsAll {ifs : List Expr} {b : Bool} {Q : Bool → Shared → Prop} (h : TstAll X k W ρ ifs b) (R : Rm k A s.toks) (T : Stt X W ρ s.heap) (q : ∀ s', To s s' → Q b s') :
    wpAny (mo X.w) A (forIn ifs true fun c r => if r = true then do let ok ← isTrue c X.env (eval c X.env); pure (ForInStep.yield ok) else pure (ForInStep.yield r)) Q E s := by
  match ifs, h with
  | [], h => subst h; exact wpAny_tests_nil (q _ (To.rfl _))
  | [c], h => exact wpAny_tests_one (h A E s Q R T q)
  | _ :: _ :: _, h => exact h.elim

theorem newCompEnv {scope : Scope} {cl : List (Str × Addr)} {oc : List Str} {Q : Env → Shared → Prop} (ho : OwnC scope oc)
    (h : ∀ (h₁ : Heap) (C c : Nat) (env' : Env), C = s.heap.objs.size → c = s.heap.objs.size + 1 → Kp s.heap h₁ → h₁.Ns C (fun _ => none) → (oc = [] ∨ h₁.IsCell c none) →
      { env' with scope := relabel scope X.env } = compEnvC scope (ownCells oc c ++ cl) C X.env → env'.locals = C → Q env' { s with heap := h₁ }) :
    wpAny (mo X.w) A (newFunctionEnv scope X.env.globals cl [] X.env.qual none .none (some X.env)) Q E s := by
  simp only [newFunctionEnv, Option.isSome_some, if_true]
  refine wpAny_bind (wpAny_alloc ?_)
  refine wpAny_bind (wpAny_layCells _ (fun name kind cells => by cases hkc : kind == NameKind.cell <;> simp [hkc]) _ _ _ _ ?_)
  rw [List.forIn_nil]
  refine wpAny_bind (wpAny_pure (wpAny_pure ?_))
  cases ho with
  | no hc hp =>
    rw [hc]
    show Q _ { s with heap := pushCells _ scope.names }
    rw [hp]
    exact h _ _ (s.heap.objs.size + 1) _ rfl rfl (Kp.push _ _) (Heap.Ns.new s.heap (.type "dict")) (.inl rfl) rfl rfl
  | one hc hp =>
    rw [hc]
    show Q _ { s with heap := pushCells _ scope.names }
    rw [hp]
    refine h _ _ (s.heap.objs.size + 1) _ rfl rfl (fun b o e => Kp.push _ _ b o (Kp.push _ _ b o e)) ((Heap.Ns.new s.heap (.type "dict")).push _) (.inr ⟨{ cls := .type "cell", data := .cell none }, ?_, rfl⟩) ?_ rfl
    · have := Heap.get?_push_size (s.heap.push { cls := .type "dict", data := .dict #[] }) (o := { cls := .type "cell", data := .cell none }) rfl
      rw [Heap.size_push] at this; exact this
    · rw [Heap.size_push]; rfl

theorem lookup_own {oc : List Str} {c : Addr} {cl : List (Str × Addr)} {x : Str} (h : x ∉ oc) : (ownCells oc c ++ cl).lookup x = cl.lookup x := by
  induction oc with
  | nil => rfl
  | cons y r ih =>
    have h1 : (x == y) = false := by
      cases e : x == y with
      | false => rfl
      | true => exact absurd (beq_iff_eq.mp e) fun q => h (by simp [q])
    show ((y, c) :: (ownCells r c ++ cl)).lookup x = _
    rw [List.lookup_cons, h1]
    exact ih fun q => h (List.mem_cons_of_mem _ q)
theorem lookup_ownSome {oc : List Str} {c : Addr} {cl : List (Str × Addr)} {x : Str} {a : Addr} (h : (ownCells oc c ++ cl).lookup x = some a) : a = c ∨ cl.lookup x = some a := by
  induction oc with
  | nil => exact .inr h
  | cons y r ih =>
    have h' : ((y, c) :: (ownCells r c ++ cl)).lookup x = some a := h
    rw [List.lookup_cons] at h'
    split at h'
    · cases h'; exact .inl rfl
    · exact ih h'
theorem own_pair : ∀ {oc : List Str} (c : Addr), oc.length ≤ 1 → (ownCells oc c).Pairwise fun x y => x.2 ≠ y.2
  | [], _, _ => .nil
  | [x], _, _ => by simp [ownCells]
  | _ :: _ :: _, _, h => by simp at h
/-- from the frame to the frame of its comprehension -/
theorem Stt.comp {scope : Scope} {oc : List Str} {cl : List (Str × Addr)} {ρc : Vars} {h : Heap} {C c : Addr} {m : Str → Option Value} (T : Stt X W ρ h) (hk : scope.kind = .function) (hcl : Clo X cl) (hoc : oc.length ≤ 1) (hcap : Cap X scope oc cl ρ ρc)
    (hC : h.Ns C m) (hc : oc = [] ∨ ∃ v, h.IsCell c v) (hC0 : X.h₀.objs.size ≤ C) (hc0 : X.h₀.objs.size ≤ c) (hnc : ∀ n a, X.env.cells.lookup n = some a → a ≠ c) :
    Stt (X.inComp scope (ownCells oc c ++ cl) C) W ρc h where
  cx := T.cx
  low := T.low
  keep := T.keep
  en := ⟨T.en.1, T.en.2.1, hk⟩
  loc := ⟨m, hC⟩
  above := hC0
  cab := fun p hp => by
    rcases List.mem_append.mp hp with hp | hp
    · obtain ⟨x, _, rfl⟩ := List.mem_map.mp hp; exact hc0
    · exact T.cab _ (mem_of_lookup (hcl.at p hp))
  cel := fun n a e => by
    rcases lookup_ownSome e with rfl | e'
    · rcases hc with rfl | hc
      · exact T.cel _ _ (hcl.at _ (mem_of_lookup e))
      · exact hc
    · exact T.cel _ _ (hcl.at _ (mem_of_lookup e'))
  apart := by
    refine List.pairwise_append.mpr ⟨?_, hcl.apart T.apart, fun p hp q hq => ?_⟩
    · exact own_pair c hoc
    · obtain ⟨x, _, rfl⟩ := List.mem_map.mp hp
      exact Ne.symm (hnc _ _ (hcl.at q hq))
  own := T.own
  vars := fun p hp => by
    obtain ⟨h1, h2, ⟨a, h3, h4⟩, h5, h6⟩ := hcap.at p hp
    obtain ⟨v, H, r⟩ := T.vars p h1
    refine ⟨v, ⟨.inr ⟨h6, a, (lookup_own h5).trans h4, ?_⟩⟩, r⟩
    rcases H.how with ⟨q, _⟩ | ⟨_, a', q, q'⟩
    · rw [h2] at q; cases q
    · rw [h3] at q; cases q; exact q'
/-- a namespace that is not the frame's own may change -/
theorem Stt.dictBut {h h' : Heap} {C : Addr} {m : Str → Option Value} (T : Stt X W ρ h) (hC : h.Ns C m) (hs : Heap.SameBut C h h') (hn : ¬ X.T W C) (h0 : X.h₀.get? C = none) (hl : ∀ a, X.N₀ a → a < X.h₀.objs.size ∨ ∃ o, h'.get? a = some o) : Stt X W ρ h' := by
  have kq : ∀ b o vs n, h.get? b = some o → o.data = .seq vs n → h'.get? b = some o := fun b o vs n e hd => hs.extBut b o (Ne.symm (Ns_ne_seq hC e hd)) e
  have kr : ∀ {v d}, Rd (X.N W) h v d → Rd (X.N W) h' v d := fun r => r.keepOn (fun _ q => q) fun b o vs n e hd _ => kq b o vs n e hd
  have nl : X.env.locals ≠ C := fun q => hn (.inl q.symm)
  have nc : ∀ {n c}, X.env.cells.lookup n = some c → c ≠ C := fun e q => by obtain ⟨v, hv⟩ := T.cel _ _ e; exact Ns_ne_cell hC hv q.symm
  refine ⟨T.cx, hl, fun b o e => hs.extBut b o (fun q => by rw [q] at e; rw [h0] at e; cases e) (T.keep b o e), T.en, ?_, T.above, T.cab, fun n c e => ?_, T.apart, fun p hp => ?_, fun p hp => ?_⟩
  · obtain ⟨m, q⟩ := T.loc; exact ⟨m, q.sameBut hs nl⟩
  · obtain ⟨v, q⟩ := T.cel n c e; exact ⟨v, q.sameBut hs (nc e)⟩
  · obtain ⟨a, vs, n, b, c⟩ := T.own p hp
    exact ⟨a, vs, n, kq _ _ _ _ b rfl, c.keepOn (fun _ q => q) fun b o vs n e hd _ => kq b o vs n e hd⟩
  · obtain ⟨v, H, r⟩ := T.vars p hp
    refine ⟨v, ⟨?_⟩, ?_⟩
    · rcases H.how with ⟨a, m, b, c⟩ | ⟨a, c, b, e⟩
      · exact .inl ⟨a, m, b.sameBut hs nl, c⟩
      · exact .inr ⟨a, c, b, e.sameBut hs (nc b)⟩
    · cases hd : p.2 with
      | val u => rw [hd] at r; exact r
      | dat d => rw [hd] at r; exact kr r

theorem filterMap_take {α β : Type} (g : α → Option β) (l : List α) (i : Nat) (x : α) (h : l[i]? = some x) : (l.take (i + 1)).filterMap g = (l.take i).filterMap g ++ (match g x with | some y => [y] | none => []) := by
  rw [List.take_add_one, h, List.filterMap_append]
  cases hg : g x <;> simp [hg]

/-- what a comprehension needs to be so -/
structure CompB (X : Fx) (k : Nat) (W : Own) (ρ : Vars) (elt target iter : Expr) (ifs : List Expr) (scope : Scope) (its : List Tn) (g : Tn → Option PyData) (xs oc : List Str) (cl : List (Str × Addr)) (ρc : Vars) : Prop where
  hs : ∀ x, foldedSetIterable iter X.env x = pure x
  hclos : closureFor scope X.env = pure cl
  hclo : Clo X cl
  hkind : scope.kind = .function
  hnames : ∀ x ∈ scope.names, x.2 = .local → scope.names.lookup x.1 = some .local
  hoc : OwnC scope oc
  hcap : Cap X scope oc cl ρ ρc
  hxs' : (xs.all fun x => (cl.lookup x).isNone) = true
  hxc' : (ρc.all fun p => !xs.contains p.1) = true
  htg : ∀ (C : Nat), Tgn (compEnvC scope (ownCells oc (C + 1) ++ cl) C X.env) target xs
  hft : ∀ it ∈ its, fits xs it
  hsz : its.length ≤ 100000
  body : ∀ (N' : Addr → Prop) (C : Nat), ∀ it ∈ its, CE ((X.sh N').inComp scope (ownCells oc (C + 1) ++ cl) C) k W (bindT xs it ρc) ifs elt (g it)
structure CompOk (X : Fx) (k : Nat) (W : Own) (ρ : Vars) (elt target iter : Expr) (ifs : List Expr) (scope : Scope) (its : List Tn) (g : Tn → Option PyData) (xs oc : List Str) (cl : List (Str × Addr)) (ρc : Vars) : Prop extends CompB X k W ρ elt target iter ifs scope its g xs oc cl ρc where
  hit : Itr X k W ρ target iter its
theorem CompB.hxs {elt target iter : Expr} {ifs : List Expr} {scope : Scope} {its : List Tn} {g : Tn → Option PyData} {xs oc : List Str} {cl : List (Str × Addr)} {ρc : Vars} (K : CompB X k W ρ elt target iter ifs scope its g xs oc cl ρc) : ∀ x ∈ xs, cl.lookup x = none := fun x hx => by
  have := List.all_eq_true.mp K.hxs' x hx
  exact Option.isNone_iff_eq_none.mp this
theorem CompB.hxc {elt target iter : Expr} {ifs : List Expr} {scope : Scope} {its : List Tn} {g : Tn → Option PyData} {xs oc : List Str} {cl : List (Str × Addr)} {ρc : Vars} (K : CompB X k W ρ elt target iter ifs scope its g xs oc cl ρc) : ∀ p ∈ ρc, p.1 ∉ xs := fun p hp q => by
  have := List.all_eq_true.mp K.hxc' p hp
  rw [List.contains_iff_mem.mpr q] at this; cases this
end
end Mine
end
section
open PySem PySem.W PyProof.Rows
namespace Mine
theorem Clo.sh {X : Fx} {N' : Addr → Prop} : ∀ {cl}, Clo X cl → Clo (X.sh N') cl
  | [], _ => trivial
  | _ :: _, ⟨a, b, h⟩ => ⟨a, b, Clo.sh h⟩
theorem Cap.sh {X : Fx} {N' : Addr → Prop} {scope : Scope} {oc : List Str} {cl : List (Str × Addr)} {ρ : Vars} : ∀ {ρc : Vars}, Cap X scope oc cl ρ ρc → Cap (X.sh N') scope oc cl ρ ρc
  | [], _ => trivial
  | _ :: _, ⟨a, h⟩ => ⟨a, Cap.sh h⟩
section
variable {X : Fx} {k : Nat} {W : Own} {ρ : Vars} {A : Around} {E : Value → Shared → Prop} {s : Shared}
theorem turn_lt {i n : Nat} (h : i < n) : n + 1 - (i + 1) < n + 1 - i := by omega
theorem CompB.inner {elt target iter : Expr} {ifs : List Expr} {scope : Scope} {pos : Pos} {its : List Tn} {g : Tn → Option PyData} {xs oc : List Str} {cl : List (Str × Addr)} {ρc : Vars}
    (K : CompB X k W ρ elt target iter ifs scope its g xs oc cl ρc) (R : Rm k A s.toks) (T : Stt X W ρ s.heap) (RR : Value → Addr → Result → Shared → Prop)
    (hRR : ∀ D C m s', s.heap.get? D = none → s.heap.get? C = none → D ≠ C → To s s' → s'.heap.Ns C m → Rd (X.N W) s'.heap (.ref D) (.list (its.filterMap g)) → RR (.ref D) C (.ok .next) s')
    {I : Addr} {fp wr : List Addr} {P Md : Nat → Value → Heap → Prop} {St : Nat → Heap → Prop} {s₂ : Shared} (t : To s s₂) (W₀ : KTurns pw X.w A target I fp wr its.length P Md St) (hst : St 0 s₂.heap)
    (hwr : ∀ b ∈ wr, s.heap.get? b = none) (hfp : ∀ b ∈ fp, (∃ o, s₂.heap.get? b = some o) ∧ ¬ X.T W b) (hal : ∀ i h, St i h → ∀ b ∈ wr, ∃ o, h.get? b = some o)
    (hok : ∀ i it, its[i]? = some it → ∀ v h N', (∀ a, N' a → X.N W a ∨ a ∈ wr ∨ s₂.heap.get? a = none) → (∀ b o, s₂.heap.get? b = some o → ¬ X.T W b → b ∉ wr → h.get? b = some o) → P i v h → it.ok N' h v)
    (hself : ∀ (A' : Around) (E : Value → Shared → Prop) (s : Shared) (Q : Value → Shared → Prop), St 0 s.heap → Q (.ref I) s → wpAny (mo X.w) A' (pyIter (.ref I)) Q E s) :
    wpAny (mo X.w) A (newList []) (fun acc s₃ =>
      wpAny (mo X.w) A (newFunctionEnv scope X.env.globals cl [] X.env.qual none .none (some X.env)) (fun cenv s₄ =>
        codeAny (mo X.w) A (.compStart (.ListComp elt [⟨target, iter, ifs, 0⟩] scope pos) 0 (.ref I) acc { cenv with scope := relabel scope X.env }) (RR acc cenv.locals) s₄) E s₃) E s₂ := by
  have T₂ := T.keeps t.heap
  refine wpAny_newObj_type ?_
  generalize hD : s₂.heap.objs.size = D
  generalize hH3 : s₂.heap.push { cls := .type "list", data := .seq ([] : List Value).toArray } = H3
  have k3 : Kp s₂.heap H3 := hH3 ▸ Kp.push _ _
  have hD3 : H3.PlainList D #[] := ⟨0, by rw [← hH3, ← hD]; exact Heap.get?_push_size _ rfl⟩
  refine newCompEnv (s := { s₂ with heap := H3 }) K.hoc fun H4 C c env' eC ec k4 hC hc he hl => ?_
  have k34 : Kp s₂.heap H4 := fun b o e => k4 b o (k3 b o e)
  have sz3 : H3.objs.size = D + 1 := by rw [← hH3, Heap.size_push, hD]
  have eC' : C = D + 1 := eC.trans sz3
  have ec' : c = D + 2 := ec.trans (by show H3.objs.size + 1 = _; rw [sz3])
  obtain rfl : c = C + 1 := by rw [ec', eC']
  rw [he, hl]
  have ltDC : D < C := Nat.lt_of_lt_of_eq (Nat.lt_succ_self D) eC'.symm
  have leDC : D ≤ C := Nat.le_of_lt ltDC
  have ltDC1 : D < C + 1 := Nat.lt_succ_of_lt ltDC
  have leDC1 : D ≤ C + 1 := Nat.le_of_lt ltDC1
  have hDC : D ≠ C := Nat.ne_of_lt ltDC
  have new2 : ∀ {a : Nat}, D ≤ a → s₂.heap.get? a = none := fun ha => get_none (hD ▸ ha)
  have newS : ∀ {a : Nat}, D ≤ a → s.heap.get? a = none := fun ha => get_none_kp t.heap (new2 ha)
  have h0n : ∀ {a : Nat}, D ≤ a → X.h₀.get? a = none := fun ha => get_none_kp T.keep (newS ha)
  have T2lt : ∀ {a : Nat}, D ≤ a → ¬ X.T W a := fun ha => T₂.newNotT (hD ▸ ha)
  have hDwr : D ∉ wr := fun q => by obtain ⟨o, e⟩ := hal 0 _ hst D q; rw [new2 (Nat.le_refl _)] at e; cases e
  have fplt : ∀ b ∈ fp, (b : Nat) < D := fun b hb => by obtain ⟨⟨o, e⟩, _⟩ := hfp b hb; exact hD ▸ Heap.lt_size e
  have h0le : X.h₀.objs.size ≤ D := by
    obtain ⟨m, hm⟩ := T₂.loc
    exact Nat.le_of_lt (Nat.lt_of_le_of_lt T.above (hD ▸ hm.lt))
  have ocl : oc.length ≤ 1 := by cases K.hoc <;> simp
  have hD4 : H4.PlainList D #[] := hD3.at fun o e => k4 D o e
  let N' : Addr → Prop := fun a => X.N₀ a ∨ a ∈ D :: wr
  have Tsh : Stt (X.sh N') W ρ H4 := T.shun (wr := D :: wr) (fun b hb => by
      rcases List.mem_cons.mp hb with rfl | hb
      · exact newS (Nat.le_refl _)
      · exact hwr b hb) (fun b o e => k34 b o (t.heap b o e)) fun b hb => by
      rcases List.mem_cons.mp hb with rfl | hb
      · obtain ⟨n, e⟩ := hD4; exact ⟨_, e⟩
      · obtain ⟨o, e⟩ := hal 0 _ hst b hb; exact ⟨o, k34 b o e⟩
  have hclo' : Clo (X.sh N') cl := Clo.sh K.hclo
  have h0le' : (X.sh N').h₀.objs.size ≤ D := h0le
  let Y : Fx := (X.sh N').inComp scope (ownCells oc (C + 1) ++ cl) C
  have TY : Stt Y W ρc H4 := Stt.comp (X := X.sh N') Tsh K.hkind hclo' ocl (Cap.sh K.hcap) hC (hc.imp id fun q => ⟨_, q⟩) (Nat.le_trans h0le' leDC) (Nat.le_trans h0le' leDC1) fun n a e q => by
    obtain ⟨v, o, e', _⟩ := T₂.cel n a e
    rw [q] at e'; rw [new2 leDC1] at e'; cases e'
  -- what the comprehension's frame may change is new
  have YG : ∀ b : Nat, Y.G xs b → D ≤ b := fun b q => by
    rcases q with q | ⟨x, hx, q, _⟩
    · exact Nat.le_trans leDC (Nat.le_of_eq (Eq.symm q))
    · rcases lookup_ownSome q with q | q
      · exact Nat.le_trans leDC1 (Nat.le_of_eq (Eq.symm q))
      · rw [K.hxs x hx] at q; cases q
  have wrT : ∀ b ∈ D :: wr, ¬ Y.T W b := fun b hb q => by
    have hbl : (b : Nat) ≤ D := by
      rcases List.mem_cons.mp hb with rfl | hb
      · exact Nat.le_refl _
      · exact Nat.le_of_lt (fplt b (W₀.sub b hb))
    have key : ¬ X.T W b := by
      rcases List.mem_cons.mp hb with rfl | hb
      · exact T2lt (Nat.le_refl _)
      · exact (hfp b (W₀.sub b hb)).2
    rcases q with q | ⟨n, q, hlt⟩ | q
    · exact absurd (Nat.lt_of_lt_of_le ltDC (Nat.le_trans (Nat.le_of_eq (Eq.symm q)) hbl)) (Nat.lt_irrefl _)
    · have hlt' : (C : Nat) < b := hlt
      exact absurd (Nat.lt_of_lt_of_le (Nat.lt_trans ltDC hlt') hbl) (Nat.lt_irrefl _)
    · exact key (.inr (.inr q))
  have wr0 : ∀ b ∈ D :: wr, Y.h₀.get? b = none := fun b hb => by
    rcases List.mem_cons.mp hb with rfl | hb
    · exact h0n (Nat.le_refl _)
    · exact get_none_kp T.keep (hwr b hb)
  have wrC : ∀ n c, Y.env.cells.lookup n = some c → c ∉ D :: wr := fun n c e q => by
    rcases lookup_ownSome e with e | e
    · have e' : (c : Nat) = C + 1 := e
      rcases List.mem_cons.mp q with q | q
      · have q' : (C + 1 : Nat) = D := e.symm.trans q
        exact Nat.ne_of_gt ltDC1 q'
      · have q' : (C + 1 : Nat) < D := e ▸ fplt c (W₀.sub c q)
        exact Nat.lt_irrefl _ (Nat.lt_trans ltDC1 q')
    · obtain ⟨v, o, e', _⟩ := T.cel _ _ (K.hclo.at _ (mem_of_lookup e))
      rcases List.mem_cons.mp q with q | q
      · rw [q, newS (Nat.le_refl _)] at e'; cases e'
      · rw [hwr c q] at e'; cases e'
  have hst4 : St 0 H4 := W₀.frame _ _ _ hst fun b _ o e => k34 b o e
  have loop : codeAny (mo X.w) A (.compLoop (.ListComp elt [⟨target, iter, ifs, 0⟩] scope pos) 0 (.ref I) (.ref D) Y.env) (RR (.ref D) C) { s₂ with heap := H4 } := by
    refine codeAny_loop rfl (fun n s' => ∃ h tk i ys, s' = { s₂ with heap := h, toks := tk } ∧ s₂.toks ≤ tk ∧ St i h ∧ i ≤ its.length ∧ n = its.length + 1 - i ∧ h.PlainList D ys ∧ RdAll (Y.N W) h ys.toList ((its.take i).filterMap g) ∧ Stt Y W ρc h ∧
        (∀ b o, b ∉ wr → s₂.heap.get? b = some o → h.get? b = some o)) ?_ (its.length + 1)
      ⟨H4, s₂.toks, 0, #[], rfl, Nat.le_refl _, hst4, Nat.zero_le _, rfl, hD4, .nil, TY, fun b o _ e => k34 b o e⟩
    rintro n s' ⟨h, tk, i, ys, rfl, htk, hst', hi, rfl, hys, hrd, TYi, hkp⟩
    show wpAny _ A ((compTurn (.ListComp elt [⟨target, iter, ifs, 0⟩] scope pos) 0 (.ref I) (.ref D) Y.env).onRaise (fun x => do noteFrame x Y.env; theTreesLotGoes x)) _ _ _
    refine wpAny_noted ?_
    rw [compTurn_list]
    refine wpAny_bind (wpAny_standAt (wpAny_bind ?_))
    -- changes at shunned addresses
    have but : ∀ {h h' : Heap} {ρ' : Vars} (wr' : List Addr), (∀ b ∈ wr', b ∈ D :: wr) → Stt Y W ρ' h → (∀ b o, b ∉ wr' → h.get? b = some o → h'.get? b = some o) → (∀ b ∈ wr', ∃ o, h'.get? b = some o) → Stt Y W ρ' h' := fun {h h' ρ'} wr' hs Tq hk al =>
      Stt.but (X := Y) (N' := Y.N₀) (M := Y.N₀) (wr := wr') Tq (fun _ q => q) (fun b hb => .inr (hs b hb)) hk (fun b hb => wrT b (hs b hb)) (fun n c e q => wrC n c e (hs c q)) (fun b hb => wr0 b (hs b hb)) fun a q => by
        by_cases hw : a ∈ wr'
        · exact .inr (al a hw)
        · rcases Tq.low a q with q | ⟨o, e⟩
          · exact .inl q
          · exact .inr ⟨o, hk a o hw e⟩
    by_cases hlt : i < its.length
    · refine wpAny_with_toks (n := s₂.toks) htk (W₀.item i _ _ _ hlt hst' fun v h₁ tk₁ hMd hk₁ htk₁ => ?_)
      refine wpAny_bind (W₀.go i v _ _ _ hMd fun h₂ hP hst₂ hk₂ => ?_)
      have hk : ∀ b o, b ∉ wr → h.get? b = some o → h₂.get? b = some o := fun b o hb e => hk₂ b o hb (hk₁ b o hb e)
      have hkp₂ : ∀ b o, b ∉ wr → s₂.heap.get? b = some o → h₂.get? b = some o := fun b o hb e => hk b o hb (hkp b o hb e)
      have TY₂ : Stt Y W ρc h₂ := but wr (fun b hb => List.mem_cons_of_mem _ hb) TYi hk (hal _ _ hst₂)
      obtain ⟨it, hit'⟩ : ∃ it, its[i]? = some it := ⟨its[i], List.getElem?_eq_getElem hlt⟩
      have hmem := List.mem_of_getElem? hit'
      have iok : it.ok (Y.N W) h₂ v := hok i it hit' v h₂ _ (fun a q => by
        rcases q with (q | q) | q
        · exact .inl (.inl q)
        · rcases List.mem_cons.mp q with rfl | q
          · exact .inr (.inr (new2 (Nat.le_refl _)))
          · exact .inr (.inl q)
        · exact .inl (.inr q)) (fun b o e _ c => hkp₂ b o c e) hP
      have hys₂ : h₂.PlainList D ys := hys.at fun o e => hk D o hDwr e
      have hrd₂ : RdAll (Y.N W) h₂ ys.toList ((its.take i).filterMap g) := hrd.keepOn (fun _ q => q) fun b o vs n e _ hn => hk b o (fun q => hn (.inl (.inr (List.mem_cons_of_mem _ q)))) e
      refine wpAny_bind (Stt.assignT (X := Y) (s := { s₂ with heap := h₂, toks := tk₁ }) ((R.to t).up htk₁) TY₂ (K.htg C) (K.hft it hmem) iok fun s₃ TY₃ m₃ => ?_)
      obtain ⟨h₃, tk₃, e3, q3⟩ := m₃.same
      subst e3
      have R₃ : Rm k A tk₃ := ((R.to t).up htk₁).up q3
      have q3' : s₂.toks ≤ tk₃ := Nat.le_trans htk₁ q3
      have k23 : ∀ (b : Nat) o, b < D → h₂.get? b = some o → h₃.get? b = some o := fun b o hb e => m₃.kept b o (fun q => Nat.lt_irrefl _ (Nat.lt_of_lt_of_le hb (YG b q))) e
      have hst₃ : St (i + 1) h₃ := W₀.frame _ _ _ hst₂ fun b hb o e => k23 b o (fplt b hb) e
      have nGD : ¬ Y.G xs D := fun q => by
        rcases q with q | ⟨x, hx, q, _⟩
        · exact hDC q
        · rcases lookup_ownSome q with q | q
          · exact Nat.ne_of_lt ltDC1 q
          · rw [K.hxs x hx] at q; cases q
      have hys₃ : h₃.PlainList D ys := hys₂.at fun o e => m₃.kept D o nGD e
      have hrd₃ : RdAll (Y.N W) h₃ ys.toList ((its.take i).filterMap g) := hrd₂.keepOn (fun _ q => q) fun b o vs n e hd hn => m₃.kept b o (fun q => by
        rcases q with q | ⟨x, _, q, _⟩
        · obtain ⟨m, hm⟩ := TY₂.loc; exact Ns_ne_seq hm e hd q.symm
        · obtain ⟨c, hc⟩ := TY₂.cel _ _ q; exact cell_ne_seq hc e hd rfl) e
      have hkp₃ : ∀ b o, b ∉ wr → s₂.heap.get? b = some o → h₃.get? b = some o := fun b o hb e => k23 b o (hD ▸ Heap.lt_size e) (hkp₂ b o hb e)
      have lessY : ∀ {h}, Stt Y W (bindT xs it ρc) h → Stt Y W ρc h := fun Tq => Tq.less fun p hp => by
        have hx := K.hxc p hp
        have ff := K.hft it hmem
        match xs, it, hx, ff with
        | [x], .one d, hx, _ =>
          exact List.mem_cons_of_mem _ (List.mem_filter.mpr ⟨hp, by simpa using hx⟩)
        | [x, y], .two a b, hx, _ =>
          simp only [List.mem_cons, List.not_mem_nil, or_false, not_or] at hx
          exact List.mem_cons_of_mem _ (List.mem_filter.mpr ⟨List.mem_cons_of_mem _ (List.mem_filter.mpr ⟨hp, by simpa using hx.1⟩), by simpa using hx.2⟩)
        | [], _, _, ff => exact ff.elim
        | [_], .two _ _, _, ff => exact ff.elim
        | [_, _], .one _, _, ff => exact ff.elim
        | _ :: _ :: _ :: _, .one _, _, ff => exact ff.elim
        | _ :: _ :: _ :: _, .two _ _, _, ff => exact ff.elim
      have bd := K.body N' C it hmem
      have tk' := filterMap_take g its i it hit'
      have sD : ys.size ≤ sizeLine := by
        have e1 := hrd.length
        have e2 : ((its.take i).filterMap g).length ≤ its.length := Nat.le_trans (List.length_filterMap_le _ _) (by rw [List.length_take]; exact Nat.min_le_right _ _)
        have e3 := K.hsz
        rw [Array.length_toList] at e1
        exact Nat.le_trans (Nat.le_of_eq e1) (Nat.le_trans e2 (Nat.le_trans e3 (by decide)))
      cases hg : g it with
      | none =>
        rw [hg] at bd tk'
        refine wpAny_bind (wpAny_testsAll (X := Y) (s := { s₂ with heap := h₃, toks := tk₃ }) bd R₃ TY₃ fun s₄ t₄ => ?_)
        obtain ⟨h₄, tk₄, rfl, k34', q34⟩ := t₄
        refine wpAny_pure ⟨rfl, its.length + 1 - (i + 1), turn_lt hlt, h₄, tk₄, i + 1, ys, rfl, Nat.le_trans q3' q34, W₀.frame _ _ _ hst₃ fun b _ o e => k34' b o e, hlt, rfl, hys₃.at fun o e => k34' D o e, ?_, lessY (TY₃.keeps k34'), fun b o hb e => k34' b o (hkp₃ b o hb e)⟩
        rw [tk']; simpa using hrd₃.keeps k34'
      | some d =>
        rw [hg] at bd tk'
        refine wpAny_bind (wpAny_testsAll (X := Y) (s := { s₂ with heap := h₃, toks := tk₃ }) bd.1 R₃ TY₃ fun s₄ t₄ => ?_)
        obtain ⟨h₄, tk₄, rfl, k34', q34⟩ := t₄
        refine wpAny_bind (wpAny_bind (bd.2 A _ { s₂ with heap := h₄, toks := tk₄ } _ (R₃.up q34) (TY₃.keeps k34') fun y s₅ t₅ ry => ?_))
        obtain ⟨h₅, tk₅, rfl, k45, q45⟩ := t₅
        have k35 : Kp h₃ h₅ := fun b o e => k45 b o (k34' b o e)
        refine wpAny_bind (wpAny_list_append_plain (hsz := sD) (hys₃.at fun o e => k35 D o e) fun h₆ hl₆ hs₆ => ?_)
        have ry : Rd (Y.N W) h₅ y d := ry
        have k56 : ∀ b o, b ∉ [D] → h₅.get? b = some o → h₆.get? b = some o := fun b o hb e => hs₆.extBut b o (fun q => hb (by simp [q])) e
        have r56 : ∀ {v d}, Rd (Y.N W) h₅ v d → Rd (Y.N W) h₆ v d := fun r => r.keepOn (fun _ q => q) fun b o vs n e _ hn => k56 b o (fun q => hn (.inl (.inr (by rw [List.mem_singleton.mp q]; exact List.mem_cons_self)))) e
        have ra56 : ∀ {v d}, RdAll (Y.N W) h₅ v d → RdAll (Y.N W) h₆ v d := fun r => r.keepOn (fun _ q => q) fun b o vs n e _ hn => k56 b o (fun q => hn (.inl (.inr (by rw [List.mem_singleton.mp q]; exact List.mem_cons_self)))) e
        refine wpAny_pure (wpAny_pure ⟨rfl, its.length + 1 - (i + 1), turn_lt hlt, h₆, tk₅, i + 1, ys.push y, rfl, Nat.le_trans q3' (Nat.le_trans q34 q45), ?_, hlt, rfl, hl₆, ?_, ?_, fun b o hb e => ?_⟩)
        · exact W₀.frame _ _ _ hst₃ fun b hb o e => k56 b o (fun q => by have := fplt b hb; rw [List.mem_singleton.mp q] at this; exact Nat.lt_irrefl _ this) (k35 b o e)
        · rw [tk', Array.toList_push]
          exact (ra56 (hrd₃.keeps k35)).append (.cons (r56 ry) .nil)
        · refine lessY (but [D] (fun b hb => by rw [List.mem_singleton.mp hb]; exact List.mem_cons_self) (TY₃.keeps k35) k56 fun b hb => ?_)
          rw [List.mem_singleton.mp hb]; obtain ⟨n, e⟩ := hl₆; exact ⟨_, e⟩
        · exact k56 b o (fun q => by rw [List.mem_singleton.mp q, new2 (Nat.le_refl _)] at e; cases e) (k35 b o (hkp₃ b o hb e))
    · have hin : i = its.length := Nat.le_antisymm hi (Nat.le_of_not_lt hlt)
      subst hin
      refine wpAny_with_toks (n := s₂.toks) htk (W₀.done _ _ _ hst' fun h₁ tk₁ hk₁ htk₁ => wpAny_pure ?_)
      have hys₁ : h₁.PlainList D ys := hys.at fun o e => hk₁ D o hDwr e
      have hrd₁ : RdAll (Y.N W) h₁ ys.toList (its.filterMap g) := by
        rw [List.take_length] at hrd
        exact hrd.keepOn (fun _ q => q) fun b o vs n e _ hn => hk₁ b o (fun q => hn (.inl (.inr (List.mem_cons_of_mem _ q)))) e
      obtain ⟨m, hm⟩ := TYi.loc
      have hCw : C ∉ wr := fun q => Nat.lt_irrefl _ (Nat.lt_trans (fplt C (W₀.sub C q)) ltDC)
      refine hRR D C m _ (newS (Nat.le_refl _)) (newS (a := C) leDC) hDC ?_ (hm.at' fun o e => hk₁ C o hCw e) ?_
      · obtain ⟨hh, tt, e2, kk, qq⟩ := t
        subst e2
        refine To.mk (fun b o e => ?_) (Nat.le_trans qq htk₁)
        have hb : b ∉ wr := fun q => by rw [hwr b q] at e; cases e
        exact hk₁ b o hb (hkp b o hb (kk b o e))
      · obtain ⟨n, e⟩ := hys₁
        refine .list e ?_ (hrd₁.less fun a q => q.imp .inl id)
        rintro (q | q)
        · exact (Nat.lt_irrefl _ (Nat.lt_of_lt_of_le (T₂.nlt D (.inl q)) (hD ▸ Nat.le_refl _)))
        · exact T2lt (Nat.le_refl _) (.inr (.inr q))
  refine codeAny_compStart_list loop (hself A _ { s₂ with heap := H4 } _ hst4 loop)
theorem CompOk.block {elt target iter : Expr} {ifs : List Expr} {scope : Scope} {pos : Pos} {its : List Tn} {g : Tn → Option PyData} {xs oc : List Str} {cl : List (Str × Addr)} {ρc : Vars}
    (K : CompOk X k W ρ elt target iter ifs scope its g xs oc cl ρc) (R : Rm k A s.toks) (T : Stt X W ρ s.heap) (RR : Value → Addr → Result → Shared → Prop)
    (hRR : ∀ D C m s', s.heap.get? D = none → s.heap.get? C = none → D ≠ C → To s s' → s'.heap.Ns C m → Rd (X.N W) s'.heap (.ref D) (.list (its.filterMap g)) → RR (.ref D) C (.ok .next) s') :
    wpAny (mo X.w) A (eval iter X.env) (fun x s₁ => wpAny (mo X.w) A (pyIter x) (fun it s₂ => wpAny (mo X.w) A (newList []) (fun acc s₃ =>
      wpAny (mo X.w) A (newFunctionEnv scope X.env.globals cl [] X.env.qual none .none (some X.env)) (fun cenv s₄ =>
        codeAny (mo X.w) A (.compStart (.ListComp elt [⟨target, iter, ifs, 0⟩] scope pos) 0 it acc { cenv with scope := relabel scope X.env }) (RR acc cenv.locals) s₄) E s₃) E s₂) E s₁) E s := by
  exact K.hit A E s _ R T fun I fp wr P Md St s₂ t W₀ hst hwr hfp hal hok hself => K.toCompB.inner R T RR hRR t W₀ hst hwr hfp hal hok hself
end
end Mine
end
section
open PySem PySem.W PyProof.Rows
namespace Mine
section
variable {X : Fx} {k : Nat} {W : Own} {ρ : Vars} {A : Around} {E : Value → Shared → Prop} {s : Shared}
theorem Ev.comp {elt target iter : Expr} {ifs : List Expr} {scope : Scope} {pos : Pos} {its : List Tn} {g : Tn → Option PyData} {xs oc : List Str} {cl : List (Str × Addr)} {ρc : Vars}
    (K : CompOk X k W ρ elt target iter ifs scope its g xs oc cl ρc) : Ev X k W ρ (.ListComp elt [⟨target, iter, ifs, 0⟩] scope pos) (.dat (.list (its.filterMap g))) := fun A E s Q R T h => by
  rw [eval_ListComp]
  refine wpAny_comprehension_free (use := none) rfl K.hs K.hclos K.hkind K.hnames (K.block R T (fun acc C => compPost (mo X.w) A E none Q acc C) fun D C m s' hD hC hDC t hn r => ?_)
  refine ⟨m, hn, fun h' hs => ?_⟩
  obtain ⟨hh, tk, rfl, kk, qq⟩ := t
  refine h _ _ (To.mk (fun b o e => hs.extBut b o (fun q => by rw [q, hC] at e; cases e) (kk b o e)) qq) ?_
  exact r.keepOn (fun _ q => q) fun b o vs n e hd _ => hs.extBut b o (Ne.symm (Ns_ne_seq hn e hd)) e
theorem Thru.comp {elt target iter : Expr} {ifs : List Expr} {scope : Scope} {pos spos : Pos} {y : Str} {py : Pos} {its : List Tn} {g : Tn → Option PyData} {xs oc : List Str} {cl : List (Str × Addr)} {ρc : Vars}
    (K : CompOk X k W ρ elt target iter ifs scope its g xs oc cl ρc) (hy : Kn X.env y) (hsw : swapsWith (.ListComp elt [⟨target, iter, ifs, 0⟩] scope pos) (some (.Name y py)) spos.line X.env = pure true) :
    Thru X k W ρ [.Assign [.Name y py] (.ListComp elt [⟨target, iter, ifs, 0⟩] scope pos) spos] (fun W' ρ' => W' = W ∧ ρ' = put y (.dat (.list (its.filterMap g))) ρ) := fun A E s Q R T q => by
  refine one ?_
  rw [exec_Assign_Name_used _ _ _ _ hsw]
  refine wpAny_bind (wpAny_standAt (wpAny_bind ?_))
  show wpAny _ A (do let _ ← comprehension (.ListComp elt [⟨target, iter, ifs, 0⟩] scope pos) scope X.env _ (newList []) false (eval iter X.env) (some (PySem.assign (.Name y py) X.env))) _ _ s
  refine wpAny_bind (wpAny_mono (wpAny_comprehension_free (use := some (PySem.assign (.Name y py) X.env)) (Q := fun _ s' => Q .next s') rfl K.hs K.hclos K.hkind K.hnames
    (K.block R T (fun acc C => compPost (mo X.w) A E (some (PySem.assign (.Name y py) X.env)) (fun _ s' => Q .next s') acc C) fun D C m s' hD hC hDC t hn r => ?_)) (fun _ s' hq => wpAny_pure (wpAny_pure hq)) fun _ _ e => e)
  show wpAny _ A (PySem.assign (.Name y py) X.env (.ref D)) _ _ _
  have T' := T.keeps t.heap
  have nT : ¬ X.T W C := by
    rintro (q | ⟨n, q, _⟩ | q)
    · obtain ⟨m', o, _, _, e, _⟩ := T.loc; rw [← q, hC] at e; cases e
    · obtain ⟨v, o, e, _⟩ := T.cel _ _ q; rw [hC] at e; cases e
    · obtain ⟨p, hp, q⟩ := List.mem_map.mp q
      obtain ⟨_, vs, n, b, _⟩ := T.own p hp
      have b' : s.heap.get? p.1 = _ := b
      rw [q, hC] at b'; cases b'
  refine wpAny_assign_Name (T'.store (d := .dat (.list (its.filterMap g))) hy r fun s'' T'' m'' => ?_)
  have nG : ¬ X.G [y] C := fun q => nT (by rcases q with q | ⟨x, _, q⟩; exact .inl q; exact .inr (.inl ⟨x, q⟩))
  have hn' : s''.heap.Ns C m := hn.at' fun o e => m''.kept C o nG e
  refine ⟨m, hn', fun h' hs => ?_⟩
  have h0 : X.h₀.get? C = none := get_none_kp T.keep hC
  have Tf : Stt X W (put y (.dat (.list (its.filterMap g))) ρ) h' := T''.dictBut hn' hs nT h0 fun a ha => by
    rcases T.low a ha with q | ⟨o, e⟩
    · exact .inl q
    · rcases T''.low a ha with q | ⟨o', e'⟩
      · exact .inl q
      · exact .inr ⟨o', hs.extBut a o' (fun q => by rw [q, hC] at e; cases e) e'⟩
  refine q W _ _ ⟨rfl, rfl⟩ Tf ⟨?_, fun b o hb e => ?_, fun _ q => .inl q⟩
  · obtain ⟨hh, tk, rfl, kk, q1⟩ := t
    obtain ⟨h2, t2, e2, q2⟩ := m''.same
    subst e2
    exact ⟨h', t2, rfl, Nat.le_trans q1 q2⟩
  · have hbC : b ≠ C := fun q => by rw [q, hC] at e; cases e
    exact hs.extBut b o hbC (m''.mv.kept b o hb (t.heap b o e))
end
end Mine
end
section
open PySem PySem.W PyProof.Rows PySem.Builtin PySem.Builtin.Str
namespace Mine
section
variable {X : Fx} {k : Nat} {W : Own} {ρ : Vars} {A : Around} {E : Value → Shared → Prop} {s : Shared}

/-- a method of a str or a list, called -/
theorem Ev.methR {o : Expr} {name : Str} {apos pos : Pos} {es : List Expr} {a d : PyData} {ds : List D} {Ty id : String} (ho : Ev X k W ρ o (.dat a)) (hbase : attributeBase o name X.env (eval o X.env) = eval o X.env) (hfew : es.length < 20) (hline : (apos.endLine == pos.line) = true)
    (pl : PlainAttrs Ty) (slot : Slot Ty name id) (ty : typeOf (.builtin id) = pure (.type "method_descriptor")) (hT : ∀ (s : Shared) (v : Value), Rd (X.N W) s.heap v a → s.TypeIs v Ty ∧ ∀ p, v = .ref p → ∃ ob, s.heap.get? p = some ob ∧ ob.dict = none)
    (ha : EvAll X k W ρ es ds) (hc : ∀ (A : Around) (E : Value → Shared → Prop) (s : Shared) (Q : Value → Shared → Prop) (v : Value) (vs : List Value), Rm k A s.toks → Stt X W ρ s.heap → Rd (X.N W) s.heap v a → Dk (X.N W) s.heap vs ds →
      (∀ x s', To s s' → Rd (X.N W) s'.heap x d → Q x s') → wpAny (mo X.w) A (PySem.call (.builtin id) (v :: vs)) Q E s) : Ev X k W ρ (.Call (.Attribute o name apos) es [] pos) (.dat d) := fun A E s Q R T h => by
  have hall : (backTo pos (starEach es X.env)).all (fun x => !x.1) = true := by
    have := ha.plain (pos := pos)
    rw [List.all_eq_not_any_not]; simp only [Bool.not_not]; rw [this]; rfl
  refine wpAny_Call_method_lateS hbase (by rw [hall, show backToKw pos (keywordEach [] X.env) = [] from rfl]; simp only [List.all_nil, Bool.and_true, Bool.true_and]; exact decide_eq_true (by simpa using Nat.lt_trans hfew (by decide))) hline (ho A E s _ R T fun v s₁ t r => ?_)
  refine ⟨Ty, id, pl, slot, ty, (hT s₁ v r).1, (hT s₁ v r).2, ?_⟩
  refine Calls.callWith_builtin ha.plain (ha.args A E s₁ _ (R.to t) (T.keeps t.heap) fun vs s₂ t₂ r₂ => ?_)
  exact hc A E s₂ Q v vs ((R.to t).to t₂) ((T.keeps t.heap).keeps t₂.heap) (Rd.keeps t₂.heap r) r₂ fun x s₃ t₃ q => h x s₃ ((t.trans t₂).trans t₃) q
theorem strT {N : Addr → Prop} {x : Str} (s : Shared) (v : Value) (r : Rd N s.heap v (.str x)) : s.TypeIs v "str" ∧ ∀ p, v = .ref p → ∃ ob, s.heap.get? p = some ob ∧ ob.dict = none := by
  cases r; exact ⟨typeIs_str _ _ _, fun _ e => nomatch e⟩
theorem listT {N : Addr → Prop} {xs : List PyData} (s : Shared) (v : Value) (r : Rd N s.heap v (.list xs)) : s.TypeIs v "list" ∧ ∀ p, v = .ref p → ∃ ob, s.heap.get? p = some ob ∧ ob.dict = none := by
  cases r with
  | @list a vs n _ p1 p2 p3 => exact ⟨⟨_, p1, rfl⟩, fun p e => by cases e; exact ⟨_, p1, rfl⟩⟩
theorem Ev.upper {o : Expr} {apos pos : Pos} {x : Str} (ho : Ev X k W ρ o (.dat (.str x))) (hbase : attributeBase o "upper" X.env (eval o X.env) = eval o X.env) (hline : (apos.endLine == pos.line) = true) (hfit : tooLong (Txt.upper x).length = false) :
    Ev X k W ρ (.Call (.Attribute o "upper" apos) [] [] pos) (.dat (.str (Txt.upper x))) :=
  Ev.methR ho hbase (by decide) hline F.plainAttrs_str F.slot_str_upper F.type_str_upper strT .nil fun A E s Q v vs R T r r' h => by
    cases r; cases r'
    exact call_gives F.slot_str_upper (typeIs_str _ _ _) F.entry_str_upper (F.args_str_upper_1 _) (gives_str_upper x _ hfit) ⟨fit_le hfit, h _ _ (To.tok _ _) (.str _ _)⟩
theorem Ev.lower {o : Expr} {apos pos : Pos} {x : Str} (ho : Ev X k W ρ o (.dat (.str x))) (hbase : attributeBase o "lower" X.env (eval o X.env) = eval o X.env) (hline : (apos.endLine == pos.line) = true) (hfit : tooLong (Txt.lower x).length = false) :
    Ev X k W ρ (.Call (.Attribute o "lower" apos) [] [] pos) (.dat (.str (Txt.lower x))) :=
  Ev.methR ho hbase (by decide) hline F.plainAttrs_str F.slot_str_lower F.type_str_lower strT .nil fun A E s Q v vs R T r r' h => by
    cases r; cases r'
    exact call_gives F.slot_str_lower (typeIs_str _ _ _) F.entry_str_lower (F.args_str_lower_1 _) (gives_str_lower x _ hfit) ⟨fit_le hfit, h _ _ (To.tok _ _) (.str _ _)⟩
theorem Ev.find {o e : Expr} {apos pos : Pos} {x y : Str} (ho : Ev X k W ρ o (.dat (.str x))) (he : EvAll X k W ρ [e] [.dat (.str y)]) (hbase : attributeBase o "find" X.env (eval o X.env) = eval o X.env) (hline : (apos.endLine == pos.line) = true) :
    Ev X k W ρ (.Call (.Attribute o "find" apos) [e] [] pos) (.dat (.int (Txt.find x y))) :=
  Ev.methR ho hbase (by simp) hline F.plainAttrs_str F.slot_str_find F.type_str_find strT he fun A E s Q v vs R T r r' h => by
    cases r
    cases r' with
    | cons ry q =>
      cases q
      change Rd _ _ _ _ at ry
      cases ry
      exact call_gives F.slot_str_find (typeIs_str _ _ _) F.entry_str_find (F.args_str_find_2 _ _) (gives_str_find x y _ _) (h _ _ (To.tok _ _) (.int _ _))
theorem Ev.countS {o e : Expr} {apos pos : Pos} {x y : Str} (ho : Ev X k W ρ o (.dat (.str x))) (he : EvAll X k W ρ [e] [.dat (.str y)]) (hbase : attributeBase o "count" X.env (eval o X.env) = eval o X.env) (hline : (apos.endLine == pos.line) = true) :
    Ev X k W ρ (.Call (.Attribute o "count" apos) [e] [] pos) (.dat (.int (Txt.count x y))) :=
  Ev.methR ho hbase (by simp) hline F.plainAttrs_str F.slot_str_count F.type_str_count strT he fun A E s Q v vs R T r r' h => by
    cases r
    cases r' with
    | cons ry q =>
      cases q
      change Rd _ _ _ _ at ry
      cases ry
      exact call_gives F.slot_str_count (typeIs_str _ _ _) F.entry_str_count (F.args_str_count_2 _ _) (gives_str_count x y _ _) (h _ _ (To.tok _ _) (.int _ _))
theorem Ev.replace {o : Expr} {apos pos : Pos} {x y z : Str} {k1 k2 : Nat} {p1 p2 : Pos} (ho : Ev X k W ρ o (.dat (.str x))) (hbase : attributeBase o "replace" X.env (eval o X.env) = eval o X.env) (hline : (apos.endLine == pos.line) = true)
    (hyz : (y == z) = false) (hx : x.length ≤ 1048576) (hz : z.length ≤ 14) :
    Ev X k W ρ (.Call (.Attribute o "replace" apos) [.Constant (.str y) k1 p1, .Constant (.str z) k2 p2] [] pos) (.dat (.str (Txt.replace x y z))) := fun A E s Q R T h => by
  refine wpAny_Call_method_lateS hbase rfl hline (ho A E s _ R T fun v s₁ t r => ?_)
  refine ⟨"str", "str.replace", F.plainAttrs_str, F.slot_str_replace, F.type_str_replace, (strT s₁ v r).1, (strT s₁ v r).2, ?_⟩
  refine Calls.callWith_builtin rfl (Calls.evalArgs_plain (Calls.spliced_cons (Calls.Constant_str (k := k1) (pos := p1) (Calls.spliced_cons (Calls.Constant_str (k := k2) (pos := p2) (Calls.spliced_nil ?_))))))
  change Rd _ _ _ _ at r
  cases r
  have hp := (R.to t).pos
  refine wpAny_with_toks (Nat.le_refl _) (SC.replaceW (by show s₁.toks ≠ 0; omega) (by show s₁.toks + 1 ≠ 0; omega) (by show s₁.toks ≠ s₁.toks + 1; omega) hyz hx hz fun t' k' hk => ?_)
  exact h _ _ (t.trans (To.tok _ _ (by have : s₁.toks + 1 + 1 ≤ k' := hk; omega))) (.str _ _)
noncomputable def joinT (sep : Str) : List Str → Str
  | [x] => x
  | l => Builtin.Str.glued sep l
theorem strs_of {N : Addr → Prop} {h : Heap} : ∀ {ss : List Str} {vs : List Value}, RdAll N h vs (ss.map .str) → ∃ l : List (Str × Tok), vs = strValues l ∧ l.map (·.1) = ss
  | [], _, .nil => ⟨[], rfl, rfl⟩
  | s :: r, _, .cons a b => by
    cases a with
    | str _ t =>
      obtain ⟨l, e1, e2⟩ := strs_of b
      exact ⟨(s, t) :: l, by rw [e1]; rfl, by rw [List.map_cons, e2]⟩
theorem Ev.join {o e : Expr} {apos pos : Pos} {x : Str} {ss : List Str} (ho : Ev X k W ρ o (.dat (.str x))) (he : EvAll X k W ρ [e] [.dat (.list (ss.map .str))]) (hbase : attributeBase o "join" X.env (eval o X.env) = eval o X.env) (hline : (apos.endLine == pos.line) = true)
    (hl : tooLong (ss.toArray.foldl (· + ·.length + x.length) 0) = false) (hg : (Builtin.Str.glued x ss).length ≤ sizeLine) :
    Ev X k W ρ (.Call (.Attribute o "join" apos) [e] [] pos) (.dat (.str (joinT x ss))) :=
  Ev.methR ho hbase (by simp) hline F.plainAttrs_str F.slot_str_join F.type_str_join strT he fun A E s Q v vs R T r r' h => by
    cases r with
    | str _ t =>
    cases r' with
    | cons ry q =>
      cases q
      change Rd _ _ _ _ at ry
      cases ry with
      | @list p us n _ p1 p2 p3 =>
        obtain ⟨l, e1, e2⟩ := strs_of p3
        have hus : us = (strValues l).toArray := by rw [← e1]
        refine call_meets F.slot_str_join (typeIs_str _ _ _) F.entry_str_join (F.args_str_join_2 _ _) (meets_str_join_list x t p l (by rw [e2]; exact hl)) ⟨⟨_, p1, rfl, n, by rw [hus]⟩, ?_⟩
        subst e2
        match l with
        | [] => exact ⟨hg, h _ _ (To.tok _ _) (.str _ _)⟩
        | [p] => exact h _ _ (To.rfl _) (.str _ _)
        | p :: q :: r => exact ⟨hg, h _ _ (To.tok _ _) (.str _ _)⟩
-- builtins
theorem Cn.lenL {w : World} {xs : List PyData} (hn : xs.length ≤ 100000) : Cn w k (.builtin "len") [.dat (.list xs)] (.dat (.int xs.length)) := fun A E s Q N R C hN vs r h => by
  cases r with
  | cons r q =>
    cases q
    change Rd _ _ _ _ at r
    cases r with
    | @list p us n _ p1 p2 p3 =>
      have hl := p3.length
      rw [Array.length_toList] at hl
      refine Calls.call_len_list ⟨_, p1, rfl, n, rfl⟩ (by omega) ?_
      rw [hl]
      exact h _ _ (To.tok _ _) (.int _ _)
theorem Cn.ord {w : World} {c : Nat} : Cn w k (.builtin "ord") [.dat (.str ⟨#[c]⟩)] (.dat (.int c)) := fun A E s Q N R C hN vs r h => by
  cases r with
  | cons r q =>
    cases q
    change Rd _ _ _ _ at r
    cases r with
    | str _ t => exact call_function_meets F.kind_ord F.plain_ord F.entry_ord (F.args_ord1 _) (gives_ord c t).meets (h _ _ (To.tok _ _) (.int _ _))
theorem Cn.intI {w : World} {n : Int} : Cn w k (.type "int") [.dat (.int n)] (.dat (.int n)) := fun A E s Q N R C hN vs r h => by
  cases r with
  | cons r q =>
    cases q
    change Rd _ _ _ _ at r
    cases r
    exact call_int_int (h _ _ (To.rfl _) (.int _ _))
theorem Cn.min2 {w : World} {a b : Int} : Cn w k (.builtin "min") [.dat (.int a), .dat (.int b)] (.dat (.int (if b < a then b else a))) := fun A E s Q N R C hN vs r h => by
  cases r with
  | cons r q =>
    cases q with
    | cons r' q =>
      cases q
      change Rd _ _ _ _ at r r'
      cases r; cases r'
      refine wpAny_with_toks (Nat.le_refl _) (min_two_ints R.handled fun h' tk hk htk => h _ _ (To.mk hk htk) ?_)
      show Rd _ _ _ _
      split <;> exact .int _ _
end
end Mine
end
section
open PySem PySem.W PyProof.Rows PySem.Builtin PySem.Builtin.Str
namespace Mine
section
variable {X : Fx} {k : Nat} {W : Own} {ρ : Vars} {A : Around} {E : Value → Shared → Prop} {s : Shared}

theorem Ev.ifexp {test body orelse : Expr} {pos : Pos} {b : Bool} {d : D} (ht : Tst X k W ρ test b) (h : Ev X k W ρ (if b then body else orelse) d) : Ev X k W ρ (.IfExp test body orelse pos) d := fun A E s Q R T q =>
  IfExp_ (ht A E s _ R T fun s' t => by
    have := h A E s' Q (R.to t) (T.keeps t.heap) fun v s'' t' r => q v s'' (t.trans t') r
    cases b <;> exact this)
theorem Ev.neg {e : Expr} {pos : Pos} {a : Int} (h : Ev X k W ρ e (.dat (.int a))) : Ev X k W ρ (.UnaryOp .USub e pos) (.dat (.int (-a))) := fun A E s Q R T q =>
  UnaryOp_ (h A E s _ R T fun v s' t r => by
    change Rd _ _ _ _ at r
    cases r
    exact PySem.P.neg_int (q _ _ (t.trans (To.tok _ _)) (.int _ _)))
theorem Ev.powNeg {l r : Expr} {pos : Pos} {b : Int} (hl : Ev X k W ρ l (.dat (.int (-1)))) (hr : Ev X k W ρ r (.dat (.int b))) (hb : 0 ≤ b) : Ev X k W ρ (.BinOp l .Pow r pos) (.dat (.int (if b % 2 == 0 then 1 else -1))) :=
  Ev.binI hl hr fun A E s Q t u h => by
    by_cases h0 : b = 0
    · subst h0; exact AutoIntOps.pow_0 (by decide) (by decide) h
    · exact AutoIntOps.pow_2 hb (by simpa using h0) (by decide) (by decide) h
theorem Ev.pow {l r : Expr} {pos : Pos} {a b : Int} (hl : Ev X k W ρ l (.dat (.int a))) (hr : Ev X k W ρ r (.dat (.int b))) (hc0 : b ≥ 0) (hc1 : ¬(b == 0) = true) (hc2 : ¬(a == 0 || a == 1) = true) (hc3 : ¬(a == -1) = true)
    (hc4 : ¬Builtin.Int.intTooBig (((Builtin.Int.intBits a : Nat) : Int) * b) = true) : Ev X k W ρ (.BinOp l .Pow r pos) (.dat (.int (a ^ b.toNat))) :=
  Ev.binI hl hr fun A E s Q t u h => AutoIntOps.pow_4 hc0 hc1 hc2 hc3 hc4 h
theorem D.okMv {s s' : Shared} {v : Value} {W' : Own} {d : D} (T : Stt X W ρ s.heap) (m : Sv X [] s s') (r : d.ok (X.N W) s.heap v) : d.ok (X.N W) s'.heap v := D.ok.sv T m r

theorem Thru.aug {x : Str} {op : Operator} {e : Expr} {p pos : Pos} {a b d : PyData} (hx : (x, .dat a) ∈ ρ) (he : Ev X k W ρ e (.dat b)) (hk : Kn X.env x)
    (f : ∀ (A : Around) (E : Value → Shared → Prop) (s : Shared) (Q : Value → Shared → Prop) (u v : Value), Rd (X.N W) s.heap u a → Rd (X.N W) s.heap v b → (∀ x s', To s s' → Rd (X.N W) s'.heap x d → Q x s') → wpAny (mo X.w) A (inplaceOp op u v) Q E s) :
    Thru X k W ρ [.AugAssign (.Name x p) op e pos] (fun W' ρ' => W' = W ∧ ρ' = put x (.dat d) ρ) := fun A E s Q R T q => by
  obtain ⟨v, H, r⟩ := T.vars _ hx
  refine one (wpAny_AugAssign_Name ?_)
  have key : wpAny (mo X.w) A (eval e X.env) (fun u s₁ => wpAny (mo X.w) A (inplaceOp op v u) (fun new s₂ => wpAny (mo X.w) A (storeName X.env x new) (fun _ => Q .next) E s₂) E s₁) E s :=
    he A E s _ R T fun u s₁ t ru => f A E s₁ _ v u (Rd.keeps t.heap r) ru fun y s₂ t₂ ry =>
      Stt.store (d := .dat d) ((T.keeps t.heap).keeps t₂.heap) hk ry fun s₃ T₃ m₃ => q _ _ _ ⟨rfl, rfl⟩ T₃ ((Mv.ofTo (t.trans t₂)).trans m₃.mv)
  rcases H.how with ⟨a, m, b, c⟩ | ⟨a, c, b, e'⟩
  · exact wpAny_loadName_local T.en.2.2 a b c key
  · exact wpAny_loadName_cell T.en.2.2 a b e' key
theorem Thru.augI {x : Str} {e : Expr} {p pos : Pos} {a b : Int} (hx : ρ.lookup x = some (.dat (.int a))) (he : Ev X k W ρ e (.dat (.int b))) (hk : Kn X.env x) :
    Thru X k W ρ [.AugAssign (.Name x p) .Add e pos] (fun W' ρ' => W' = W ∧ ρ' = put x (.dat (.int (a + b))) ρ) :=
  Thru.aug (mem_of_lookupD hx) he hk fun A E s Q u v ru rv h => by
    cases ru; cases rv
    exact wpAny_iadd_int (h _ _ (To.tok _ _) (.int _ _))
theorem Thru.augS {x : Str} {e : Expr} {p pos : Pos} {a b : Str} (hx : ρ.lookup x = some (.dat (.str a))) (he : Ev X k W ρ e (.dat (.str b))) (hk : Kn X.env x) (hs : a.length + b.length ≤ sizeLine) :
    Thru X k W ρ [.AugAssign (.Name x p) .Add e pos] (fun W' ρ' => W' = W ∧ ρ' = put x (.dat (.str (a ++ b))) ρ) :=
  Thru.aug (mem_of_lookupD hx) he hk fun A E s Q u v ru rv h => by
    cases ru; cases rv
    exact wpAny_with_toks (Nat.le_refl _) (SB.iadd (fun t' k' hk => h _ _ (To.tok _ _ hk) (.str _ _)) hs)
/-- x, y = value -/
theorem Thru.two {x y : Str} {px py tpos pos : Pos} {kk : Nat} {e : Expr} {a b : PyData} (he : Ev X k W ρ e (.dat (.tuple [a, b]))) (hx : Kn X.env x) (hy : Kn X.env y)
    (hs : swapsWithSole [.Tuple [.Name x px, .Name y py] kk tpos] e pos.line X.env = pure false) (hw : swappedStores [.Tuple [.Name x px, .Name y py] kk tpos] e X.env = pure none) :
    Thru X k W ρ [.Assign [.Tuple [.Name x px, .Name y py] kk tpos] e pos] (fun W' ρ' => W' = W ∧ ρ' = put y (.dat b) (put x (.dat a) ρ)) := fun A E s Q R T q => by
  refine one (Assign_Tuple (he A E s _ R T fun v s₁ t r => ?_) hs hw)
  refine Stt.assignT (xs := [x, y]) (it := .two (.dat a) (.dat b)) (R.to t) (T.keeps t.heap) (.two hx hy) trivial ((Shp.two a b).ok r) fun s₂ T₂ m₂ => ?_
  exact q _ _ _ ⟨rfl, rfl⟩ T₂ ((Mv.ofTo t).trans m₂.mv)
theorem Thru.twoS {x y : Str} {px py tpos pos : Pos} {kk : Nat} {e : Expr} {a b : PyData} (he : Ev X k W ρ e (.dat (.tuple [a, b]))) (hx : Kn X.env x) (hy : Kn X.env y)
    (hs : swapsWithSole [.Tuple [.Name x px, .Name y py] kk tpos] e pos.line X.env = pure false) (hw : swappedStores [.Tuple [.Name x px, .Name y py] kk tpos] e X.env = pure (some [x, y])) :
    Thru X k W ρ [.Assign [.Tuple [.Name x px, .Name y py] kk tpos] e pos] (fun W' ρ' => W' = W ∧ ρ' = put x (.dat a) (put y (.dat b) ρ)) := fun A E s Q R T q => by
  refine one (Assign_Tuple_swapped (names := [x, y]) (he A E s _ R T fun v s₁ t r => ?_) hs hw)
  have T₁ := T.keeps t.heap
  obtain ⟨p, u, v', rfl, ht, ra, rb⟩ := (Shp.two a b).ok r
  refine wpAny_unpackItems_tuple (items := #[u, v']) R.handled ht fun h' he => ?_
  have t1 : To s₁ { s₁ with heap := h' } := ⟨h', s₁.toks, rfl, fun c o e => he c o (Nat.ne_of_lt (Heap.lt_size e)) e, Nat.le_refl _⟩
  have e1 : (List.map (fun n => bindName X.env n) [x, y].reverse) = [bindName X.env y, bindName X.env x] := rfl
  have e2 : (#[u, v'] : Array Value).toList.reverse = [v', u] := rfl
  rw [e1, e2]
  rw [inOrder_cons]
  refine wpAny_bind (wpAny_holding (wpAny_bindName ((T₁.keeps t1.heap).store hy (D.ok.keeps t1.heap rb) fun s₂ T₂ m₂ => ?_)))
  rw [inOrder_cons]
  refine wpAny_bind (wpAny_holding (wpAny_bindName (T₂.store hx (D.ok.sv (T₁.keeps t1.heap) m₂ (D.ok.keeps t1.heap ra)) fun s₃ T₃ m₃ => ?_)))
  rw [inOrder_nil]
  exact wpAny_pure (q _ _ _ ⟨rfl, rfl⟩ T₃ ((((Mv.ofTo t).trans (Mv.ofTo t1)).trans m₂.mv).trans m₃.mv))

-- lists of the frame's own
theorem ownAll {N M : Addr → Prop} {h h' : Heap} (hr : ∀ {v d}, Rd N h v d → Rd M h' v d) : ∀ {vs ds}, RdAll N h vs ds → RdAll M h' vs ds
  | _, _, .nil => .nil
  | _, _, .cons a b => .cons (hr a) (ownAll hr b)
/-- a new list becomes the frame's own -/
theorem Stt.adopt {h : Heap} {vs : List Value} {ds : List PyData} (T : Stt X W ρ h) (r : RdAll (X.N W) h vs ds) :
    Stt X ((h.objs.size, ds) :: W) ρ (h.push { cls := .type "list", data := .seq vs.toArray }) := by
  have kp := Kp.push h { cls := .type "list", data := .seq vs.toArray }
  have hm : ∀ a o vs n, X.N ((h.objs.size, ds) :: W) a → h.get? a = some o → o.data = .seq vs n → X.N W a := fun a o vs n q e _ => by
    rcases q with q | q
    · exact .inl q
    · rcases List.mem_cons.mp q with rfl | q
      · exact absurd (Heap.lt_size e) (Nat.lt_irrefl _)
      · exact .inr q
  have h0 : X.h₀.objs.size ≤ h.objs.size := by obtain ⟨m, q⟩ := T.loc; exact Nat.le_of_lt (Nat.lt_of_le_of_lt T.above q.lt)
  refine ⟨T.cx, (T.keeps kp).low, (T.keeps kp).keep, T.en, (T.keeps kp).loc, T.above, T.cab, (T.keeps kp).cel, T.apart, fun p hp => ?_, fun p hp => ?_⟩
  · rcases List.mem_cons.mp hp with rfl | hp
    · exact ⟨h0, vs.toArray, 0, Heap.get?_push_size _ rfl, (r.more hm).keeps kp⟩
    · obtain ⟨a, us, n, b, c⟩ := T.own p hp
      exact ⟨a, us, n, kp _ _ b, (c.more hm).keeps kp⟩
  · obtain ⟨v, H, q⟩ := T.vars p hp
    refine ⟨v, H.keeps kp, ?_⟩
    cases hd : p.2 with
    | val u => rw [hd] at q; exact q
    | dat d => rw [hd] at q; exact (Rd.more hm q).keeps kp
/-- x = [..]: a list that the frame will change -/
theorem Thru.own {x : Str} {es : List Expr} {p lp pos : Pos} {ds : List PyData} (he : EvAll X k W ρ es (ds.map .dat)) (hn : ds.length ≤ 1000) (hk : Kn X.env x) (hs : swapsWith (.List es lp) (some (.Name x p)) pos.line X.env = pure false) :
    Thru X k W ρ [.Assign [.Name x p] (.List es lp) pos] (fun W' ρ' => ∃ a, ¬ X.N W a ∧ W' = (a, ds) :: W ∧ ρ' = put x (.val (.ref a)) ρ) := fun A E s Q R T q => by
  refine one ?_
  rw [exec_Assign_Name _ _ _ _ _ hs]
  refine wpAny_bind (wpAny_standAt (wpAny_bind (List_ (he.spliced A E s _ R T fun vs s₁ t r => ?_))))
  have hl := r.length
  rw [List.length_map] at hl
  have T₁ := T.keeps t.heap
  refine wpAny_newObj_type (wpAny_bind (wpAny_standAt (wpAny_bind (wpAny_bindName ?_)))) (by show vs.toArray.size ≤ sizeLine; rw [List.size_toArray]; have : sizeLine = 2 ^ 24 := rfl; omega)
  have T₂ := T₁.adopt r.rd
  refine Stt.store (s := { s₁ with heap := s₁.heap.push { cls := .type "list", data := .seq vs.toArray } }) (d := .val (.ref s₁.heap.objs.size)) T₂ hk rfl fun s₃ T₃ m₃ => wpAny_pure (q _ _ s₃ ⟨_, T₁.fresh (fun _ _ e => e), rfl, rfl⟩ T₃ ?_)
  have m1 : Mv X W ((s₁.heap.objs.size, ds) :: W) s { s₁ with heap := s₁.heap.push { cls := .type "list", data := .seq vs.toArray } } := by
    refine ⟨let ⟨a, b, c, _, d⟩ := t.trans (To.push _ _); ⟨a, b, c, d⟩, fun b o _ e => (t.trans (To.push _ _)).heap b o e, fun b q => ?_⟩
    rcases List.mem_cons.mp q with rfl | q
    · exact .inr ⟨get_none_kp t.heap (get_none (Nat.le_refl _)), fun q => T₁.newNotT (Nat.le_refl _) q.any⟩
    · exact .inl q
  exact m1.trans m₃.mv
/-- the list's own address, and what a change there keeps -/
theorem Stt.ownPut {h h' : Heap} {a : Addr} {ds ds' : List PyData} {vs' : Array Value} {n' : Nat} (T : Stt X ((a, ds) :: W) ρ h) (hna : a ∉ W.map (·.1)) (hs : Heap.SameBut a h h') (hl : IsL h' a vs' n') (hr : RdAll (X.N ((a, ds) :: W)) h vs'.toList ds') : Stt X ((a, ds') :: W) ρ h' := by
  obtain ⟨ha, vs, n, hb, hc⟩ := T.own (a, ds) List.mem_cons_self
  have hN : ∀ b, X.N ((a, ds') :: W) b → X.N ((a, ds) :: W) b := fun b q => q
  have kq : ∀ b o vs n, h.get? b = some o → o.data = .seq vs n → ¬ X.N ((a, ds) :: W) b → h'.get? b = some o := fun b o vs n e hd hn => hs.extBut b o (fun q => hn (q ▸ .inr (by simp))) e
  have kr : ∀ {v d}, Rd (X.N ((a, ds) :: W)) h v d → Rd (X.N ((a, ds') :: W)) h' v d := fun r => r.keepOn hN kq
  have nl : X.env.locals ≠ a := fun q => by obtain ⟨m, hm⟩ := T.loc; exact Ns_ne_seq hm hb rfl q
  have nc : ∀ {x c}, X.env.cells.lookup x = some c → c ≠ a := fun e q => by obtain ⟨v, hc⟩ := T.cel _ _ e; exact cell_ne_seq hc hb rfl q
  have hlow : ∀ b, X.N₀ b → b < X.h₀.objs.size ∨ ∃ o, h'.get? b = some o := fun b q => (T.low b q).imp id fun ⟨o, e⟩ => by
    by_cases hq : b = a
    · subst hq; exact ⟨_, hl⟩
    · exact ⟨o, hs.extBut b o hq e⟩
  refine ⟨T.cx, hlow, fun b o e => hs.extBut b o (fun q => by have := Heap.lt_size e; rw [q] at this; exact Nat.lt_irrefl _ (Nat.lt_of_lt_of_le this ha)) (T.keep b o e), T.en, ?_, T.above, T.cab, fun x c e => ?_, T.apart, fun p hp => ?_, fun p hp => ?_⟩
  · obtain ⟨m, q⟩ := T.loc; exact ⟨m, q.sameBut hs nl⟩
  · obtain ⟨v, q⟩ := T.cel x c e; exact ⟨v, q.sameBut hs (nc e)⟩
  · rcases List.mem_cons.mp hp with rfl | hp
    · exact ⟨ha, vs', n', hl, ownAll kr hr⟩
    · obtain ⟨h1, us, m, h2, h3⟩ := T.own p (List.mem_cons_of_mem _ hp)
      exact ⟨h1, us, m, hs.extBut _ _ (fun q => hna (List.mem_map.mpr ⟨p, hp, q⟩)) h2, ownAll kr h3⟩
  · obtain ⟨v, H, r⟩ := T.vars p hp
    refine ⟨v, ⟨?_⟩, ?_⟩
    · rcases H.how with ⟨x, m, y, z⟩ | ⟨x, c, y, z⟩
      · exact .inl ⟨x, m, y.sameBut hs nl, z⟩
      · exact .inr ⟨x, c, y, z.sameBut hs (nc y)⟩
    · cases hd : p.2 with
      | val u => rw [hd] at r; exact r
      | dat d => rw [hd] at r; exact kr r
theorem ownMv {s s' : Shared} {a : Addr} {ds ds' : List PyData} {h' : Heap} (e : s' = { s with heap := h' }) (hs : Heap.SameBut a s.heap h') : Mv X ((a, ds) :: W) ((a, ds') :: W) s s' := by
  subst e
  exact ⟨⟨h', s.toks, rfl, Nat.le_refl _⟩, fun b o hb e => hs.extBut b o (fun q => hb (.inr (.inr (q ▸ by simp)))) e, fun b q => .inl (by simpa using q)⟩
/-- x.append(e) -/
theorem Thru.append {x : Str} {e : Expr} {np apos cpos pos : Pos} {a : Addr} {ds : List PyData} {d : PyData} (hx : (x, D.val (.ref a)) ∈ ρ) (hxd : (x == ("__debug__" : Str)) = false) (he : Ev X k ((a, ds) :: W) ρ e (.dat d)) (hna : a ∉ W.map (·.1)) (hn : ds.length ≤ 100000)
    (hbase : attributeBase (.Name x np) "append" X.env (eval (.Name x np) X.env) = eval (.Name x np) X.env) (hline : (apos.endLine == cpos.line) = true) (hse : starEach [e] X.env = [(false, eval e X.env)])
    (hi : interactive X.env = false) (hsw : swapsWith (.Call (.Attribute (.Name x np) "append" apos) [e] [] cpos) none pos.line X.env = pure false) :
    Thru X k ((a, ds) :: W) ρ [.Expr (.Call (.Attribute (.Name x np) "append" apos) [e] [] cpos) pos] (fun W' ρ' => W' = (a, ds ++ [d]) :: W ∧ ρ' = ρ) := fun A E s Q R T q => by
  refine one (wpAny_Expr_any ?_ hi hsw)
  have hn2 : Ev X k ((a, ds) :: W) ρ (.Name x np) (.val (.ref a)) := Ev.nameIn hx hxd
  refine wpAny_Call_append hbase (by rw [hse]; rfl) hline (by rw [hse]; rfl) (hn2 A E s _ R T fun v s₁ t r => ?_)
  obtain rfl : v = .ref a := r
  have T₁ := T.keeps t.heap
  obtain ⟨ha, vs, n, hb, hc⟩ := T₁.own (a, ds) List.mem_cons_self
  refine ⟨a, vs, rfl, ⟨_, n, hb, rfl, rfl, rfl⟩, he A E s₁ _ (R.to t) T₁ fun y s₂ t₂ ry => ?_⟩
  have T₂ := T₁.keeps t₂.heap
  obtain ⟨ha, vs, n, hb, hc⟩ := T₂.own (a, ds) List.mem_cons_self
  have hl := hc.length
  rw [Array.length_toList] at hl
  refine wpAny_list_append_plain (hsz := by have : sizeLine = 2 ^ 24 := rfl; simp only at hl; omega) ⟨n, hb⟩ fun h' ⟨n', hl'⟩ hs => ?_
  refine q _ _ _ ⟨rfl, rfl⟩ (T₂.ownPut (ds' := ds ++ [d]) hna hs hl' ?_) (((Mv.ofTo (t.trans t₂))).trans (ownMv rfl hs))
  rw [Array.toList_push]
  exact hc.append (.cons ry .nil)
/-- the list is changed no more: it is a datum -/
theorem Stt.freeze {h : Heap} {x : Str} {a : Addr} {ds : List PyData} (T : Stt X ((a, ds) :: W) ρ h) (hx : (x, D.val (.ref a)) ∈ ρ) (hna : ¬ X.N W a) : Stt X W (put x (.dat (.list ds)) ρ) h := by
  have hN : ∀ b, X.N W b → X.N ((a, ds) :: W) b := fun b q => q.imp id fun q => List.mem_cons_of_mem _ q
  refine { T with own := fun p hp => ?_, vars := fun p hp => ?_ }
  · obtain ⟨h1, us, m, h2, h3⟩ := T.own p (List.mem_cons_of_mem _ hp)
    exact ⟨h1, us, m, h2, h3.less hN⟩
  · rcases List.mem_cons.mp hp with rfl | hp
    · obtain ⟨v, H, r⟩ := T.vars _ hx
      obtain rfl : v = .ref a := r
      obtain ⟨h1, us, m, h2, h3⟩ := T.own (a, ds) List.mem_cons_self
      exact ⟨_, H, Rd.list h2 hna (h3.less hN)⟩
    · obtain ⟨hp, _⟩ := List.mem_filter.mp hp
      obtain ⟨v, H, r⟩ := T.vars p hp
      refine ⟨v, H, ?_⟩
      cases hd : p.2 with
      | val u => rw [hd] at r; exact r
      | dat d => rw [hd] at r; exact Rd.less hN r
theorem Thru.freeze {x : Str} {a : Addr} {ds : List PyData} (hx : (x, D.val (.ref a)) ∈ ρ) (hna : ¬ X.N W a) : Thru X k ((a, ds) :: W) ρ [] (fun W' ρ' => W' = W ∧ ρ' = put x (.dat (.list ds)) ρ) := fun A E s Q R T q =>
  wpAny_execs_nil (q _ _ _ ⟨rfl, rfl⟩ (T.freeze hx hna) ⟨⟨s.heap, s.toks, by cases s; rfl, Nat.le_refl _⟩, fun _ _ _ e => e, fun b q => .inl (List.mem_cons_of_mem _ q)⟩)
theorem Bk.freeze {x : Str} {a : Addr} {ds : List PyData} {ss : List Stmt} {d : PyData} (hx : (x, D.val (.ref a)) ∈ ρ) (hna : ¬ X.N W a) (h : Bk X k W (put x (.dat (.list ds)) ρ) ss d) : Bk X k ((a, ds) :: W) ρ ss d :=
  Bk.seq (a := []) (Thru.freeze hx hna) fun W' ρ' ⟨e1, e2⟩ => by subst e1 e2; exact h
end
end Mine
end
section
open PySem PySem.W PyProof.Rows PySem.Builtin PySem.Builtin.Str
namespace Mine
section
variable {X : Fx} {k : Nat} {W : Own} {ρ : Vars} {A : Around} {E : Value → Shared → Prop} {s : Shared}

/-- enumerate over a list -/
noncomputable def enumT : Nat → List PyData → List Tn
  | _, [] => []
  | n, d :: ds => .two (.dat (.int (n : Nat))) (.dat d) :: enumT (n + 1) ds
theorem enumT_length : ∀ (ds : List PyData) (n : Nat), (enumT n ds).length = ds.length
  | [], _ => rfl
  | _ :: ds, n => congrArg (· + 1) (enumT_length ds (n + 1))
theorem enumT_get : ∀ (ds : List PyData) (n i : Nat) {it : Tn}, (enumT n ds)[i]? = some it → ∃ d, ds[i]? = some d ∧ it = .two (.dat (.int ((n + i : Nat) : Int))) (.dat d)
  | [], _, _, _, h => by simp [enumT] at h
  | d :: ds, n, 0, it, h => by cases h; exact ⟨d, rfl, rfl⟩
  | _ :: ds, n, i + 1, it, h => by
    obtain ⟨d, h1, h2⟩ := enumT_get ds (n + 1) i h
    exact ⟨d, h1, by rw [h2]; congr 4; omega⟩
theorem Itr.enum {x : Str} {p pos tp : Pos} {elts : List Expr} {kk : Nat} {es : List Expr} {ds : List PyData} (hf : Ev X k W ρ (.Name x p) (.val (.type "enumerate"))) (ha : EvAll X k W ρ es [.dat (.list ds)]) :
    Itr X k W ρ (.Tuple elts kk tp) (.Call (.Name x p) es [] pos) (enumT 0 ds) := fun A E s Q R T h => by
  refine wpAny_Call_NameR (hf A E s _ R T fun v s₁ t r => ?_)
  obtain rfl : v = .type "enumerate" := r
  have T₁ := T.keeps t.heap
  refine PyProof.Rows.callWith_type ha.plain (ha.args A E s₁ _ (R.to t) T₁ fun vs s₂ t₂ r₂ => ?_)
  cases r₂ with
  | cons r₂ q =>
    cases q
    change Rd _ _ _ _ at r₂
    cases r₂ with
    | @list l us n _ p1 p2 p3 =>
      have T₂ := T₁.keeps t₂.heap
      have hl : s₂.heap.IsList l us := ⟨_, p1, rfl, n, rfl⟩
      have hlt : l < s₂.heap.objs.size := Heap.lt_size p1
      have hlen := p3.length
      rw [Array.length_toList] at hlen
      show wpAny _ A (PySem.call (.type "enumerate") [.ref l] []) _ E s₂
      refine call_enumerate_list hl fun h' hE hI hsz hk => ?_
      refine wpAny_pyIter_enum hE ?_
      have W₀ := WalksT.enumerate (prog := pw) (w := X.w) (A := A) R.handled (s₂.heap.objs.size + 1) s₂.heap.objs.size l (Nat.succ_ne_self _) (ktu_ne 1 hlt) (Nat.ne_of_lt hlt) us
      have hn : us.size = (enumT 0 ds).length := by rw [hlen, enumT_length]
      rw [hn] at W₀
      have fresh : ∀ b : Nat, s₂.heap.objs.size ≤ b → s.heap.get? b = none := fun b hb => get_none_kp t.heap (get_none_kp t₂.heap (get_none hb))
      have cases2 : ∀ {b : Addr}, b ∈ [s₂.heap.objs.size + 1, s₂.heap.objs.size] → s₂.heap.objs.size ≤ b ∧ (b = s₂.heap.objs.size + 1 ∨ b = s₂.heap.objs.size) := fun {b} hb => by
        rcases List.mem_cons.mp hb with e | hb
        · exact ⟨e ▸ Nat.le_succ _, .inl e⟩
        · exact ⟨Nat.le_of_eq (List.mem_singleton.mp hb).symm, .inr (List.mem_singleton.mp hb)⟩
      refine h _ _ _ _ _ _ { s₂ with heap := h' } ((t.trans t₂).trans ⟨h', s₂.toks, rfl, hk, Nat.le_refl _⟩) (KTurns.ofWalksU (elts := elts) (k := kk) (pos := tp) W₀.toU) ⟨⟨.none, hE⟩, hI, hl.at fun o e => hk l o e⟩
        (fun b hb => fresh b (cases2 hb).1) (fun b hb => ?_) (fun i h st b hb => ?_) (fun i it e v h2 N' hN kp hP => ?_) (fun A' E s Q st hQ => by obtain ⟨⟨old, he⟩, _⟩ := st; exact wpAny_pyIter_enum he hQ)
      · rcases List.mem_cons.mp hb with rfl | hb
        · exact ⟨⟨_, hE⟩, T₂.newNotT (Nat.le_succ _)⟩
        · rcases List.mem_cons.mp hb with rfl | hb
          · obtain ⟨o, e, _⟩ := hI; exact ⟨⟨o, e⟩, T₂.newNotT (Nat.le_refl _)⟩
          · rw [List.mem_singleton.mp hb]; exact ⟨⟨_, hk _ _ p1⟩, T₂.seqNotT p1 rfl p2⟩
      · obtain ⟨⟨old, he⟩, ⟨o, e, _⟩, _⟩ := st
        rcases (cases2 hb).2 with rfl | rfl
        · exact ⟨_, he⟩
        · exact ⟨o, e⟩
      · obtain ⟨T', vals, rfl, ⟨tv, y, hy, rfl⟩, hT⟩ := hP
        obtain ⟨d, hd, rfl⟩ := enumT_get ds 0 i e
        obtain ⟨u, hu, ru⟩ := p3.get i hd
        rw [Array.getElem?_toList] at hu
        rw [hu] at hy
        obtain rfl := Option.some.inj hy
        refine ⟨T', _, _, rfl, hT, ?_, ?_⟩
        · show Rd _ _ _ _
          rw [Nat.zero_add]; exact .int _ _
        · exact Stt.carry T₂ (fun b hb => get_none (cases2 hb).1) hk hN kp ru
/-- zip over two lists -/
noncomputable def zipT : List PyData → List PyData → List Tn
  | d :: ds, e :: es => .two (.dat d) (.dat e) :: zipT ds es
  | _, _ => []
theorem zipT_length : ∀ (ds es : List PyData), (zipT ds es).length = min ds.length es.length
  | [], es => by simp [zipT]
  | _ :: _, [] => by simp [zipT]
  | _ :: ds, _ :: es => by simp [zipT, zipT_length ds es]
theorem zipT_get : ∀ (ds es : List PyData) (i : Nat) {it : Tn}, (zipT ds es)[i]? = some it → ∃ d e, ds[i]? = some d ∧ es[i]? = some e ∧ it = .two (.dat d) (.dat e)
  | [], _, _, _, h => by simp [zipT] at h
  | _ :: _, [], _, _, h => by simp [zipT] at h
  | d :: ds, e :: es, 0, it, h => by cases h; exact ⟨d, e, rfl, rfl, rfl⟩
  | _ :: ds, _ :: es, i + 1, it, h => zipT_get ds es i h
theorem Itr.zip {x : Str} {p pos tp : Pos} {elts : List Expr} {kk : Nat} {es : List Expr} {ds fs : List PyData} (hf : Ev X k W ρ (.Name x p) (.val (.type "zip"))) (ha : EvAll X k W ρ es [.dat (.list ds), .dat (.list fs)]) :
    Itr X k W ρ (.Tuple elts kk tp) (.Call (.Name x p) es [] pos) (zipT ds fs) := fun A E s Q R T h => by
  refine wpAny_Call_NameR (hf A E s _ R T fun v s₁ t r => ?_)
  obtain rfl : v = .type "zip" := r
  have T₁ := T.keeps t.heap
  refine PyProof.Rows.callWith_type ha.plain (ha.args A E s₁ _ (R.to t) T₁ fun vs s₂ t₂ r₂ => ?_)
  cases r₂ with
  | cons r₂ q =>
    cases q with
    | cons r₃ q =>
    cases q
    change Rd _ _ _ _ at r₂ r₃
    cases r₂ with
    | @list l us n _ p1 p2 p3 =>
    cases r₃ with
    | @list l' us' n' _ p1' p2' p3' =>
      have T₂ := T₁.keeps t₂.heap
      have hl : s₂.heap.IsList l us := ⟨_, p1, rfl, n, rfl⟩
      have hl' : s₂.heap.IsList l' us' := ⟨_, p1', rfl, n', rfl⟩
      have hlt : l < s₂.heap.objs.size := Heap.lt_size p1
      have hlt' : l' < s₂.heap.objs.size := Heap.lt_size p1'
      have hlen := p3.length
      have hlen' := p3'.length
      rw [Array.length_toList] at hlen hlen'
      show wpAny _ A (PySem.call (.type "zip") [.ref l, .ref l'] []) _ E s₂
      refine call_zip_2 hl hl' fun h' hz hTI hTO hi1 hi2 hsz hk => ?_
      refine wpAny_pyIter_zip hz ?_
      have W₀ := WalksT.zip2 (prog := pw) (w := X.w) (A := A) R.handled _ _ _ _ _ _ _ (ktu_apart s₂.heap.objs.size l l' hlt hlt') us us'
      have hn : min us.size us'.size = (zipT ds fs).length := by rw [hlen, hlen', zipT_length]
      rw [hn] at W₀
      generalize hS : s₂.heap.objs.size = S at *
      have fresh2 : ∀ b : Nat, S ≤ b → s₂.heap.get? b = none := fun b hb => get_none (hS ▸ hb)
      have fresh : ∀ b : Nat, S ≤ b → s.heap.get? b = none := fun b hb => get_none_kp t.heap (get_none_kp t₂.heap (fresh2 b hb))
      have nT : ∀ b : Nat, S ≤ b → ¬ X.T W b := fun b hb => T₂.newNotT (hS ▸ hb)
      have cases4 : ∀ {b : Addr}, b ∈ [S + 4, S + 3, S, S + 1] → S ≤ b ∧ (b = S + 4 ∨ b = S + 3 ∨ b = S ∨ b = S + 1) := fun {b} hb => by
        have hb' : b = S + 4 ∨ b = S + 3 ∨ b = S ∨ b = S + 1 := by simpa using hb
        refine ⟨?_, hb'⟩
        rcases hb' with rfl | rfl | rfl | rfl <;> omega
      refine h _ _ _ _ _ _ { s₂ with heap := h' } ((t.trans t₂).trans ⟨h', s₂.toks, rfl, hk, Nat.le_refl _⟩) (KTurns.ofWalksU (elts := elts) (k := kk) (pos := tp) W₀.toU) ⟨hz, hTI, ⟨_, _, hTO⟩, hi1, hi2, hl.at fun o e => hk l o e, hl'.at fun o e => hk l' o e⟩
        (fun b hb => fresh b (cases4 hb).1) (fun b hb => ?_) (fun i h st b hb => ?_) (fun i it e v h2 N' hN kp hP => ?_) (fun A' E s Q st hQ => wpAny_pyIter_zip st.1 hQ)
      · have hb' : b = S + 4 ∨ b = S + 2 ∨ b = S + 3 ∨ b = S ∨ b = S + 1 ∨ b = l ∨ b = l' := by simpa using hb
        rcases hb' with rfl | rfl | rfl | rfl | rfl | rfl | rfl
        · exact ⟨⟨_, hz⟩, nT _ (by omega)⟩
        · exact ⟨⟨_, hTI⟩, nT _ (by omega)⟩
        · exact ⟨⟨_, hTO⟩, nT _ (by omega)⟩
        · obtain ⟨o, e, _⟩ := hi1; exact ⟨⟨o, e⟩, nT _ (Nat.le_refl _)⟩
        · obtain ⟨o, e, _⟩ := hi2; exact ⟨⟨o, e⟩, nT _ (by omega)⟩
        · exact ⟨⟨_, hk _ _ p1⟩, T₂.seqNotT p1 rfl p2⟩
        · exact ⟨⟨_, hk _ _ p1'⟩, T₂.seqNotT p1' rfl p2'⟩
      · obtain ⟨z1, z2, ⟨a, b, z3⟩, ⟨o1, e1, _⟩, ⟨o2, e2, _⟩, _⟩ := st
        rcases (cases4 hb).2 with rfl | rfl | rfl | rfl
        · exact ⟨_, z1⟩
        · exact ⟨_, z3⟩
        · exact ⟨_, e1⟩
        · exact ⟨_, e2⟩
      · obtain ⟨T', vals, rfl, ⟨x1, y1, hx1, hy1, rfl⟩, hT⟩ := hP
        obtain ⟨d, f, hd, hf', rfl⟩ := zipT_get ds fs i e
        obtain ⟨u, hu, ru⟩ := p3.get i hd
        obtain ⟨u', hu', ru'⟩ := p3'.get i hf'
        rw [Array.getElem?_toList] at hu hu'
        rw [hu] at hx1
        rw [hu'] at hy1
        obtain rfl := Option.some.inj hx1
        obtain rfl := Option.some.inj hy1
        exact ⟨T', _, _, rfl, hT, Stt.carry T₂ (fun b hb => fresh2 b (cases4 hb).1) hk hN kp ru, Stt.carry T₂ (fun b hb => fresh2 b (cases4 hb).1) hk hN kp ru'⟩
/-- the signs of a str -/
noncomputable def signsT (x : Str) : List Tn := x.cps.toList.map fun c => .one (.dat (.str ⟨#[c]⟩))
theorem Itr.str {iter : Expr} {nx : Str} {px : Pos} {x : Str} (he : Ev X k W ρ iter (.dat (.str x))) : Itr X k W ρ (.Name nx px) iter (signsT x) := fun A E s Q R T h =>
  he A E s _ R T fun v s₁ t r => by
    have T₁ := T.keeps t.heap
    change Rd _ _ _ _ at r
    cases r with
    | str _ tx =>
      have go : ∀ (cls : String) (o : Obj) (hfr : o.isFreed = false), (h2 : Walks pw X.w A s₁.heap.objs.size [s₁.heap.objs.size] [s₁.heap.objs.size] x.cps.size (SignAt x) (fun i h => h.IsStrIter s₁.heap.objs.size cls x tx i)) →
          ((s₁.heap.push o).IsStrIter s₁.heap.objs.size cls x tx 0) → (∀ (A' : Around) (E : Value → Shared → Prop) (s : Shared) (Q : Value → Shared → Prop), s.heap.IsStrIter s₁.heap.objs.size cls x tx 0 → Q (.ref s₁.heap.objs.size) s → wpAny (mo X.w) A' (pyIter (.ref s₁.heap.objs.size)) Q E s) → Q (.ref s₁.heap.objs.size) { s₁ with heap := s₁.heap.push o } := fun cls o hfr W₀ st0 hself => by
        have hlen : x.cps.size = (signsT x).length := by simp [signsT]
        rw [hlen] at W₀
        have hI := Heap.get?_push_size s₁.heap (o := o) hfr
        refine h _ _ _ _ _ _ _ (t.trans (To.push _ _)) (KTurns.ofWalks (target := .Name nx px) W₀ fun i v s Q E st hQ => wpAny_pure hQ) st0 (fun b hb => ?_) (fun b hb => ?_) (fun i h st b hb => ?_) (fun i it e v h' N' hN hk hP => ?_) hself
        · rw [List.mem_singleton.mp hb]
          exact get_none_kp t.heap (get_none (Nat.le_refl _))
        · rw [List.mem_singleton.mp hb]
          exact ⟨⟨_, hI⟩, T₁.newNotT (Nat.le_refl _)⟩
        · rw [List.mem_singleton.mp hb]
          obtain ⟨o, e, _⟩ := st; exact ⟨o, e⟩
        · obtain ⟨c, u, hc, rfl⟩ : ∃ c u, x.cps[i]? = some c ∧ v = .str ⟨#[c]⟩ u := hP
          have q : (signsT x)[i]? = some (Tn.one (.dat (.str ⟨#[c]⟩))) := by simp [signsT, hc]
          rw [q] at e; cases e
          exact Rd.str _ _
      cases ha : x.cps.all (· < 128)
      · exact wpAny_pyIter_wide ha (go _ _ rfl (Walks.strWide R.handled _ x tx) ⟨_, Heap.get?_push_size _ rfl, rfl, rfl⟩ fun A' E s Q st hQ => wpAny_pyIter_striter_wide st hQ)
      · exact wpAny_pyIter_ascii ha (go _ _ rfl (Walks.strAscii R.handled _ x tx) ⟨_, Heap.get?_push_size _ rfl, rfl, rfl⟩ fun A' E s Q st hQ => wpAny_pyIter_striter_ascii st hQ)
end
end Mine
end
section
open PySem PySem.W PyProof.Rows PySem.Builtin PySem.Builtin.Str
namespace Mine
section
variable {X : Fx} {k : Nat} {W : Own} {ρ : Vars} {A : Around} {E : Value → Shared → Prop} {s : Shared}

theorem RdAll.countP {N : Addr → Prop} {h : Heap} {vs : List Value} {ds : List PyData} {x : PyData} (r : RdAll N h vs ds) : vs.countP (fun y => PyData.eqv (datOf N h y) x) = ds.countP fun y => PyData.eqv y x := by
  rw [← r.dats, List.countP_map]; rfl
theorem Ev.countL {o e : Expr} {apos pos : Pos} {xs : List PyData} {x : PyData} (ho : Ev X k W ρ o (.dat (.list xs))) (he : EvAll X k W ρ [e] [.dat x]) (hbase : attributeBase o "count" X.env (eval o X.env) = eval o X.env) (hline : (apos.endLine == pos.line) = true)
    (hx : x.canLay0 = true) (hy : PyData.canLayAll0 xs = true) (hd : x.depth ≤ 16) :
    Ev X k W ρ (.Call (.Attribute o "count" apos) [e] [] pos) (.dat (.int (xs.countP (fun y => PyData.eqv y x) : Nat))) :=
  Ev.methR ho hbase (by simp) hline F.plainAttrs_list F.slot_list_count F.type_list_count listT he fun A E s Q v vs R T r r' h => by
    cases r with
    | @list p us n _ p1 p2 p3 =>
    cases r' with
    | cons ry q =>
      cases q
      change Rd _ _ _ _ at ry
      refine call_meets F.slot_list_count ⟨_, p1, rfl⟩ F.entry_list_count (F.args_list_count_2 _ _) (SeqAt.list_countAt p us n none #[] _ (fun y => PyData.eqv (datOf (X.N W) s.heap y) x)) ⟨p1, fun y hm => ?_, ?_⟩
      · obtain ⟨d, h1, h2⟩ := p3.mem (Array.mem_toList_iff.mpr hm)
        exact eqAtD (by have := R.units; omega) ry h2 hx (canLayAll0_mem hy h1) hd
      · rw [p3.countP]; exact h _ _ (To.tok _ _) (.int _ _)
theorem Ev.indexL {o e : Expr} {apos pos : Pos} {xs : List PyData} {x : PyData} {j : Nat} (ho : Ev X k W ρ o (.dat (.list xs))) (he : EvAll X k W ρ [e] [.dat x]) (hbase : attributeBase o "index" X.env (eval o X.env) = eval o X.env) (hline : (apos.endLine == pos.line) = true)
    (hx : x.canLay0 = true) (hy : PyData.canLayAll0 xs = true) (hd : x.depth ≤ 16) (hn : xs.length ≤ 100000) (hj : j < xs.length) (hit : PyData.eqv xs[j] x = true) (hno : ∀ m (hm : m < xs.length), m < j → PyData.eqv xs[m] x = false) :
    Ev X k W ρ (.Call (.Attribute o "index" apos) [e] [] pos) (.dat (.int (j : Nat))) :=
  Ev.methR ho hbase (by simp) hline F.plainAttrs_list F.slot_list_index F.type_list_index listT he fun A E s Q v vs R T r r' h => by
    cases r with
    | @list p us n _ p1 p2 p3 =>
    cases r' with
    | cons ry q =>
      cases q
      change Rd _ _ _ _ at ry
      have hl := p3.length
      rw [Array.length_toList] at hl
      have at_ : ∀ m (hm : m < us.size) (hm' : m < xs.length), datOf (X.N W) s.heap us[m] = xs[m] := fun m hm hm' => by
        obtain ⟨u, hu, ru⟩ := p3.get m (List.getElem?_eq_getElem hm')
        rw [Array.getElem?_toList, Array.getElem?_eq_getElem hm] at hu
        rw [Option.some.inj hu]; exact datOf_eq ru
      refine call_meets F.slot_list_index ⟨_, p1, rfl⟩ F.entry_list_index (F.args_list_index_2 _ _) (SeqAt.list_indexAt p us n none #[] _ (fun y => PyData.eqv (datOf (X.N W) s.heap y) x) j (by omega) (by omega) ?_ fun m hm hmj => ?_) ⟨p1, fun y hm => ?_, ?_⟩
      · rw [at_ j (by omega) hj]; exact hit
      · rw [at_ m hm (by omega)]; exact hno m (by omega) hmj
      · obtain ⟨d, h1, h2⟩ := p3.mem (Array.mem_toList_iff.mpr hm)
        exact eqAtD (by have := R.units; omega) ry h2 hx (canLayAll0_mem hy h1) hd
      · exact h _ _ (To.tok _ _) (.int _ _)
theorem ints_of {N : Addr → Prop} {h : Heap} : ∀ {ns : List Int} {vs : List Value}, RdAll N h vs (ns.map .int) → ∃ l : List (Int × Tok), vs = l.map (fun p => .int p.1 p.2) ∧ l.map (·.1) = ns
  | [], _, .nil => ⟨[], rfl, rfl⟩
  | s :: r, _, .cons a b => by
    cases a with
    | int _ t =>
      obtain ⟨l, e1, e2⟩ := ints_of b
      exact ⟨(s, t) :: l, by rw [e1]; rfl, by rw [List.map_cons, e2]⟩
theorem Cn.sum {w : World} {ns : List Int} : Cn w k (.builtin "sum") [.dat (.list (ns.map .int))] (.dat (.int ns.sum)) := fun A E s Q N R C hN vs r h => by
  cases r with
  | cons r q =>
    cases q
    change Rd _ _ _ _ at r
    cases r with
    | @list p us n _ p1 p2 p3 =>
      obtain ⟨l, e1, e2⟩ := ints_of p3
      have hus : us = intItems l.toArray := by
        rw [show us = us.toList.toArray by simp, e1]; simp [intItems]
      refine wpAny_with_toks (Nat.le_refl _) (sum_intListG (xs := l.toArray) R.handled ⟨_, p1, rfl, n, by rw [hus]⟩ fun h' tk t' hk htk => ?_)
      rw [preSum_eq, List.take_of_length_le (by simp)]
      have e3 : (l.toArray.toList.map (·.1)).sum = ns.sum := by rw [← e2]
      rw [e3]
      exact h _ _ (To.mk hk htk) (.int _ _)
theorem strsAre_of {N : Addr → Prop} {h : Heap} : ∀ {ss : List Str} {vs : List Value}, RdAll N h vs (ss.map .str) → StrsAre vs ss
  | [], _, .nil => .nil
  | _ :: _, _, .cons (.str _ t) b => .cons _ t (strsAre_of b)
theorem strsAre_rd {N : Addr → Prop} {h : Heap} : ∀ {ss : List Str} {vs : List Value}, StrsAre vs ss → RdAll N h vs (ss.map .str)
  | _, _, .nil => .nil
  | _, _, .cons y t b => .cons (.str y t) (strsAre_rd b)
theorem Cn.sorted {w : World} {ss rs : List Str} (h64 : ss.length < 64) (hu : ∀ ss' : List Str, ss'.Perm ss → sortedS ss' = true → ss' = rs) : Cn w k (.builtin "sorted") [.dat (.list (ss.map .str))] (.dat (.list (rs.map .str))) := fun A E s Q N R C hN vs r h => by
  cases r with
  | cons r q =>
    cases q
    change Rd _ _ _ _ at r
    cases r with
    | @list p us n _ p1 p2 p3 =>
      have hl := p3.length
      rw [List.length_map] at hl
      refine sorted_strs (l := p) (vs := us.toList) (ss := ss) ⟨_, p1, rfl, n, by simp⟩ (strsAre_of p3) (by rw [hl]; exact h64) fun out ss' h1 h2 h3 => ?_
      obtain rfl := hu ss' h2 h3
      obtain ⟨e, he⟩ := sortedAll_at s.heap us.toList out
      refine h _ _ ⟨_, s.toks, rfl, fun _ _ e => sortedAll_old e, Nat.le_refl _⟩ (Rd.list he (fun q => ?_) (strsAre_rd h1))
      exact Nat.lt_irrefl _ (Nat.lt_trans (hN _ q) (Nat.lt_succ_self _))
/-- try without a raise -/
theorem Bk.try {body : List Stmt} {h₀ : ExceptHandler} {hs : List ExceptHandler} {pos : Pos} {rest : List Stmt} {d : PyData} (h : Bk X k W ρ body d) : Bk X k W ρ (.Try body (h₀ :: hs) [] [] pos :: rest) d := fun A E s Q R T q =>
  wpAny_execs_cons (wpAny_Try_except (h A _ s _ R T q))
end
end Mine
end
section
open PySem PySem.W PyProof.Rows PySem.Builtin PySem.Builtin.Str
namespace Mine
section
variable {X : Fx} {k : Nat} {W : Own} {ρ : Vars} {A : Around} {E : Value → Shared → Prop} {s : Shared}

theorem seqIndex_pos {i : Int} {n j : Nat} (h0 : 0 ≤ i) (hj : seqIndex? i n = some j) : j = i.toNat := by
  unfold seqIndex? at hj
  have hn : ¬ (i < 0) := Int.not_lt.mpr h0
  simp only [hn, if_false] at hj
  split at hj
  · exact (Option.some.inj hj).symm
  · cases hj
theorem getItem_any {N : Addr → Prop} {w : World} {p : Addr} {vs : Array Value} {n : Nat} {xs : List PyData} {i : Int} {t : Tok} {j : Nat} {d : PyData} {Q : Value → Shared → Prop} (p1 : IsL s.heap p vs n) (p3 : RdAll N s.heap vs.toList xs) (hlo : -(2 ^ 63) ≤ i) (hhi : i < 2 ^ 63)
    (hj : seqIndex? i xs.length = some j) (hx : xs[j]? = some d) (q : ∀ y, Rd N s.heap y d → Q y s) : wpAny (mo w) A (getItem (.ref p) (.int i t)) Q E s := by
  obtain ⟨y, hy, ry⟩ := p3.get j hx
  have hl : s.heap.IsList p vs := ⟨_, p1, rfl, _, rfl⟩
  have hsz : vs.size = xs.length := by have := p3.length; simpa using this
  rcases Int.lt_or_le i 0 with h0 | h0
  · exact kde_getNeg (vs := vs.toList) (by simpa using hl) h0 hlo (j := j) (by simpa [hsz] using hj) hy (q _ ry)
  · obtain rfl := seqIndex_pos h0 hj
    exact wpAny_getItem_list hl h0 hhi (by simpa using hy) (q _ ry)
/-- x[e], x a list of the frame's own -/
theorem Ev.itemOwn {x : Str} {np : Pos} {slice : Expr} {pos : Pos} {a : Addr} {xs : List PyData} {i : Int} {j : Nat} {d : PyData} (hx : (x, D.val (.ref a)) ∈ ρ) (hxd : (x == ("__debug__" : Str)) = false) (hb : Ev X k ((a, xs) :: W) ρ slice (.dat (.int i))) (hlo : -(2 ^ 63) ≤ i) (hhi : i < 2 ^ 63)
    (hj : seqIndex? i xs.length = some j) (hxj : xs[j]? = some d) (hs : ∀ o i, subscripted slice false o i = operate [o, i] (getItem o i)) : Ev X k ((a, xs) :: W) ρ (.Subscript (.Name x np) slice pos) (.dat d) := fun A E s Q R T hq => by
  have hn2 : Ev X k ((a, xs) :: W) ρ (.Name x np) (.val (.ref a)) := Ev.nameIn hx hxd
  refine Subscript_ (hn2 A E s _ R T fun u s₁ k₁ r₁ => hb A E s₁ _ (R.to k₁) (T.keeps k₁.heap) fun v s₂ k₂ r₂ => ?_)
  obtain rfl : u = .ref a := r₁
  change Rd _ _ _ _ at r₂
  cases r₂ with
  | int _ t =>
    have T₂ := (T.keeps k₁.heap).keeps k₂.heap
    obtain ⟨ha, vs, n, h1, h2⟩ := T₂.own (a, xs) List.mem_cons_self
    have hl : s₂.heap.IsList a vs := ⟨_, h1, rfl, _, rfl⟩
    exact tail_any hl.typeIs slot_list_getitem.lookup (getItem_any h1 h2 hlo hhi hj hxj fun y ry => hq _ _ (k₁.trans k₂) ry) (hs _ _)
/-- x[i] += e, x a list of the frame's own -/
theorem Thru.augItem {x : Str} {np : Pos} {ix e : Expr} {tpos pos : Pos} {a : Addr} {xs : List PyData} {i u v : Int} (hx : (x, D.val (.ref a)) ∈ ρ) (hxd : (x == ("__debug__" : Str)) = false) (hna : a ∉ W.map (·.1)) (hi : Ev X k ((a, xs) :: W) ρ ix (.dat (.int i))) (h0 : 0 ≤ i) (h1 : i < xs.length) (hfit : xs.length ≤ 100000)
    (hxj : xs[i.toNat]? = some (.int u)) (he : Ev X k ((a, xs) :: W) ρ e (.dat (.int v))) (hst : ∀ ov iv new, augStore ix ov iv new = (do holding [new, ov, iv] (setItem ov iv new); release [new, ov, iv] []; pure .next)) :
    Thru X k ((a, xs) :: W) ρ [.AugAssign (.Subscript (.Name x np) ix tpos) .Add e pos] (fun W' ρ' => W' = (a, xs.set i.toNat (.int (u + v))) :: W ∧ ρ' = ρ) := fun A E s Q R T q => by
  refine one (wpAny_AugAssign_SubscriptAny ?_ hst)
  have hn2 : Ev X k ((a, xs) :: W) ρ (.Name x np) (.val (.ref a)) := Ev.nameIn hx hxd
  refine hn2 A E s _ R T fun o s₁ t₁ r₁ => hi A E s₁ _ (R.to t₁) (T.keeps t₁.heap) fun iv s₂ t₂ r₂ => ?_
  obtain rfl : o = .ref a := r₁
  change Rd _ _ _ _ at r₂
  cases r₂ with
  | int _ ti =>
    have T₂ := (T.keeps t₁.heap).keeps t₂.heap
    obtain ⟨ha, vs, n, b1, b2⟩ := T₂.own (a, xs) List.mem_cons_self
    have hj : seqIndex? i xs.length = some i.toNat := by
      unfold seqIndex?
      have hn : ¬ (i < 0) := Int.not_lt.mpr h0
      simp only [hn, if_false]
      rw [if_pos (by simp only [Bool.and_eq_true, decide_eq_true_eq]; exact ⟨h0, h1⟩)]
    refine getItem_any b1 b2 (by omega) (by omega) hj hxj fun old rold => ?_
    cases rold with
    | int _ to =>
      refine he A E s₂ _ ((R.to t₁).to t₂) T₂ fun w s₃ t₃ rw_ => ?_
      change Rd _ _ _ _ at rw_
      cases rw_ with
      | int _ tw =>
        have T₃ := T₂.keeps t₃.heap
        refine wpAny_iadd_int ?_
        obtain ⟨ha, vs, n, b1, b2⟩ := T₃.own (a, xs) List.mem_cons_self
        have hl := b2.length
        rw [Array.length_toList] at hl
        simp only at hl
        refine ki_setAt (n := n) b1 h0 (by omega) (by omega) ?_
        have hsb : Heap.SameBut a s₃.heap (s₃.heap.update a (Obj.mapSeq (·.setIfInBounds i.toNat (.int (u + v) s₃.toks)))) := Heap.SameBut.update ..
        have em : Obj.mapSeq (·.setIfInBounds i.toNat (.int (u + v) s₃.toks)) { cls := .type "list", dict := none, data := .seq vs n, slots := #[] } = { cls := .type "list", data := .seq (vs.setIfInBounds i.toNat (.int (u + v) s₃.toks)) n } := by simp [Obj.mapSeq]
        have hnew : IsL (s₃.heap.update a (Obj.mapSeq (·.setIfInBounds i.toNat (.int (u + v) s₃.toks)))) a (vs.setIfInBounds i.toNat (.int (u + v) s₃.toks)) n := by
          show _ = some _
          rw [Heap.get?_update_self _ b1 (by rw [em]; rfl), em]
        refine q _ _ _ ⟨rfl, rfl⟩ (T₃.ownPut (ds' := xs.set i.toNat (.int (u + v))) hna hsb hnew ?_) (((Mv.ofTo ((t₁.trans t₂).trans (t₃.trans (To.tok _ _)))).trans (ownMv rfl hsb)))
        rw [Array.toList_setIfInBounds]
        exact b2.set _ (.int _ _)
end
end Mine
end
section
open PySem PySem.W PyProof.Rows
namespace Mine
/-- fewer names -/
noncomputable def Sub : Vars → Vars → Prop
  | [], _ => True
  | (x, d) :: r, ρ => ρ.lookup x = some d ∧ Sub r ρ
theorem Sub.mem {ρ : Vars} : ∀ {ρ' : Vars}, Sub ρ' ρ → ∀ p ∈ ρ', p ∈ ρ
  | (x, d) :: r, ⟨a, b⟩, p, hp => by
    rcases List.mem_cons.mp hp with rfl | hp
    · exact mem_of_lookupD a
    · exact b.mem p hp
theorem lookup_put {x y : Str} {d : D} : ∀ {ρ : Vars}, x ≠ y → (put x d ρ).lookup y = ρ.lookup y := fun {ρ} h => by
  unfold put
  have h1 : (y == x) = false := by
    cases e : y == x with
    | false => rfl
    | true => exact absurd (beq_iff_eq.mp e).symm h
  rw [List.lookup_cons, h1]
  show (ρ.filter fun p => !(p.1 == x)).lookup y = _
  induction ρ with
  | nil => rfl
  | cons p r ih =>
    by_cases hp : p.1 = x
    · rw [List.filter_cons_of_neg (by simp [hp]), ih, List.lookup_cons, hp, h1]
    · rw [List.filter_cons_of_pos (by simp [hp]), List.lookup_cons, List.lookup_cons, ih]
/-- none of these names -/
noncomputable def Off (x : Str) : Vars → Prop
  | [] => True
  | p :: r => (p.1 == x) = false ∧ Off x r
theorem Sub.put {x : Str} {d : D} {ρ : Vars} : ∀ {ρc : Vars}, Sub ρc ρ → Off x ρc → Sub ρc (put x d ρ)
  | [], _, _ => trivial
  | (y, e) :: r, ⟨a, b⟩, ⟨h, h'⟩ => ⟨(lookup_put (by intro q; simp only at h; rw [q] at h; simp at h)).trans a, b.put h'⟩
theorem Sub.one {x : Str} {d : D} {ρ ρc : Vars} (h : Sub ρc ρ) (ho : Off x ρc) : Sub ((x, d) :: ρc) (Mine.put x d ρ) := ⟨by unfold Mine.put; rw [List.lookup_cons]; simp, h.put ho⟩
section
variable {X : Fx} {k : Nat} {W : Own} {ρ : Vars}
theorem Thru.less {ss : List Stmt} {P P' : Own → Vars → Prop} (h : Thru X k W ρ ss P) (h' : ∀ W' ρ', P W' ρ' → ∃ ρ'', Sub ρ'' ρ' ∧ P' W' ρ'') : Thru X k W ρ ss P' := fun A E s Q R T q =>
  h A E s Q R T fun W' ρ' s' p T' m => by
    obtain ⟨ρ'', hs, p'⟩ := h' _ _ p
    exact q W' ρ'' s' p' (T'.less hs.mem) m
theorem Thru.pre {ρ' : Vars} {ss : List Stmt} {P : Own → Vars → Prop} (hs : Sub ρ' ρ) (h : Thru X k W ρ' ss P) : Thru X k W ρ ss P := fun A E s Q R T q => h A E s Q R (T.less hs.mem) q
theorem Bk.pre {ρ' : Vars} {ss : List Stmt} {d : PyData} (hs : Sub ρ' ρ) (h : Bk X k W ρ' ss d) : Bk X k W ρ ss d := fun A E s Q R T q => h A E s Q R (T.less hs.mem) q
end
theorem fitsOne {x : Str} {ds : List PyData} : ∀ it ∈ ds.map (fun d => Tn.one (.dat d)), fits [x] it := fun it hit => by obtain ⟨d, _, rfl⟩ := List.mem_map.mp hit; trivial
theorem one_get {ds : List PyData} {i : Nat} {it : Tn} (h : (ds.map fun d => Tn.one (.dat d))[i]? = some it) : ∃ d, ds[i]? = some d ∧ it = .one (.dat d) := by
  rw [List.getElem?_map] at h
  cases e : ds[i]? with
  | none => rw [e] at h; cases h
  | some d => rw [e] at h; cases h; exact ⟨d, rfl, rfl⟩
noncomputable def intsD (l : List Int) : List PyData := l.map .int
theorem intsD_get {l : List Int} {i : Nat} {d : PyData} (h : (intsD l)[i]? = some d) : ∃ n, l[i]? = some n ∧ d = .int n := by
  unfold intsD at h
  rw [List.getElem?_map] at h
  cases e : l[i]? with
  | none => rw [e] at h; cases h
  | some d => rw [e] at h; cases h; exact ⟨d, rfl, rfl⟩
theorem intsD_at {l : List Int} {i : Nat} (h : i < l.length) : (intsD l)[i]? = some (.int (l.getD i 0)) := by
  unfold intsD
  rw [List.getElem?_map, List.getElem?_eq_getElem h, List.getD_eq_getElem?_getD, List.getElem?_eq_getElem h]; rfl
theorem intsD_length (l : List Int) : (intsD l).length = l.length := List.length_map ..
theorem intsD_set (l : List Int) (i : Nat) (v : Int) : (intsD l).set i (.int v) = intsD (l.set i v) := (List.map_set ..).symm
theorem seqIndex_nat {i : Int} {n : Nat} (h0 : 0 ≤ i) (h1 : i < n) : seqIndex? i n = some i.toNat := by
  unfold seqIndex?
  have hn : ¬ (i < 0) := Int.not_lt.mpr h0
  simp only [hn, if_false]
  rw [if_pos (by simp only [Bool.and_eq_true, decide_eq_true_eq]; exact ⟨h0, h1⟩)]
theorem mulOk4 {a b : Int} (h0 : 0 ≤ a) (h1 : a ≤ 1000000) : IntMulOk a b := by
  refine IntMulOk.of_left ?_
  unfold Builtin.Int.intBits
  split
  · omega
  · have : a.natAbs.log2 < 30 := (Nat.log2_lt (by intro q; have : a = 0 := by omega
                                                  subst this; simp at *)).mpr (by omega)
    omega
theorem enumT_fits {x y : Str} : ∀ (ds : List PyData) (n : Nat), ∀ it ∈ enumT n ds, fits [x, y] it
  | [], _, it, h => by simp [enumT] at h
  | d :: ds, n, it, h => by
    rcases List.mem_cons.mp h with rfl | h
    · trivial
    · exact enumT_fits ds (n + 1) it h
theorem zipT_fits {x y : Str} : ∀ (ds es : List PyData), ∀ it ∈ zipT ds es, fits [x, y] it
  | [], _, it, h => by simp [zipT] at h
  | _ :: _, [], it, h => by simp [zipT] at h
  | d :: ds, e :: es, it, h => by
    rcases List.mem_cons.mp h with rfl | h
    · trivial
    · exact zipT_fits ds es it h
theorem rng_mem {n : Int} {it : Tn} (h : it ∈ rng n) : ∃ i : Nat, (i : Int) < n ∧ it = .one (.dat (.int (i : Int))) := by
  obtain ⟨i, hi, rfl⟩ := List.mem_map.mp h
  exact ⟨i, by have := List.mem_range.mp hi; omega, rfl⟩
theorem rng_fits {x : Str} {n : Int} : ∀ it ∈ rng n, fits [x] it := fun it h => by obtain ⟨i, _, rfl⟩ := rng_mem h; trivial
theorem rng_length (n : Int) : (rng n).length = n.toNat := by simp [rng]
noncomputable def rowOf : Tn → Option (List Int) | .one (.dat (.list l)) => some (l.map fun d => match d with | .int i => i | _ => 0) | _ => none
noncomputable def intOf : Tn → Option Int | .one (.dat (.int i)) => some i | _ => none
theorem rng_filterMap (n : Int) (f : Int → PyData) : (rng n).filterMap (fun t => (intOf t).map f) = (List.range n.toNat).map fun (i : Nat) => f (i : Int) := by
  unfold rng
  rw [List.filterMap_map]
  simp [Function.comp_def, intOf, List.filterMap_eq_map]
theorem intsD_filterMap (l : List Int) (f : Int → PyData) : ((intsD l).map fun d => Tn.one (.dat d)).filterMap (fun t => (intOf t).map f) = l.map f := by
  unfold intsD
  rw [List.map_map, List.filterMap_map]
  simp [Function.comp_def, intOf, List.filterMap_eq_map]
theorem intsD_mem {l : List Int} {it : Tn} (h : it ∈ (intsD l).map fun d => Tn.one (.dat d)) : ∃ n ∈ l, it = .one (.dat (.int n)) := by
  obtain ⟨d, hd, rfl⟩ := List.mem_map.mp h
  obtain ⟨n, hn, rfl⟩ := List.mem_map.mp hd
  exact ⟨n, hn, rfl⟩
theorem one_fits {x : Str} {ds : List PyData} : ∀ it ∈ ds.map (fun d => Tn.one (.dat d)), fits [x] it := fitsOne
end Mine
end
section
open PySem PySem.W PyProof.Rows
namespace Mine
section
variable {w : World}
theorem cn_strcoll (a b : Str) (d : Int) (hd : b2i (decide (b.cps.toList < a.cps.toList)) - b2i (decide (a.cps.toList < b.cps.toList)) = d) : Cn w 1 (.ref 28) [.dat (.str a), .dat (.str b)] (.dat (.int d)) :=
  Cn.of_body (k := 0) (ns := [S "a", S "b"]) (kF_at 2 rfl) (by decide) rfl (kF_at 1 rfl) (by decide) rfl rfl
    (fun vs h => by rcases vs with _ | ⟨a, _ | ⟨b, _ | _⟩⟩ <;> first | rfl | (simp at h))
    rfl rfl rfl (by decide) ⟨.inl rfl, .inl rfl, trivial⟩ fun h₀ N => by
    refine Bk.ret (Ev.to (Ev.subB (Ev.cmpD (Ev.name rfl rfl) (Ev.name rfl rfl) (Cmp.gtS _ _) rfl) (Ev.cmpD (Ev.name rfl rfl) (Ev.name rfl rfl) (Cmp.ltS _ _) rfl)) ?_)
    rw [hd]
end
end Mine
end
section
open PySem PySem.W PyProof.Rows
namespace Mine
/-- one turn of _law_single's inner loop -/
noncomputable def stepW (many : Int) (ways : List Int) (place : Int) : List Int := ways.set place.toNat (ways.getD place.toNat 0 + many * ways.getD (place - 1).toNat 0)
noncomputable def rowW (places : List Int) (ways : List Int) (many : Int) : List Int := places.foldl (stepW many) ways
noncomputable def singleF (counts places : List Int) : List Int := counts.foldl (rowW places) [1, 0, 0, 0, 0, 0]
theorem stepW_length (many : Int) (ways : List Int) (place : Int) : (stepW many ways place).length = ways.length := by simp [stepW]
theorem rowW_length (places : List Int) : ∀ (ways : List Int) (many : Int), (rowW places ways many).length = ways.length := by
  induction places with
  | nil => intro _ _; rfl
  | cons p ps ih => intro ways many; exact (ih _ _).trans (stepW_length _ _ _)
section
variable {w : World}
theorem foldl_take {α β : Type} (f : β → α → β) (b : β) (l : List α) (i : Nat) (x : α) (h : l[i]? = some x) : (l.take (i + 1)).foldl f b = f ((l.take i).foldl f b) x := by
  rw [List.take_add_one, h, List.foldl_append]; rfl
theorem cn_single (counts places : List Int) (hc : ∀ c ∈ counts, 0 ≤ c ∧ c ≤ 4) (hp : ∀ p ∈ places, 1 ≤ p ∧ p ≤ 5) :
    Cn w 1 (.ref 243) [.dat (.list (intsD counts)), .dat (.list (intsD places))] (.dat (.list (intsD (singleF counts places)))) :=
  Cn.of_body (k := 0) (ns := [S "counts", S "places"]) (kF_at 51 rfl) (by decide) rfl (kF_at 50 rfl) (by decide) rfl rfl
    (fun vs h => by rcases vs with _ | ⟨a, _ | ⟨b, _ | _⟩⟩ <;> first | rfl | (simp at h))
    rfl rfl rfl (by decide) ⟨.inl rfl, .inl rfl, trivial⟩ fun h₀ N => by
    refine Bk.cons (Thru.own (ds := intsD [1, 0, 0, 0, 0, 0]) (.cons (fun _ => rfl) Ev.int (.cons (fun _ => rfl) Ev.int (.cons (fun _ => rfl) Ev.int (.cons (fun _ => rfl) Ev.int (.cons (fun _ => rfl) Ev.int (.cons (fun _ => rfl) Ev.int .nil)))))) (by decide) (.inl rfl) rfl) ?_
    rintro W' ρ' ⟨a, ha, rfl, rfl⟩
    refine Bk.pre (ρ' := [(S "ways", .val (.ref a)), (S "places", .dat (.list (intsD places))), (S "counts", .dat (.list (intsD counts)))]) ⟨rfl, rfl, rfl, trivial⟩ ?_
    refine Bk.cons (Thru.loop (xs := [S "many"]) (Itr.list (Ev.name rfl rfl) (Shps.ones _)) (fun _ => rfl) (.one (.inl rfl)) fitsOne
      (fun i W' ρ' => W' = [(a, intsD ((counts.take i).foldl (rowW places) [1, 0, 0, 0, 0, 0]))] ∧ Sub [(S "ways", .val (.ref a)), (S "places", .dat (.list (intsD places)))] ρ') ⟨rfl, rfl, rfl, trivial⟩ ?_) ?_
    · rintro N' i it W' ρ' hit ⟨rfl, hs⟩
      obtain ⟨d, hd, rfl⟩ := one_get hit
      obtain ⟨c, hcn, rfl⟩ := intsD_get hd
      have hc' := hc c (List.mem_of_getElem? hcn)
      have hl : ((counts.take i).foldl (rowW places) [1, 0, 0, 0, 0, 0]).length = 6 := by
        generalize counts.take i = l
        have : ∀ (l : List Int) (ws : List Int), (l.foldl (rowW places) ws).length = ws.length := by
          intro l; induction l with
          | nil => intro ws; rfl
          | cons x r ih => intro ws; exact (ih _).trans (rowW_length _ _ _)
        exact this l _
      rw [foldl_take _ _ _ _ _ hcn]
      generalize (counts.take i).foldl (rowW places) [1, 0, 0, 0, 0, 0] = ws at hl ⊢
      refine Thru.pre (hs.one ⟨rfl, rfl, trivial⟩) ?_
      refine (Thru.loop (xs := [S "place"]) (Itr.list (Ev.name rfl rfl) (Shps.ones _)) (fun _ => rfl) (.one (.inl rfl)) fitsOne
        (fun j W' ρ' => W' = [(a, intsD ((places.take j).foldl (stepW c) ws))] ∧ Sub [(S "many", .dat (.int c)), (S "ways", .val (.ref a)), (S "places", .dat (.list (intsD places)))] ρ') ⟨rfl, rfl, rfl, rfl, trivial⟩ ?_).to ?_
      · rintro N'' j it' W'' ρ'' hit' ⟨rfl, hs'⟩
        obtain ⟨d, hd', rfl⟩ := one_get hit'
        obtain ⟨p, hpn, rfl⟩ := intsD_get hd'
        have hp' := hp p (List.mem_of_getElem? hpn)
        have hl' : ((places.take j).foldl (stepW c) ws).length = 6 := (rowW_length (places.take j) ws c).trans hl
        rw [foldl_take _ _ _ _ _ hpn]
        generalize (places.take j).foldl (stepW c) ws = vs at hl' ⊢
        refine Thru.pre (hs'.one ⟨rfl, rfl, rfl, trivial⟩) ?_
        have hp0 : p.toNat < vs.length := by omega
        have hp1 : (p - 1).toNat < vs.length := by omega
        refine (Thru.augItem (i := p) (u := vs.getD p.toNat 0) (v := c * vs.getD (p - 1).toNat 0) (List.mem_cons_of_mem _ (List.mem_cons_of_mem _ List.mem_cons_self)) rfl (by simp) (Ev.name rfl rfl) (by omega) (by simp only [intsD, List.length_map]; omega) (by simp only [intsD, List.length_map]; omega)
          (intsD_at hp0) (Ev.mulI (Ev.name rfl rfl) (Ev.itemOwn (i := p - 1) (j := (p - 1).toNat) (List.mem_cons_of_mem _ (List.mem_cons_of_mem _ List.mem_cons_self)) rfl (Ev.subI (Ev.name rfl rfl) Ev.int) (by omega) (by omega) (seqIndex_nat (by omega) (by rw [intsD_length]; omega)) (intsD_at hp1) (fun _ _ => rfl)) (mulOk4 (by omega) (by omega))) (fun _ _ _ => rfl)).to ?_
        rintro W3 ρ3 ⟨rfl, rfl⟩
        exact ⟨by rw [intsD_set]; rfl, rfl, rfl, rfl, trivial⟩
      · rintro W3 ρ3 ⟨h1, h2⟩
        rw [List.length_map, intsD_length, List.take_length] at h1
        exact ⟨h1, h2.2⟩
    · rintro W' ρ' ⟨rfl, hs⟩
      rw [List.length_map, intsD_length, List.take_length]
      refine Bk.pre hs ?_
      exact Bk.freeze List.mem_cons_self ha (Bk.ret (Ev.name rfl rfl))
end
end Mine
end
section
open PySem PySem.W PyProof.Rows
namespace Mine
noncomputable def entryF (ways : List Int) (t : Int) : Int := if t ≥ 0 then ways.getD t.toNat 0 else 0
noncomputable def stepsF (n : Nat) (place size : Int) : List Int := (List.range n).map fun (i : Nat) => size - place + i
noncomputable def tabF (n : Nat) (ways : List Int) : Nat → List Int → List (List Int)
  | _, [] => []
  | p, s :: r => (stepsF n p s).map (entryF ways) :: tabF n ways (p + 1) r
noncomputable def tableF (sizes ways : List Int) : List (List Int) := tabF sizes.length ways 0 sizes
noncomputable def rowsD (l : List (List Int)) : List PyData := l.map fun r => .list (intsD r)
section
variable {w : World}
theorem tabF_take (n : Nat) (ways : List Int) : ∀ (l : List Int) (p i : Nat) (s : Int), l[i]? = some s → tabF n ways p (l.take (i + 1)) = tabF n ways p (l.take i) ++ [(stepsF n (p + i : Nat) s).map (entryF ways)]
  | x :: r, p, 0, s, h => by cases h; rfl
  | x :: r, p, i + 1, s, h => by
    have ih := tabF_take n ways r (p + 1) i s h
    show _ :: tabF n ways (p + 1) (r.take (i + 1)) = _ :: tabF n ways (p + 1) (r.take i) ++ _
    rw [ih, List.cons_append]
    congr 5; omega
theorem tabF_length (n : Nat) (ways : List Int) : ∀ (l : List Int) (p : Nat), (tabF n ways p l).length = l.length
  | [], _ => rfl
  | _ :: r, p => congrArg (· + 1) (tabF_length n ways r (p + 1))
theorem cn_table (sizes ways : List Int) (hn : sizes.length ≤ 3) (hw : ways.length = 6) (hs : ∀ s ∈ sizes, 1 ≤ s ∧ s ≤ 3) :
    Cn w 1 (.ref 248) [.dat (.list (intsD sizes)), .dat (.list (intsD ways))] (.dat (.list (rowsD (tableF sizes ways)))) :=
  Cn.of_body (k := 0) (ns := [S "sizes", S "ways"]) (kF_at 53 rfl) (by decide) rfl (kF_at 52 rfl) (by decide) rfl rfl
    (fun vs h => by rcases vs with _ | ⟨a, _ | ⟨b, _ | _⟩⟩ <;> first | rfl | (simp at h))
    rfl rfl rfl (by decide) ⟨.inl rfl, .inr ⟨rfl, fun _ => rfl⟩, trivial⟩ fun h₀ N => by
    refine Bk.cons (Thru.own (ds := []) .nil (by decide) (.inl rfl) rfl) ?_
    rintro W' ρ' ⟨a, ha, rfl, rfl⟩
    refine Bk.pre (ρ' := [(S "table", .val (.ref a)), (S "sizes", .dat (.list (intsD sizes))), (S "ways", .dat (.list (intsD ways)))]) ⟨rfl, rfl, rfl, trivial⟩ ?_
    refine Bk.cons (Thru.loop (xs := [S "place", S "size"]) (Itr.enum (Ev.blt rfl rfl rfl (by decide) rfl) (.cons (fun _ => rfl) (Ev.name rfl rfl) .nil)) (fun _ => rfl) (.two (.inr ⟨rfl, 1, rfl⟩) (.inr ⟨rfl, 2, rfl⟩)) (fun it hit => ?_)
      (fun i W' ρ' => W' = [(a, rowsD (tabF sizes.length ways 0 (sizes.take i)))] ∧ Sub [(S "table", .val (.ref a)), (S "sizes", .dat (.list (intsD sizes))), (S "ways", .dat (.list (intsD ways)))] ρ') ⟨rfl, rfl, rfl, rfl, trivial⟩ ?_) ?_
    · exact enumT_fits _ _ it hit
    · rintro N' i it W' ρ' hit ⟨rfl, hs'⟩
      obtain ⟨d, hd, rfl⟩ := enumT_get _ _ _ hit
      obtain ⟨sz, hsn, rfl⟩ := intsD_get hd
      have hsz := hs sz (List.mem_of_getElem? hsn)
      have hil : i < sizes.length := (List.getElem?_eq_some_iff.mp hsn).1
      rw [tabF_take _ _ _ _ _ _ hsn]
      generalize hpl : ((0 + i : Nat) : Int) = pl
      have hpl0 : 0 ≤ pl ∧ pl ≤ 2 := by omega
      have hT : (rowsD (tabF sizes.length ways 0 (sizes.take i))).length ≤ 100000 := by
        unfold rowsD
        rw [List.length_map, tabF_length, List.length_take]; omega
      generalize tabF sizes.length ways 0 (sizes.take i) = tb at hT ⊢
      refine Thru.pre (ρ' := [(S "size", .dat (.int sz)), (S "place", .dat (.int pl)), (S "table", .val (.ref a)), (S "sizes", .dat (.list (intsD sizes))), (S "ways", .dat (.list (intsD ways)))]) ?_ ?_
      · exact (hs'.one (x := S "place") ⟨rfl, rfl, rfl, trivial⟩).one (x := S "size") ⟨rfl, rfl, rfl, rfl, trivial⟩
      · refine Thru.cons (Thru.comp (g := fun t => (intOf t).map fun s => .int (sz - pl + s)) (xs := [S "step"]) (oc := []) (ρc := [(S "place", .dat (.int pl)), (S "size", .dat (.int sz))])
          { hit := Itr.range (n := ((intsD sizes).length : Int)) (Ev.blt rfl rfl rfl (by decide) rfl) (.cons (fun _ => rfl) (Ev.call (Ev.blt rfl rfl rfl (by decide) rfl) (.b _) (.cons (fun _ => rfl) (Ev.name rfl rfl) .nil) (Cn.lenL (by rw [intsD_length]; omega))) .nil) (by omega) (by rw [intsD_length]; omega)
            hs := fun _ => rfl
            hclos := rfl
            hclo := ⟨rfl, rfl, rfl, rfl, trivial⟩
            hkind := rfl
            hnames := by decide
            hoc := .no (fun _ _ => rfl) (fun _ => rfl)
            hcap := ⟨⟨rfl, rfl, ⟨_, rfl, rfl⟩, rfl, rfl⟩, ⟨rfl, rfl, ⟨_, rfl, rfl⟩, rfl, rfl⟩, trivial⟩
            hxs' := rfl
            hxc' := rfl
            htg := fun _ => .one (.inl rfl)
            hft := rng_fits
            hsz := by rw [rng_length, intsD_length]; omega
            body := fun N' C it hit => by
              obtain ⟨i, _, rfl⟩ := rng_mem hit
              exact ⟨rfl, Ev.addI (Ev.subI (Ev.name rfl rfl) (Ev.name rfl rfl)) (Ev.name rfl rfl)⟩ } (.inl rfl) rfl) ?_
        rintro W1 ρ1 ⟨rfl, rfl⟩
        have e1 : (rng ((intsD sizes).length : Int)).filterMap (fun t => (intOf t).map fun s => PyData.int (sz - pl + s)) = intsD (stepsF sizes.length pl sz) := by
          rw [rng_filterMap, intsD_length]
          unfold intsD stepsF
          rw [List.map_map]; rfl
        rw [e1]
        have hst : ∀ t ∈ stepsF sizes.length pl sz, t ≤ 5 ∧ -5 ≤ t := fun t ht => by
          unfold stepsF at ht
          obtain ⟨j, hj, rfl⟩ := List.mem_map.mp ht
          have := List.mem_range.mp hj
          omega
        have hsl : (stepsF sizes.length pl sz).length ≤ 3 := by unfold stepsF; rw [List.length_map, List.length_range]; omega
        generalize stepsF sizes.length pl sz = steps at hst hsl ⊢
        refine Thru.pre (ρ' := [(S "steps", .dat (.list (intsD steps))), (S "table", .val (.ref a)), (S "sizes", .dat (.list (intsD sizes))), (S "ways", .dat (.list (intsD ways)))]) ⟨rfl, rfl, rfl, rfl, trivial⟩ ?_
        refine (Thru.append (d := .list (intsD (steps.map (entryF ways)))) (List.mem_cons_of_mem _ List.mem_cons_self) rfl (Ev.to (Ev.comp (g := fun t => (intOf t).map fun s => .int (entryF ways s)) (xs := [S "step"]) (oc := []) (ρc := [(S "ways", .dat (.list (intsD ways)))])
          { hit := Itr.list (Ev.name rfl rfl) (Shps.ones _)
            hs := fun _ => rfl
            hclos := rfl
            hclo := by exact ⟨rfl, rfl, trivial⟩
            hkind := rfl
            hnames := by decide
            hoc := .no (fun _ _ => rfl) (fun _ => rfl)
            hcap := by exact ⟨⟨rfl, rfl, ⟨_, rfl, rfl⟩, rfl, rfl⟩, trivial⟩
            hxs' := rfl
            hxc' := rfl
            htg := fun _ => .one (.inl rfl)
            hft := fitsOne
            hsz := by rw [List.length_map, intsD_length]; omega
            body := fun N' C it hit => by
              obtain ⟨t, ht, rfl⟩ := intsD_mem hit
              have := hst t ht
              refine ⟨rfl, ?_⟩
              refine Ev.ifexp (b := decide (0 ≤ t)) (Tst.cmpD (Ev.name rfl rfl) Ev.int (Cmp.geI _ _) rfl) ?_
              by_cases h0 : t ≥ 0
              · rw [if_pos (by simpa using h0)]
                refine Ev.to (Ev.itemL (i := t) (j := t.toNat) (Ev.name rfl rfl) (Ev.name rfl rfl) (by omega) (by omega) (seqIndex_nat h0 (by rw [intsD_length]; omega)) (intsD_at (by omega)) (fun _ _ => rfl)) (by show D.dat (.int _) = .dat (.int (entryF ways t)); rw [entryF, if_pos h0])
              · rw [if_neg (by simpa using h0)]
                exact Ev.to Ev.int (by show D.dat (.int _) = .dat (.int (entryF ways t)); rw [entryF, if_neg h0]) }) (by rw [intsD_filterMap]; unfold intsD; rw [List.map_map]; rfl)) (by simp) hT rfl rfl rfl rfl rfl).to ?_
        rintro W2 ρ2 ⟨rfl, rfl⟩
        exact ⟨by simp [rowsD], rfl, rfl, rfl, trivial⟩
    · rintro W' ρ' ⟨rfl, hs'⟩
      rw [enumT_length, intsD_length, List.take_length]
      exact Bk.pre hs' (Bk.freeze List.mem_cons_self ha (Bk.ret (Ev.name rfl rfl)))
end
end Mine
end
section
open PySem PySem.W PyProof.Rows
namespace Mine
theorem sliced_run (xs : List PyData) (a b : Nat) (hb : b ≤ xs.length) (hab : a ≤ b) : (sliceRange a b 1).filterMap (xs[·]?) = (xs.drop a).take (b - a) := by
  rw [sliceRange_one]
  have := pick_run xs.toArray a (b - a)
  simpa using this
theorem sliced_from (xs : List PyData) (a : Nat) (ha : a ≤ xs.length) : sliced xs (some (a : Int)) none = xs.drop a := by
  have e : sliceBounds (some (a : Int)) none none xs.length = ((a : Int), (xs.length : Int), 1) := by
    unfold sliceBounds
    simp only [Option.getD_none]
    have h1 : ¬ ((a : Int) < 0) := by omega
    simp only [h1, if_false, show (1 : Int) > 0 by decide, if_true]
    have h2 : min (a : Int) (xs.length : Int) = a := by omega
    have h3 : max 0 (a : Int) = a := by omega
    rw [h2, h3]
  unfold sliced
  rw [e]
  show (sliceRange (a : Int) (xs.length : Int) 1).filterMap (xs[·]?) = _
  rw [sliced_run xs a xs.length (Nat.le_refl _) ha]
  exact List.take_of_length_le (by simp)
theorem sliced_from1 (xs : List PyData) (a : Nat) (ha : a + 1 ≤ xs.length) : sliced xs (some ((a : Int) + 1)) none = xs.drop (a + 1) := by
  have := sliced_from xs (a + 1) ha
  rwa [show ((a + 1 : Nat) : Int) = (a : Int) + 1 by omega] at this
theorem sliced_upto (xs : List PyData) (b : Nat) (hb : b ≤ xs.length) : sliced xs none (some (b : Int)) = xs.take b := by
  have e : sliceBounds none (some (b : Int)) none xs.length = (((0 : Nat) : Int), (b : Int), 1) := by
    unfold sliceBounds
    simp only [Option.getD_none]
    have h1 : ¬ ((b : Int) < 0) := by omega
    simp only [h1, if_false, show (1 : Int) > 0 by decide, if_true]
    have h2 : min (b : Int) (xs.length : Int) = b := by omega
    have h3 : max 0 (b : Int) = b := by omega
    rw [h2, h3]; rfl
  unfold sliced
  rw [e]
  show (sliceRange ((0 : Nat) : Int) (b : Int) 1).filterMap (xs[·]?) = _
  rw [sliced_run xs 0 b hb (Nat.zero_le _)]
  simp
noncomputable def dropAt (i : Nat) (r : List Int) : List Int := r.take i ++ r.drop (i + 1)
noncomputable def sgn (i : Int) : Int := if i % 2 == 0 then 1 else -1
noncomputable def detF : Nat → List (List Int) → Int
  | 0, _ => 1
  | _ + 1, [] => 1
  | n + 1, r :: rest => (r.zipIdx.map fun p => sgn (p.2 : Nat) * p.1 * detF n (rest.map (dropAt p.2))).sum
theorem detF_go (n : Nat) (rest : List (List Int)) (r : List Int) (i : Nat) (e : Int) (h : r[i]? = some e) :
    ((r.zipIdx.take (i + 1)).map fun p => sgn (p.2 : Nat) * p.1 * detF n (rest.map (dropAt p.2))).sum = ((r.zipIdx.take i).map fun p => sgn (p.2 : Nat) * p.1 * detF n (rest.map (dropAt p.2))).sum + sgn (i : Nat) * e * detF n (rest.map (dropAt i)) := by
  have hz : r.zipIdx[i]? = some (e, i) := by rw [List.getElem?_zipIdx, h]; simp
  rw [List.take_add_one, hz, List.map_append, List.sum_append]
  simp
/-- square enough, and small -/
noncomputable def Sq (n : Nat) (t : List (List Int)) : Prop := t.length = n ∧ ∀ r ∈ t, r.length = n ∧ ∀ e ∈ r, -1000000 ≤ e ∧ e ≤ 1000000
theorem rowsD_lay : ∀ (t : List (List Int)), PyData.canLayAll0 (rowsD t) = true := by
  have h1 : ∀ l : List Int, PyData.canLayAll0 (intsD l) = true := by
    intro l; induction l with
    | nil => rfl
    | cons x r ih => simp only [intsD, List.map_cons, PyData.canLayAll0, PyData.canLay0, Bool.true_and]; exact ih
  intro t; induction t with
  | nil => rfl
  | cons x r ih => simp only [rowsD, List.map_cons, PyData.canLayAll0, PyData.canLay0, Bool.and_eq_true]; exact ⟨h1 x, ih⟩
theorem rowsD_depth : ∀ (t : List (List Int)), PyData.depthAll (rowsD t) ≤ 1 := by
  have h1 : ∀ l : List Int, PyData.depthAll (intsD l) = 0 := by
    intro l; induction l with
    | nil => rfl
    | cons x r ih => simp only [intsD, List.map_cons, PyData.depthAll, PyData.depth, Nat.zero_max]; exact ih
  intro t; induction t with
  | nil => exact Nat.zero_le _
  | cons x r ih =>
    simp only [rowsD, List.map_cons, PyData.depthAll, PyData.depth, h1]
    exact Nat.max_le.mpr ⟨Nat.le_refl _, ih⟩
theorem mulOkL {a b : Int} (h0 : -1000000 ≤ a) (h1 : a ≤ 1000000) : IntMulOk a b := by
  refine IntMulOk.of_left ?_
  unfold Builtin.Int.intBits
  split
  · omega
  · rename_i h
    have : a.natAbs.log2 < 30 := (Nat.log2_lt (by intro q; have : a = 0 := by omega
                                                  subst this; simp at h)).mpr (by omega)
    omega
theorem rowOf_intsD (s : List Int) : rowOf (.one (.dat (.list (intsD s)))) = some s := by
  show some ((intsD s).map _) = some s
  unfold intsD
  rw [List.map_map]
  congr 1
  exact (List.map_congr_left fun _ _ => rfl).trans (List.map_id s)
theorem rowsD_mem {l : List (List Int)} {it : Tn} (h : it ∈ (rowsD l).map fun d => Tn.one (.dat d)) : ∃ s ∈ l, it = .one (.dat (.list (intsD s))) := by
  obtain ⟨d, hd, rfl⟩ := List.mem_map.mp h
  obtain ⟨n, hn, rfl⟩ := List.mem_map.mp hd
  exact ⟨n, hn, rfl⟩
theorem rowsD_filterMap (l : List (List Int)) (f : List Int → PyData) : ((rowsD l).map fun d => Tn.one (.dat d)).filterMap (fun t => (rowOf t).map f) = l.map f := by
  unfold rowsD
  rw [List.map_map, List.filterMap_map]
  rw [← List.filterMap_eq_map]
  congr 1; funext s
  show (rowOf (.one (.dat (.list (intsD s))))).map f = _
  rw [rowOf_intsD]; rfl
theorem Sq.drop {n : Nat} {r : List Int} {rest : List (List Int)} {i : Nat} (h : Sq (n + 1) (r :: rest)) (hi : i < n + 1) : Sq n (rest.map (dropAt i)) := by
  obtain ⟨h1, h2⟩ := h
  refine ⟨by simpa using h1, fun q hq => ?_⟩
  obtain ⟨s, hs, rfl⟩ := List.mem_map.mp hq
  obtain ⟨a, b⟩ := h2 s (List.mem_cons_of_mem _ hs)
  refine ⟨?_, fun e he => ?_⟩
  · unfold dropAt
    rw [List.length_append, List.length_take, List.length_drop]; omega
  · rcases List.mem_append.mp he with he | he
    · exact b e (List.mem_of_mem_take he)
    · exact b e (List.mem_of_mem_drop he)
section
variable {w : World}
theorem cn_det : ∀ (n : Nat) (t : List (List Int)), n ≤ 10 → Sq n t → Cn w (n + 1) (.ref 253) [.dat (.list (rowsD t))] (.dat (.int (detF n t))) := by
  intro n
  induction n with
  | zero =>
    intro t _ ⟨ht, _⟩
    obtain rfl := List.eq_nil_of_length_eq_zero ht
    exact Cn.of_body (k := 0) (ns := [S "table"]) (kF_at 55 rfl) (by decide) rfl (kF_at 54 rfl) (by decide) rfl rfl
      (fun vs h => by rcases vs with _ | ⟨a, _ | _⟩ <;> first | rfl | (simp at h))
      rfl rfl rfl (by decide) ⟨.inl rfl, trivial⟩ fun h₀ N =>
      Bk.ifT (b := true) (Tst.cmpD (Ev.name rfl rfl) (Ev.list (ds := []) .nil (by decide)) (Cmp.eqD rfl rfl (by decide)) rfl) (Bk.ret Ev.int)
  | succ n ih =>
    intro t hn hsq
    obtain ⟨ht, hr⟩ := id hsq
    obtain ⟨r, rest, rfl⟩ : ∃ r rest, t = r :: rest := by cases t with | nil => simp at ht | cons r rest => exact ⟨r, rest, rfl⟩
    have hrl : r.length = n + 1 := (hr r List.mem_cons_self).1
    have hrest : rest.length = n := by simpa using ht
    refine Cn.of_body (k := n + 1) (ns := [S "table"]) (kF_at 55 rfl) (by decide) rfl (kF_at 54 rfl) (by decide) rfl rfl
      (fun vs h => by rcases vs with _ | ⟨a, _ | _⟩ <;> first | rfl | (simp at h))
      rfl rfl rfl (by decide) ⟨.inl rfl, trivial⟩ fun h₀ N => ?_
    refine Bk.ifT (b := false) (Tst.to (Tst.cmpD (Ev.name rfl rfl) (Ev.list (ds := []) .nil (by decide)) (Cmp.eqD (by simp only [PyData.canLay0]; exact rowsD_lay _) rfl (by simp only [PyData.depth]; have := rowsD_depth (r :: rest); omega)) rfl) rfl) ?_
    refine Bk.cons (Thru.assign Ev.int (.inl rfl) rfl) ?_
    rintro W' ρ' ⟨rfl, rfl⟩
    refine Bk.cons (Thru.loop (xs := [S "place", S "entry"]) (Itr.enum (Ev.blt rfl rfl rfl (by decide) rfl) (.cons (fun _ => rfl) (Ev.itemL (j := 0) (d := .list (intsD r)) (Ev.name rfl rfl) Ev.int (by decide) (by decide) (by simp [seqIndex?, rowsD]) rfl (fun _ _ => rfl)) .nil)) (fun _ => rfl) (.two (.inr ⟨rfl, 0, rfl⟩) (.inl rfl)) (enumT_fits _ _)
      (fun i W' ρ' => W' = [] ∧ Sub [(S "total", .dat (.int ((r.zipIdx.take i).map fun p => sgn (p.2 : Nat) * p.1 * detF n (rest.map (dropAt p.2))).sum)), (S "table", .dat (.list (rowsD (r :: rest))))] ρ') ⟨rfl, rfl, rfl, trivial⟩ ?_) ?_
    · rintro N' i it W' ρ' hit ⟨rfl, hs'⟩
      obtain ⟨d, hd, rfl⟩ := enumT_get _ _ _ hit
      obtain ⟨e, hen, rfl⟩ := intsD_get hd
      have hil : i < r.length := (List.getElem?_eq_some_iff.mp hen).1
      have he := (hr r List.mem_cons_self).2 e (List.mem_of_getElem? hen)
      rw [detF_go _ _ _ _ _ hen]
      generalize ((r.zipIdx.take i).map fun p => sgn (p.2 : Nat) * p.1 * detF n (rest.map (dropAt p.2))).sum = tot at hs' ⊢
      rw [Nat.zero_add]
      refine Thru.pre (ρ' := [(S "entry", .dat (.int e)), (S "place", .dat (.int (i : Int))), (S "total", .dat (.int tot)), (S "table", .dat (.list (rowsD (r :: rest))))]) ((hs'.one (x := S "place") ⟨rfl, rfl, trivial⟩).one (x := S "entry") ⟨rfl, rfl, rfl, trivial⟩) ?_
      refine Thru.cons (Thru.comp (g := fun t => (rowOf t).map fun s => .list (intsD (dropAt i s))) (xs := [S "row"]) (oc := []) (ρc := [(S "place", .dat (.int (i : Int)))])
          { hit := Itr.list (ds := rowsD rest) (Ev.to (Ev.sliceL (a := some ((1 : Nat) : Int)) (Ev.name rfl rfl) (.of Ev.int) .no (by simp only [rowsD, List.length_map, List.length_cons]; omega) (fun _ _ => rfl)) (by rw [sliced_from _ _ (by simp [rowsD])]; rfl)) (Shps.ones _)
            hs := fun _ => rfl
            hclos := rfl
            hclo := by exact ⟨rfl, rfl, trivial⟩
            hkind := rfl
            hnames := by decide
            hoc := .no (fun _ _ => rfl) (fun _ => rfl)
            hcap := by exact ⟨⟨rfl, rfl, ⟨_, rfl, rfl⟩, rfl, rfl⟩, trivial⟩
            hxs' := rfl
            hxc' := rfl
            htg := fun _ => .one (.inl rfl)
            hft := fitsOne
            hsz := by simp only [rowsD, List.length_map]; omega
            body := fun N' C it hit => by
              obtain ⟨s, hs, rfl⟩ := rowsD_mem hit
              have hsl := (hr s (List.mem_cons_of_mem _ hs)).1
              rw [rowOf_intsD]
              refine ⟨rfl, Ev.to (Ev.addL (Ev.sliceL (a := none) (b := some (i : Int)) (Ev.name rfl rfl) .no (.of (Ev.name rfl rfl)) (by rw [intsD_length]; omega) (fun _ _ => rfl)) (Ev.sliceL (a := some ((i : Int) + 1)) (b := none) (Ev.name rfl rfl) (.of (Ev.addI (Ev.name rfl rfl) Ev.int)) .no (by rw [intsD_length]; omega) (fun _ _ => rfl)) ?_) ?_⟩
              · rw [sliced_upto _ _ (by rw [intsD_length]; omega), sliced_from1 _ _ (by rw [intsD_length]; omega), List.length_take, List.length_drop, intsD_length]
                have : sizeLine = 2 ^ 24 := rfl
                omega
              · rw [sliced_upto _ _ (by rw [intsD_length]; omega), sliced_from1 _ _ (by rw [intsD_length]; omega)]
                show _ = D.dat (.list (intsD (dropAt i s)))
                unfold intsD dropAt
                rw [List.map_append, List.map_take, List.map_drop] } (.inl rfl) rfl) ?_
      rintro W1 ρ1 ⟨rfl, rfl⟩
      have e1 : ((rowsD rest).map fun d => Tn.one (.dat d)).filterMap (fun t => (rowOf t).map fun s => PyData.list (intsD (dropAt i s))) = rowsD (rest.map (dropAt i)) := by
        rw [rowsD_filterMap]; unfold rowsD; rw [List.map_map]; rfl
      rw [e1]
      refine Thru.pre (ρ' := [(S "rest", .dat (.list (rowsD (rest.map (dropAt i))))), (S "entry", .dat (.int e)), (S "place", .dat (.int (i : Int))), (S "total", .dat (.int tot)), (S "table", .dat (.list (rowsD (r :: rest))))]) ⟨rfl, rfl, rfl, rfl, rfl, trivial⟩ ?_
      have hsg : -1 ≤ sgn i ∧ sgn i ≤ 1 := by unfold sgn; split <;> omega
      have hm : -1000000 ≤ sgn i * e ∧ sgn i * e ≤ 1000000 := by unfold sgn; split <;> omega
      refine (Thru.augI rfl (Ev.mulI (Ev.mulI (Ev.powNeg (Ev.neg Ev.int) (Ev.name rfl rfl) (by omega)) (Ev.name rfl rfl) (mulOkL (by show _ ≤ sgn i; omega) (by show sgn i ≤ _; omega)))
        (Ev.call (Ev.glob rfl rfl rfl) (.f (kF_at 55 rfl) (by decide) rfl) (.cons (fun _ => rfl) (Ev.name rfl rfl) .nil) (ih _ (by omega) (hsq.drop (by omega)))) (mulOkL hm.1 hm.2)) (.inl rfl)).to ?_
      rintro W2 ρ2 ⟨rfl, rfl⟩
      exact ⟨rfl, rfl, rfl, trivial⟩
    · rintro W' ρ' ⟨rfl, hs'⟩
      refine Bk.pre hs' (Bk.ret (Ev.to (Ev.name rfl rfl) ?_))
      rw [enumT_length, intsD_length, List.take_of_length_le (by simp)]
      rfl
end
end Mine
end
section
open PySem PySem.W PyProof.Rows
namespace Mine
section
variable {X : Fx} {k : Nat} {W : Own} {ρ : Vars} {A : Around} {E : Value → Shared → Prop} {s : Shared}
/-- a tree that falls through -/
noncomputable def ThruS (X : Fx) (k : Nat) (W : Own) (ρ : Vars) (t : Sem Unit) (P : Own → Vars → Prop) : Prop :=
  ∀ (A : Around) (E : Value → Shared → Prop) (s : Shared) (Q : Unit → Shared → Prop), Rm k A s.toks → Stt X W ρ s.heap →
    (∀ W' ρ' s', P W' ρ' → Stt X W' ρ' s'.heap → Mv X W W' s s' → Q () s') → wpAny (mo X.w) A t Q E s
/-- the loop of a comprehension's clause -/
theorem clause_loop {elt target : Expr} {gens : List Comprehension} {scope : Scope} {cpos : Pos} {depth : Nat} {acc : Value} {tail : Sem Unit} {ipos : Pos} {xs : List Str} {its : List Tn} {I : Addr} {fp wr : List Addr} {P Md : Nat → Value → Heap → Prop} {St : Nat → Heap → Prop} {s₂ : Shared} {R' : Result → Shared → Prop}
    (R : Rm k A s₂.toks) (T : Stt (X.sh fun a => X.N₀ a ∨ a ∈ wr) W ρ s₂.heap) (wrC : ∀ n c, X.env.cells.lookup n = some c → c ∉ wr) (wr0 : ∀ b ∈ wr, X.h₀.get? b = none) (wrN : ∀ b ∈ wr, X.N₀ b → b < X.h₀.objs.size) (W₀ : KTurns pw X.w A target I fp wr its.length P Md St) (hst : St 0 s₂.heap) (hfp : ∀ b ∈ fp, (∃ o, s₂.heap.get? b = some o) ∧ ¬ X.T W b)
    (hal : ∀ i h, St i h → ∀ b ∈ wr, ∃ o, h.get? b = some o)
    (hok : ∀ i it, its[i]? = some it → ∀ v h N', (∀ a, N' a → X.N W a ∨ a ∈ wr ∨ s₂.heap.get? a = none) → (∀ b o, s₂.heap.get? b = some o → ¬ X.T W b → b ∉ wr → h.get? b = some o) → P i v h → it.ok N' h v)
    (htree : compTurn (.ListComp elt gens scope cpos) depth (.ref I) acc X.env = (do
      standAt ipos
      match ← pyNext (.ref I) with
      | none => pure (.done .next)
      | some v =>
        letOwnedTupleGo target (.ref I) v
        assign target X.env v
        tail
        again (.compLoop (.ListComp elt gens scope cpos) depth (.ref I) acc X.env)))
    (ht : Tgn X.env target xs) (hf : ∀ it ∈ its, fits xs it) (J : Nat → Own → Vars → Prop) (h0 : J 0 W ρ)
    (step : ∀ N' i it W' ρ', its[i]? = some it → J i W' ρ' → ThruS (X.sh N') k W' (bindT xs it ρ') tail (J (i + 1)))
    (q : ∀ W' ρ' s', J its.length W' ρ' → Stt X W' ρ' s'.heap → (∃ h tk, s' = { s₂ with heap := h, toks := tk } ∧ s₂.toks ≤ tk) → (∀ b o, ¬ X.T W b → b ∉ wr → s₂.heap.get? b = some o → s'.heap.get? b = some o) →
      (∀ b, b ∈ W'.map (·.1) → b ∈ W.map (·.1) ∨ (s₂.heap.get? b = none ∧ ¬ X.T [] b)) → R' (.ok .next) s') :
    codeAny (mo X.w) A (.compLoop (.ListComp elt gens scope cpos) depth (.ref I) acc X.env) R' s₂ := by
  refine codeAny_loop rfl
    (fun n s' => ∃ h tk i Wi ρi, s' = { s₂ with heap := h, toks := tk } ∧ s₂.toks ≤ tk ∧ St i h ∧ i ≤ its.length ∧ n = its.length + 1 - i ∧ J i Wi ρi ∧ Stt (X.sh fun a => X.N₀ a ∨ a ∈ wr) Wi ρi h ∧
      (∀ b o, ¬ X.T W b → b ∉ wr → s₂.heap.get? b = some o → h.get? b = some o) ∧ (∀ b, b ∈ Wi.map (·.1) → b ∈ W.map (·.1) ∨ (s₂.heap.get? b = none ∧ ¬ X.T [] b))) ?_ (its.length + 1)
    ⟨s₂.heap, s₂.toks, 0, W, ρ, rfl, Nat.le_refl _, hst, Nat.zero_le _, rfl, h0, T, fun _ _ _ _ e => e, fun _ q => .inl q⟩
  rintro n s' ⟨h, tk, i, Wi, ρi, rfl, htk, hst', hi, rfl, hJ, Ti, hkp, hnw⟩
  show wpAny _ A ((compTurn (.ListComp elt gens scope cpos) depth (.ref I) acc X.env).onRaise (fun x => do noteFrame x X.env; theTreesLotGoes x)) _ _ _
  refine wpAny_noted ?_
  rw [htree]
  refine wpAny_bind (wpAny_standAt (wpAny_bind ?_))
  have wrT : ∀ b ∈ wr, ¬ X.T Wi b := fun b hb q => by
    obtain ⟨⟨o, e⟩, hn⟩ := hfp b (W₀.sub b hb)
    by_cases hw : b ∈ Wi.map (·.1)
    · rcases hnw b hw with q' | q'
      · exact hn (.inr (.inr q'))
      · rw [e] at q'; exact nomatch q'.1
    · exact hn (q.nil hw).any
  by_cases hlt : i < its.length
  · refine wpAny_with_toks (n := s₂.toks) htk (W₀.item i _ _ _ hlt hst' fun v h₁ tk₁ hMd hk₁ htk₁ => ?_)
    refine wpAny_bind (W₀.go i v _ _ _ hMd fun h₂ hP hst₂ hk₂ => ?_)
    have hk : ∀ b o, b ∉ wr → h.get? b = some o → h₂.get? b = some o := fun b o hb e => hk₂ b o hb (hk₁ b o hb e)
    have hkp₂ : ∀ b o, ¬ X.T W b → b ∉ wr → s₂.heap.get? b = some o → h₂.get? b = some o := fun b o a c e => hk b o c (hkp b o a c e)
    have T₂ : Stt (X.sh fun a => X.N₀ a ∨ a ∈ wr) Wi ρi h₂ := Ti.but (fun _ q => q) (fun b hb => .inr hb) hk wrT wrC wr0 fun a q => by
      rcases q with q | q
      · by_cases hw : a ∈ wr
        · exact .inr (hal _ _ hst₂ a hw)
        · rcases Ti.low a (.inl q) with q | ⟨o, e⟩
          · exact .inl q
          · exact .inr ⟨o, hk a o hw e⟩
      · exact .inr (hal _ _ hst₂ a q)
    obtain ⟨it, hit'⟩ : ∃ it, its[i]? = some it := ⟨its[i], List.getElem?_eq_getElem hlt⟩
    have iok : it.ok ((X.sh fun a => X.N₀ a ∨ a ∈ wr).N Wi) h₂ v := hok i it hit' v h₂ _ (fun a q => by
      rcases q with (q | q) | q
      · exact .inl (.inl q)
      · exact .inr (.inl q)
      · rcases hnw a q with q | q
        · exact .inl (.inr q)
        · exact .inr (.inr q.1)) (fun b o e a c => hkp₂ b o a c e) hP
    refine wpAny_bind (Stt.assignT (X := X.sh fun a => X.N₀ a ∨ a ∈ wr) (s := { s₂ with heap := h₂, toks := tk₁ }) (R.up htk₁) T₂ ht (hf it (List.mem_of_getElem? hit')) iok fun s₃ T₃ m₃ => ?_)
    refine wpAny_bind (step (fun a => X.N₀ a ∨ a ∈ wr) i it Wi ρi hit' hJ A _ s₃ _ ((R.up htk₁).up m₃.mv'.le) T₃ fun W₄ ρ₄ s₄ hJ₄ T₄ m₄ => ?_)
    have mm := (m₃.mv (W := Wi)).trans m₄
    obtain ⟨h₄, tk₄, e4, q4⟩ := mm.same
    subst e4
    refine wpAny_pure ⟨rfl, its.length + 1 - (i + 1), by omega, h₄, tk₄, i + 1, W₄, ρ₄, rfl, Nat.le_trans htk₁ q4, ?_, hlt, rfl, hJ₄, T₄, fun b o a c e => ?_, fun b q => ?_⟩
    · refine W₀.frame _ _ _ hst₂ fun b hb o e => mm.kept b o (fun q => ?_) e
      obtain ⟨⟨o', e'⟩, hn⟩ := hfp b hb
      by_cases hw : b ∈ Wi.map (·.1)
      · rcases hnw b hw with q' | q'
        · exact hn (.inr (.inr q'))
        · rw [e'] at q'; exact nomatch q'.1
      · exact hn (Fx.T.any (Fx.T.nil (X := X) q hw))
    · refine mm.kept b o (fun q => ?_) (hkp₂ b o a c e)
      by_cases hw : b ∈ Wi.map (·.1)
      · rcases hnw b hw with q' | q'
        · exact a (.inr (.inr q'))
        · rw [e] at q'; exact nomatch q'.1
      · exact a (Fx.T.any (Fx.T.nil (X := X) q hw))
    · rcases mm.newer b q with q | q
      · exact hnw b q
      · by_cases hw : b ∈ W.map (·.1)
        · exact .inl hw
        · by_cases hb : b ∈ wr
          · obtain ⟨o, e⟩ := hal _ _ hst₂ b hb; rw [e] at q; exact nomatch q.1
          · refine .inr ⟨?_, q.2⟩
            cases e : s₂.heap.get? b with
            | none => rfl
            | some o => have := hkp₂ b o (fun t => q.2 (t.nil hw)) hb e; rw [this] at q; exact nomatch q.1
  · have hin : i = its.length := by omega
    subst hin
    refine wpAny_with_toks (n := s₂.toks) htk (W₀.done _ _ _ hst' fun h₁ tk₁ hk₁ htk₁ => wpAny_pure ?_)
    have T₁ : Stt X Wi ρi h₁ := Ti.but (M := X.N₀) (fun _ q => .inl q) (fun b hb => .inr hb) hk₁ wrT wrC wr0 fun a q => by
      by_cases hw : a ∈ wr
      · exact .inl (wrN a hw q)
      · rcases Ti.low a (.inl q) with q | ⟨o, e⟩
        · exact .inl q
        · exact .inr ⟨o, hk₁ a o hw e⟩
    exact q Wi ρi _ hJ T₁ ⟨h₁, tk₁, rfl, htk₁⟩ (fun b o hb hbw e => hk₁ b o hbw (hkp b o hb hbw e)) hnw
/-- the inner clause: its iterator is made in the comprehension's frame -/
theorem ThruS.clause {elt target iter : Expr} {gens : List Comprehension} {scope : Scope} {cpos : Pos} {depth : Nat} {acc : Value} {tail : Sem Unit} {ipos : Pos} {xs : List Str} {its : List Tn}
    (hit : Itr X k W ρ target iter its) (hs : ∀ x, foldedSetIterable iter X.env x = pure x) (ht : Tgn X.env target xs) (hf : ∀ it ∈ its, fits xs it)
    (htree : ∀ I, compTurn (.ListComp elt gens scope cpos) depth (.ref I) acc X.env = (do
      standAt ipos
      match ← pyNext (.ref I) with
      | none => pure (.done .next)
      | some v =>
        letOwnedTupleGo target (.ref I) v
        assign target X.env v
        tail
        again (.compLoop (.ListComp elt gens scope cpos) depth (.ref I) acc X.env)))
    (hstart : ∀ (A : Around) (R' : Result → Shared → Prop) (s : Shared) I, codeAny (mo X.w) A (.compLoop (.ListComp elt gens scope cpos) depth (.ref I) acc X.env) R' s →
      wpAny (mo X.w) A (pyIter (.ref I)) (fun it' s' => codeAny (mo X.w) A (.compLoop (.ListComp elt gens scope cpos) depth it' acc X.env) R' s') (notedBy (mo X.w) A X.env fun x s' => R' (.error x) s') s →
      codeAny (mo X.w) A (.compStart (.ListComp elt gens scope cpos) depth (.ref I) acc X.env) R' s)
    (J : Nat → Own → Vars → Prop) (h0 : J 0 W ρ)
    (step : ∀ N' i it W' ρ', its[i]? = some it → J i W' ρ' → ThruS (X.sh N') k W' (bindT xs it ρ') tail (J (i + 1))) :
    ThruS X k W ρ (do
      let x ← eval iter X.env
      standAt iter.pos
      let x ← foldedSetIterable iter X.env x
      let _ ← runOwn (.compStart (.ListComp elt gens scope cpos) depth (← holding [x] (pyIter x)) acc X.env) X.env) (J its.length) := fun A E s Q R T q => by
  refine wpAny_bind (wpAny_mono (hit A E s (fun it s₂ => codeAny (mo X.w) A (.compStart (.ListComp elt gens scope cpos) depth it acc X.env) (fun r s' => match r with | .ok _ => Q () s' | .error e => cameBackBy (mo X.w) A X.env E e s') s₂) R T fun I fp wr P Md St s₂ t W₀ hst hwr hfp hal hok hself => ?_) (fun x s₁ h₁ => ?_) fun _ _ e => e)
  · have loop : codeAny (mo X.w) A (.compLoop (.ListComp elt gens scope cpos) depth (.ref I) acc X.env) (fun r s' => match r with | .ok _ => Q () s' | .error e => cameBackBy (mo X.w) A X.env E e s') s₂ := by
      refine clause_loop (R.to t) (T.shun hwr t.heap (hal 0 _ hst)) (fun n c e q => by obtain ⟨v, o, e', _⟩ := T.cel n c e; rw [hwr c q] at e'; cases e') (fun b hb => get_none_kp T.keep (hwr b hb)) (fun b hb q => ?_) W₀ hst hfp hal hok (htree I) ht hf J h0 step fun W' ρ' s' hJ T' hs' hk hn => ?_
      · rcases T.low b q with q | ⟨o, e⟩
        · exact q
        · rw [hwr b hb] at e; cases e
      · refine q W' ρ' s' hJ T' ⟨?_, fun b o hb e => ?_, fun b q => ?_⟩
        · obtain ⟨h2, t2, rfl, _, q2⟩ := t; obtain ⟨h3, t3, rfl, q3⟩ := hs'; exact ⟨h3, t3, rfl, Nat.le_trans q2 q3⟩
        · exact hk b o hb (fun q => by rw [hwr b q] at e; cases e) (t.heap b o e)
        · rcases hn b q with q | q
          · exact .inl q
          · exact .inr ⟨get_none_kp t.heap q.1, q.2⟩
    exact hstart A _ s₂ I loop (hself A _ s₂ _ hst loop)
  · refine wpAny_bind (wpAny_standAt (wpAny_bind (wpAny_of_eq (hs x) (wpAny_bind (wpAny_holding (wpAny_mono h₁ (fun it s₂ h₂ => ?_) fun _ _ e => e))))))
    exact wpAny_bind (wpAny_runOwn (codeAny_mono h₂ fun r s' hr => by cases r <;> first | exact wpAny_pure hr | exact hr))
end
end Mine
end
section
open PySem PySem.W PyProof.Rows
namespace Mine
section
variable {X : Fx} {k : Nat} {W : Own} {ρ : Vars} {A : Around} {E : Value → Shared → Prop} {s : Shared}
/-- the tree behind a turn of the first clause -/
noncomputable def tail2 (e iter2 : Expr) (acc : Value) (env : Env) : Sem Unit := do
  let x ← eval iter2 env
  standAt iter2.pos
  let x ← foldedSetIterable iter2 env x
  let _ ← runOwn (.compStart e 1 (← holding [x] (pyIter x)) acc env) env
/-- the tree behind a turn of the second -/
noncomputable def emit2 (elt : Expr) (ifs : List Expr) (acc : Value) (env : Env) : Sem Unit := do
  let mut ok := true
  for c in ifs do
    if ok then ok ← isTrue c env (eval c env)
  if ok then
    (do let _ ← call (.builtin "list.append") [acc, ← eval elt env])
theorem tree20 (elt t1 i1 t2 i2 : Expr) (ifs : List Expr) (scope : Scope) (pos : Pos) (it acc : Value) (env : Env) :
    compTurn (.ListComp elt [⟨t1, i1, [], 0⟩, ⟨t2, i2, ifs, 0⟩] scope pos) 0 it acc env = (do
      standAt i1.pos
      match ← pyNext it with
      | none => pure (.done .next)
      | some v =>
        letOwnedTupleGo t1 it v
        assign t1 env v
        tail2 (.ListComp elt [⟨t1, i1, [], 0⟩, ⟨t2, i2, ifs, 0⟩] scope pos) i2 acc env
        again (.compLoop (.ListComp elt [⟨t1, i1, [], 0⟩, ⟨t2, i2, ifs, 0⟩] scope pos) 0 it acc env)) := by
  unfold tail2
  simp only [bind_assoc]
  first
    | rfl
    | (show (standAt i1.pos >>= fun _ => pyNext it >>= _) = _
       congr 1; funext _; congr 1; funext r
       cases r with
       | none => rfl
       | some v => rfl)
theorem tree21 (elt t1 i1 t2 i2 : Expr) (ifs : List Expr) (scope : Scope) (pos : Pos) (it acc : Value) (env : Env) :
    compTurn (.ListComp elt [⟨t1, i1, [], 0⟩, ⟨t2, i2, ifs, 0⟩] scope pos) 1 it acc env = (do
      standAt i2.pos
      match ← pyNext it with
      | none => pure (.done .next)
      | some v =>
        letOwnedTupleGo t2 it v
        assign t2 env v
        emit2 elt ifs acc env
        again (.compLoop (.ListComp elt [⟨t1, i1, [], 0⟩, ⟨t2, i2, ifs, 0⟩] scope pos) 1 it acc env)) := by
  unfold emit2
  simp only [bind_assoc]
  show (standAt i2.pos >>= fun _ => pyNext it >>= _) = _
  congr 1; funext _; congr 1; funext r
  cases r with
  | none => rfl
  | some v =>
    show (letOwnedTupleGo t2 it v >>= fun _ => assign t2 env v >>= fun _ => _) = _
    congr 1; funext _; congr 1; funext _
    show (forIn ifs true _ >>= fun ok => _) = (forIn ifs true _ >>= fun ok => _)
    congr 1; funext ok
    cases ok with
    | false => rfl
    | true => simp only [if_true, bind_assoc]; rfl
theorem start21 {elt t1 i1 t2 i2 : Expr} {ifs : List Expr} {scope : Scope} {pos : Pos} {acc it : Value} {env : Env} {w : World} {R' : Result → Shared → Prop}
    (h0 : codeAny (mo w) A (.compLoop (.ListComp elt [⟨t1, i1, [], 0⟩, ⟨t2, i2, ifs, 0⟩] scope pos) 1 it acc env) R' s)
    (h : wpAny (mo w) A (pyIter it) (fun it' s' => codeAny (mo w) A (.compLoop (.ListComp elt [⟨t1, i1, [], 0⟩, ⟨t2, i2, ifs, 0⟩] scope pos) 1 it' acc env) R' s') (notedBy (mo w) A env fun x s' => R' (.error x) s') s) :
    codeAny (mo w) A (.compStart (.ListComp elt [⟨t1, i1, [], 0⟩, ⟨t2, i2, ifs, 0⟩] scope pos) 1 it acc env) R' s := by
  refine codeAny_of_tree ?_
  show wpAny _ _ ((compStart (.ListComp elt [⟨t1, i1, [], 0⟩, ⟨t2, i2, ifs, 0⟩] scope pos) 1 it acc env).onRaise (fun x => do noteFrame x env; standAt theWindowsPlace)) _ _ s
  refine wpAny_notedAt ?_
  unfold compStart
  show wpAny _ _ (ask >>= _) _ _ s
  refine wpAny_bind (wpAny_askSetting (wpAny_ite ?_))
  split
  · first
      | exact wpAny_bind (wpAny_pure (wpAny_pure (And.intro rfl h0)))
      | exact wpAny_pure (And.intro rfl h0)
  · refine wpAny_bind (wpAny_rule ?_)
    show wpAny _ _ (standAt i2.pos >>= _) _ _ s
    exact wpAny_bind (wpAny_standAt (wpAny_bind (wpAny_mono h (fun it' s' h' => wpAny_pure (And.intro rfl h')) fun _ _ x => x)))
theorem ThruS.emit {elt : Expr} {ifs : List Expr} {D : Addr} {ds : List PyData} {r : Option PyData} (hna : D ∉ W.map (·.1)) (hn : ds.length ≤ 100000) (hc : CE X k ((D, ds) :: W) ρ ifs elt r) :
    ThruS X k ((D, ds) :: W) ρ (emit2 elt ifs (.ref D) X.env) (fun W' ρ' => W' = (D, ds ++ r.toList) :: W ∧ ρ' = ρ) := fun A E s Q R T q => by
  unfold emit2
  cases r with
  | none =>
    refine wpAny_bind (wpAny_testsAll hc R T fun s' t => wpAny_pure (q _ _ _ ⟨by simp, rfl⟩ (T.keeps t.heap) (Mv.ofTo t)))
  | some d =>
    refine wpAny_bind (wpAny_testsAll hc.1 R T fun s₁ t => ?_)
    have T₁ := T.keeps t.heap
    refine wpAny_bind (hc.2 A E s₁ _ (R.to t) T₁ fun y s₂ t₂ ry => ?_)
    have T₂ := T₁.keeps t₂.heap
    obtain ⟨ha, vs, n, hb, hcc⟩ := T₂.own (D, ds) List.mem_cons_self
    have hl := hcc.length
    rw [Array.length_toList] at hl
    refine wpAny_bind (wpAny_list_append_plain (hsz := by have : sizeLine = 2 ^ 24 := rfl; simp only at hl; omega) ⟨n, hb⟩ fun h' ⟨n', hl'⟩ hs => wpAny_pure ?_)
    refine q _ _ _ ⟨rfl, rfl⟩ (T₂.ownPut (ds' := ds ++ [d]) hna hs hl' ?_) (((Mv.ofTo (t.trans t₂))).trans (ownMv rfl hs))
    rw [Array.toList_push]
    exact hcc.append (.cons ry .nil)
end
end Mine
end
section
open PySem PySem.W PyProof.Rows
namespace Mine
/-- a comprehension of two clauses, the first without a test -/
structure Comp2Ok (X : Fx) (k : Nat) (ρ : Vars) (e i2 t1 i1 : Expr) (scope : Scope) (its : List Tn) (acc : Nat → List PyData) (xs oc : List Str) (cl : List (Str × Addr)) (ρc : Vars) : Prop where
  hit : Itr X k [] ρ t1 i1 its
  hs : ∀ x, foldedSetIterable i1 X.env x = pure x
  hclos : closureFor scope X.env = pure cl
  hclo : Clo X cl
  hkind : scope.kind = .function
  hnames : ∀ x ∈ scope.names, x.2 = .local → scope.names.lookup x.1 = some .local
  hoc : OwnC scope oc
  hcap : Cap X scope oc cl ρ ρc
  htg : ∀ (C : Nat), Tgn (compEnvC scope (ownCells oc (C + 1) ++ cl) C X.env) t1 xs
  hft : ∀ it ∈ its, fits xs it
  h0 : acc 0 = []
  hsub : Sub ρc ρc
  body : ∀ (N' : Addr → Prop) (C D i : Nat) (it : Tn) (ρ' : Vars), its[i]? = some it → Sub ρc ρ' →
    ThruS ((X.sh N').inComp scope (ownCells oc (C + 1) ++ cl) C) k [(D, acc i)] (bindT xs it ρ') (tail2 e i2 (.ref D) (compEnvC scope (ownCells oc (C + 1) ++ cl) C X.env)) (fun W' ρ' => W' = [(D, acc (i + 1))] ∧ Sub ρc ρ')
section
variable {X : Fx} {k : Nat} {ρ : Vars} {A : Around} {E : Value → Shared → Prop} {s : Shared}
theorem Comp2Ok.block {elt t1 i1 t2 i2 : Expr} {ifs : List Expr} {scope : Scope} {pos : Pos} {its : List Tn} {acc : Nat → List PyData} {xs oc : List Str} {cl : List (Str × Addr)} {ρc : Vars}
    (K : Comp2Ok X k ρ (.ListComp elt [⟨t1, i1, [], 0⟩, ⟨t2, i2, ifs, 0⟩] scope pos) i2 t1 i1 scope its acc xs oc cl ρc) (R : Rm k A s.toks) (T : Stt X [] ρ s.heap) (RR : Value → Addr → Result → Shared → Prop)
    (hRR : ∀ D C m s', s.heap.get? D = none → s.heap.get? C = none → D ≠ C → To s s' → s'.heap.Ns C m → Rd (X.N []) s'.heap (.ref D) (.list (acc its.length)) → RR (.ref D) C (.ok .next) s') :
    wpAny (mo X.w) A (eval i1 X.env) (fun x s₁ => wpAny (mo X.w) A (pyIter x) (fun it s₂ => wpAny (mo X.w) A (newList []) (fun acc s₃ =>
      wpAny (mo X.w) A (newFunctionEnv scope X.env.globals cl [] X.env.qual none .none (some X.env)) (fun cenv s₄ =>
        codeAny (mo X.w) A (.compStart (.ListComp elt [⟨t1, i1, [], 0⟩, ⟨t2, i2, ifs, 0⟩] scope pos) 0 it acc { cenv with scope := relabel scope X.env }) (RR acc cenv.locals) s₄) E s₃) E s₂) E s₁) E s := by
  refine K.hit A E s _ R T fun I fp wr P Md St s₂ t W₀ hst hwr hfp hal hok hself => ?_
  have T₂ := T.keeps t.heap
  refine wpAny_newObj_type ?_
  have Tad := Stt.adopt (X := X.sh fun a => X.N₀ a ∨ a ∈ wr) (vs := []) (ds := []) (T.shun hwr t.heap (hal 0 _ hst)) .nil
  have hD3 : IsL (s₂.heap.push { cls := .type "list", data := .seq ([] : List Value).toArray }) s₂.heap.objs.size #[] 0 := Heap.get?_push_size _ rfl
  have sz3 : (s₂.heap.push { cls := .type "list", data := .seq ([] : List Value).toArray }).objs.size = s₂.heap.objs.size + 1 := Heap.size_push ..
  have k3 : Kp s₂.heap (s₂.heap.push { cls := .type "list", data := .seq ([] : List Value).toArray }) := Kp.push _ _
  generalize s₂.heap.push { cls := .type "list", data := .seq ([] : List Value).toArray } = H3 at Tad hD3 sz3 k3 ⊢
  generalize hD : s₂.heap.objs.size = D at Tad hD3 sz3 ⊢
  refine newCompEnv (s := { s₂ with heap := H3 }) K.hoc fun H4 C c env' eC ec k4 hC hc he hl => ?_
  have k34 : Kp s₂.heap H4 := fun b o e => k4 b o (k3 b o e)
  have eC' : C = D + 1 := eC.trans sz3
  have ec' : c = D + 2 := ec.trans (by show H3.objs.size + 1 = _; rw [sz3])
  obtain rfl : c = C + 1 := by omega
  rw [he, hl]
  have hDC : D ≠ C := by omega
  have new2 : ∀ {a : Nat}, D ≤ a → s₂.heap.get? a = none := fun ha => get_none (hD ▸ ha)
  have newS : ∀ {a : Nat}, D ≤ a → s.heap.get? a = none := fun ha => get_none_kp t.heap (new2 ha)
  have h0le : X.h₀.objs.size ≤ D := by
    obtain ⟨m, hm⟩ := T₂.loc
    exact Nat.le_of_lt (Nat.lt_of_le_of_lt T.above (hD ▸ hm.lt))
  have ocl : oc.length ≤ 1 := by cases K.hoc <;> simp
  have Ta4 := Tad.keeps (h' := H4) k4
  let Y : Fx := X.inComp scope (ownCells oc (C + 1) ++ cl) C
  have TY : Stt (Y.sh fun a => Y.N₀ a ∨ a ∈ wr) [(D, [])] ρc H4 := Stt.comp (X := X.sh fun a => X.N₀ a ∨ a ∈ wr) Ta4 K.hkind (Clo.sh K.hclo) ocl (Cap.sh K.hcap) hC (hc.imp id fun q => ⟨_, q⟩) (by show X.h₀.objs.size ≤ C; omega) (by show X.h₀.objs.size ≤ C + 1; omega) fun n a e q => by
    obtain ⟨v, o, e', _⟩ := T₂.cel n a e
    rw [q] at e'; rw [new2 (by omega)] at e'; cases e'
  -- what is there ahead of the comprehension is none of its own
  have YT : ∀ (b : Nat) (W' : Own), (∀ p ∈ W', p.1 = D) → Y.T W' b → D ≤ b := fun b W' hW q => by
    rcases q with q | ⟨n, q, hlt⟩ | q
    · have : (b : Nat) = C := q; omega
    · have : (C : Nat) < b := hlt; omega
    · obtain ⟨p, hp, rfl⟩ := List.mem_map.mp q; exact Nat.le_of_eq (hW p hp).symm
  have old2 : ∀ (b : Nat) (o : Obj), s₂.heap.get? b = some o → b < D := fun b o e => hD ▸ Heap.lt_size e
  have wrC : ∀ n c, Y.env.cells.lookup n = some c → c ∉ wr := fun n c e q => by
    obtain ⟨⟨o, e2⟩, _⟩ := hfp c (W₀.sub c q)
    rcases lookup_ownSome e with e | e
    · have q1 := old2 c o e2
      have e' : (c : Nat) = C + 1 := e
      rw [e'] at q1; omega
    · obtain ⟨v, o, e', _⟩ := T.cel _ _ (K.hclo.at _ (mem_of_lookup e))
      rw [hwr c q] at e'; cases e'
  have loop : codeAny (mo X.w) A (.compLoop (.ListComp elt [⟨t1, i1, [], 0⟩, ⟨t2, i2, ifs, 0⟩] scope pos) 0 (.ref I) (.ref D) Y.env) (RR (.ref D) C) { s₂ with heap := H4 } := by
    refine clause_loop (X := Y) (s₂ := { s₂ with heap := H4 }) (R.up t.le) TY wrC (fun b hb => get_none_kp T.keep (hwr b hb)) (fun b hb q => ?_) W₀ (W₀.frame _ _ _ hst fun b _ o e => k34 b o e) (fun b hb => ?_) hal (fun i it e v h N' hN kp hP => ?_)
      (tree20 elt t1 i1 t2 i2 ifs scope pos (.ref I) (.ref D) Y.env) (K.htg C) K.hft (fun i W' ρ' => W' = [(D, acc i)] ∧ Sub ρc ρ') ⟨by rw [K.h0], K.hsub⟩ ?_ ?_
    · rcases T.low b q with q | ⟨o, e⟩
      · exact q
      · rw [hwr b hb] at e; cases e
    · obtain ⟨⟨o, e⟩, hn⟩ := hfp b hb
      refine ⟨⟨o, k34 b o e⟩, fun q => ?_⟩
      have := YT b _ (by simp) q
      have := old2 b o e
      omega
    · refine hok i it e v h N' (fun a q => ?_) (fun b o e' a c => kp b o (k34 b o e') (fun q => ?_) c) hP
      · rcases hN a q with (q | q) | q | q
        · exact .inl (.inl q)
        · have : a = D := by simpa using q
          exact .inr (.inr (this ▸ new2 (Nat.le_refl _)))
        · exact .inr (.inl q)
        · exact .inr (.inr (get_none_kp k34 q))
      · have := YT b _ (by simp) q
        have := old2 b o e'
        omega
    · rintro N' i it W' ρ' hit' ⟨rfl, hs⟩
      exact K.body N' C D i it ρ' hit' hs
    · rintro W' ρ' s' ⟨rfl, hs⟩ T' ⟨h, tk, rfl, htk⟩ hk hn
      have hkS : Kp s.heap h := fun b o e => by
        have e2 := t.heap b o e
        refine hk b o (fun q => ?_) (fun q => by rw [hwr b q] at e; cases e) (k34 b o e2)
        have := YT b _ (by simp) q
        have := old2 b o e2
        omega
      obtain ⟨ha, vs, n, hb, hcc⟩ := T'.own (D, acc its.length) List.mem_cons_self
      obtain ⟨m, hm⟩ := T'.loc
      refine hRR D C m _ (newS (Nat.le_refl _)) (newS (a := C) (by omega)) hDC ?_ hm (.list hb ?_ (hcc.less fun a q => q.imp id fun q => absurd q (by simp)))
      · obtain ⟨hh, tt, e2, kk, qq⟩ := t
        subst e2
        exact ⟨h, tk, rfl, hkS, Nat.le_trans qq htk⟩
      · rintro (q | q)
        · exact (Nat.lt_irrefl _ (Nat.lt_of_lt_of_le (T₂.nlt D (.inl q)) (hD ▸ Nat.le_refl _)))
        · simp at q
  exact codeAny_compStart_list loop (hself A _ { s₂ with heap := H4 } _ (W₀.frame _ _ _ hst fun b _ o e => k34 b o e) loop)
theorem Thru.comp2 {elt t1 i1 t2 i2 : Expr} {ifs : List Expr} {scope : Scope} {pos spos : Pos} {y : Str} {py : Pos} {its : List Tn} {acc : Nat → List PyData} {xs oc : List Str} {cl : List (Str × Addr)} {ρc : Vars}
    (K : Comp2Ok X k ρ (.ListComp elt [⟨t1, i1, [], 0⟩, ⟨t2, i2, ifs, 0⟩] scope pos) i2 t1 i1 scope its acc xs oc cl ρc) (hy : Kn X.env y) (hsw : swapsWith (.ListComp elt [⟨t1, i1, [], 0⟩, ⟨t2, i2, ifs, 0⟩] scope pos) (some (.Name y py)) spos.line X.env = pure true) :
    Thru X k [] ρ [.Assign [.Name y py] (.ListComp elt [⟨t1, i1, [], 0⟩, ⟨t2, i2, ifs, 0⟩] scope pos) spos] (fun W' ρ' => W' = [] ∧ ρ' = put y (.dat (.list (acc its.length))) ρ) := fun A E s Q R T q => by
  refine one ?_
  rw [exec_Assign_Name_used _ _ _ _ hsw]
  refine wpAny_bind (wpAny_standAt (wpAny_bind ?_))
  show wpAny _ A (do let _ ← comprehension (.ListComp elt [⟨t1, i1, [], 0⟩, ⟨t2, i2, ifs, 0⟩] scope pos) scope X.env _ (newList []) false (eval i1 X.env) (some (PySem.assign (.Name y py) X.env))) _ _ s
  refine wpAny_bind (wpAny_mono (wpAny_comprehension_free (use := some (PySem.assign (.Name y py) X.env)) (Q := fun _ s' => Q .next s') rfl K.hs K.hclos K.hkind K.hnames
    (K.block R T (fun acc C => compPost (mo X.w) A E (some (PySem.assign (.Name y py) X.env)) (fun _ s' => Q .next s') acc C) fun D C m s' hD hC hDC t hn r => ?_)) (fun _ s' hq => wpAny_pure (wpAny_pure hq)) fun _ _ e => e)
  show wpAny _ A (PySem.assign (.Name y py) X.env (.ref D)) _ _ _
  have T' := T.keeps t.heap
  have nT : ¬ X.T [] C := by
    rintro (q | ⟨n, q, _⟩ | q)
    · obtain ⟨m', o, _, _, e, _⟩ := T.loc; rw [← q, hC] at e; cases e
    · obtain ⟨v, o, e, _⟩ := T.cel _ _ q; rw [hC] at e; cases e
    · simp at q
  refine wpAny_assign_Name (T'.store (d := .dat (.list (acc its.length))) hy r fun s'' T'' m'' => ?_)
  have nG : ¬ X.G [y] C := fun q => nT (by rcases q with q | ⟨x, _, q⟩; exact .inl q; exact .inr (.inl ⟨x, q⟩))
  have hn' : s''.heap.Ns C m := hn.at' fun o e => m''.kept C o nG e
  refine ⟨m, hn', fun h' hs => ?_⟩
  have h0 : X.h₀.get? C = none := get_none_kp T.keep hC
  have Tf : Stt X [] (put y (.dat (.list (acc its.length))) ρ) h' := T''.dictBut hn' hs nT h0 fun a ha => by
    rcases T.low a ha with q | ⟨o, e⟩
    · exact .inl q
    · rcases T''.low a ha with q | ⟨o', e'⟩
      · exact .inl q
      · exact .inr ⟨o', hs.extBut a o' (fun q => by rw [q, hC] at e; cases e) e'⟩
  refine q [] _ _ ⟨rfl, rfl⟩ Tf ⟨?_, fun b o hb e => ?_, fun _ q => .inl q⟩
  · obtain ⟨hh, tk, rfl, kk, q1⟩ := t
    obtain ⟨h2, t2, e2, q2⟩ := m''.same
    subst e2
    exact ⟨h', t2, rfl, Nat.le_trans q1 q2⟩
  · have hbC : b ≠ C := fun q => by rw [q, hC] at e; cases e
    exact hs.extBut b o hbC (m''.mv.kept b o hb (t.heap b o e))
end
end Mine
end
section
open PySem PySem.W PyProof.Rows
namespace Mine
noncomputable def tl (told : List (List Int)) (row : List Int) (p : Nat) : Int := (told.getD (row.getD (row.length - 1) 0).toNat []).getD p 0
noncomputable def okP (told : List (List Int)) (along row : List Int) (p : Nat) : Bool := along.any (· == tl told row p)
noncomputable def extR (told : List (List Int)) (along row : List Int) (ps : List Nat) : List (List Int) := (ps.filter (okP told along row)).map fun (p : Nat) => row ++ [(p : Int)]
noncomputable def stepR (told : List (List Int)) (along : List Int) (rows : List (List Int)) : List (List Int) := rows.flatMap fun row => extR told along row (List.range 4)
noncomputable def rowsF (told : List (List Int)) (along : List Int) : Nat → List (List Int)
  | 0 => [[0], [1], [2], [3]]
  | n + 1 => stepR told along (rowsF told along n)
/-- a row as it may be: not empty, of places -/
noncomputable def RowOk (row : List Int) : Prop := row ≠ [] ∧ row.length ≤ 10 ∧ ∀ e ∈ row, 0 ≤ e ∧ e < 4
noncomputable def ToldOk (told : List (List Int)) : Prop := told.length = 4 ∧ ∀ r ∈ told, r.length = 4
theorem rowsF_ok (told : List (List Int)) (along : List Int) : ∀ n, n ≤ 4 → ∀ row ∈ rowsF told along n, row ≠ [] ∧ row.length = n + 1 ∧ ∀ e ∈ row, 0 ≤ e ∧ e < 4 := by
  intro n
  induction n with
  | zero =>
    intro _ row h
    have h' : row = [0] ∨ row = [1] ∨ row = [2] ∨ row = [3] := by simpa [rowsF] using h
    rcases h' with rfl | rfl | rfl | rfl <;> refine ⟨by simp, rfl, fun e he => ?_⟩ <;> (rw [List.mem_singleton.mp he]; omega)
  | succ n ih =>
    intro hn row h
    obtain ⟨r, hr, h⟩ := List.mem_flatMap.mp h
    obtain ⟨p, hp, rfl⟩ := List.mem_map.mp h
    obtain ⟨a, b, c⟩ := ih (by omega) r hr
    have hp' := List.mem_range.mp (List.mem_filter.mp hp).1
    refine ⟨by simp, by simp [b], fun e he => ?_⟩
    rcases List.mem_append.mp he with he | he
    · exact c e he
    · rw [List.mem_singleton.mp he]; omega
theorem rowsF_length (told : List (List Int)) (along : List Int) : ∀ n, (rowsF told along n).length ≤ 4 ^ (n + 1) := by
  intro n
  induction n with
  | zero => simp [rowsF]
  | succ n ih =>
    have h1 : ∀ l : List (List Int), (stepR told along l).length ≤ 4 * l.length := by
      intro l
      induction l with
      | nil => simp [stepR]
      | cons x r ih =>
        simp only [stepR, List.flatMap_cons, List.length_append, List.length_cons] at ih ⊢
        have h2 : (extR told along x (List.range 4)).length ≤ 4 := by
          unfold extR
          rw [List.length_map]
          exact Nat.le_trans (List.length_filter_le _ _) (by rw [List.length_range]; exact Nat.le_refl _)
        omega
    have := h1 (rowsF told along n)
    show (stepR told along (rowsF told along n)).length ≤ _
    rw [Nat.pow_succ]
    omega
theorem any_intsD (l : List Int) (v : Int) : ((intsD l).any fun y => PyData.eqv y (.int v)) = l.any (· == v) := by
  unfold intsD
  rw [List.any_map]; rfl
theorem intsD_lay (l : List Int) : PyData.canLayAll0 (intsD l) = true := by
  induction l with
  | nil => rfl
  | cons x r ih => simp only [intsD, List.map_cons, PyData.canLayAll0, PyData.canLay0, Bool.true_and]; exact ih
theorem rowsD_at {t : List (List Int)} {i : Nat} (h : i < t.length) : (rowsD t)[i]? = some (.list (intsD (t.getD i []))) := by
  unfold rowsD
  rw [List.getElem?_map, List.getElem?_eq_getElem h, List.getD_eq_getElem?_getD, List.getElem?_eq_getElem h]; rfl
theorem rowsD_length (t : List (List Int)) : (rowsD t).length = t.length := List.length_map ..
theorem rowsD_append (a b : List (List Int)) : rowsD (a ++ b) = rowsD a ++ rowsD b := List.map_append ..
theorem ThruS.pre {X : Fx} {k : Nat} {W : Own} {ρ ρ' : Vars} {t : Sem Unit} {P : Own → Vars → Prop} (hs : Sub ρ' ρ) (h : ThruS X k W ρ' t P) : ThruS X k W ρ t P := fun A E s Q R T q => h A E s Q R (T.less hs.mem) q
theorem ThruS.to {X : Fx} {k : Nat} {W : Own} {ρ : Vars} {t : Sem Unit} {P P' : Own → Vars → Prop} (h : ThruS X k W ρ t P) (h' : ∀ W' ρ', P W' ρ' → P' W' ρ') : ThruS X k W ρ t P' := fun A E s Q R T q => h A E s Q R T fun W' ρ' s' p => q W' ρ' s' (h' _ _ p)
theorem extR_next (told : List (List Int)) (along row : List Int) (m : Nat) : rowsD (extR told along row (List.range (m + 1))) = rowsD (extR told along row (List.range m)) ++ (if okP told along row m then some (PyData.list (intsD (row ++ [(m : Int)]))) else none).toList := by
  unfold extR
  rw [List.range_succ, List.filter_append, List.map_append, rowsD_append]
  congr 1
  cases h : okP told along row m <;> simp [h, rowsD]
theorem stepR_next (told : List (List Int)) (along : List Int) (rows : List (List Int)) (j : Nat) (row : List Int) (h : rows[j]? = some row) : stepR told along (rows.take (j + 1)) = stepR told along (rows.take j) ++ extR told along row (List.range 4) := by
  unfold stepR
  rw [List.take_add_one, h, List.flatMap_append]
  simp
theorem stepR_length (told : List (List Int)) (along : List Int) (l : List (List Int)) : (stepR told along l).length ≤ 4 * l.length := by
  induction l with
  | nil => simp [stepR]
  | cons x r ih =>
    simp only [stepR, List.flatMap_cons, List.length_append, List.length_cons] at ih ⊢
    have h2 : (extR told along x (List.range 4)).length ≤ 4 := by
      unfold extR
      rw [List.length_map]
      exact Nat.le_trans (List.length_filter_le _ _) (by rw [List.length_range]; exact Nat.le_refl _)
    omega
section
variable {w : World}
theorem cn_rows (told : List (List Int)) (size : Int) (along : List Int) (ht : ToldOk told) (h1 : 1 ≤ size) (h3 : size ≤ 3) :
    Cn w 1 (.ref 231) [.dat (.list (rowsD told)), .dat (.int size), .dat (.list (intsD along))] (.dat (.list (rowsD (rowsF told along (size - 1).toNat)))) :=
  Cn.of_body (k := 0) (ns := [S "told", S "size", S "along"]) (kF_at 47 rfl) (by decide) rfl (kF_at 46 rfl) (by decide) rfl rfl
    (fun vs h => by rcases vs with _ | ⟨a, _ | ⟨b, _ | ⟨c, _ | _⟩⟩⟩ <;> first | rfl | (simp at h))
    rfl rfl rfl (by decide) ⟨.inr ⟨rfl, fun _ => rfl⟩, .inl rfl, .inr ⟨rfl, fun _ => rfl⟩, trivial⟩ fun h₀ N => by
    refine Bk.cons (Thru.comp (g := fun t => (intOf t).map fun s => .list (intsD [s])) (xs := [S "place"]) (oc := []) (ρc := [])
          { hit := Itr.range (n := 4) (Ev.blt rfl rfl rfl (by decide) rfl) (.cons (fun _ => rfl) Ev.int .nil) (by decide) (by decide)
            hs := fun _ => rfl
            hclos := rfl
            hclo := by exact trivial
            hkind := rfl
            hnames := by decide
            hoc := .no (fun _ _ => rfl) (fun _ => rfl)
            hcap := by exact trivial
            hxs' := rfl
            hxc' := rfl
            htg := fun _ => .one (.inl rfl)
            hft := rng_fits
            hsz := by decide
            body := fun N' C it hit => by
              obtain ⟨i, _, rfl⟩ := rng_mem hit
              exact ⟨rfl, Ev.list (ds := [.int (i : Int)]) (.cons (fun _ => rfl) (Ev.name rfl rfl) .nil) (by simp)⟩ } (.inl rfl) rfl) ?_
    rintro W' ρ' ⟨rfl, rfl⟩
    have e1 : (rng 4).filterMap (fun t => (intOf t).map fun s => PyData.list (intsD [s])) = rowsD (rowsF told along 0) := rfl
    rw [e1]
    refine Bk.pre (ρ' := [(S "rows", .dat (.list (rowsD (rowsF told along 0)))), (S "told", .dat (.list (rowsD told))), (S "size", .dat (.int size)), (S "along", .dat (.list (intsD along)))]) ⟨rfl, rfl, rfl, rfl, trivial⟩ ?_
    refine Bk.cons (Thru.loop (xs := [S "turn"]) (Itr.range (n := size - 1) (Ev.blt rfl rfl rfl (by decide) rfl) (.cons (fun _ => rfl) (Ev.subI (Ev.name rfl rfl) Ev.int) .nil) (by omega) (by omega)) (fun _ => rfl) (.one (.inl rfl)) rng_fits
      (fun i W' ρ' => W' = [] ∧ Sub [(S "rows", .dat (.list (rowsD (rowsF told along i)))), (S "told", .dat (.list (rowsD told))), (S "along", .dat (.list (intsD along)))] ρ') ⟨rfl, rfl, rfl, rfl, trivial⟩ ?_) ?_
    · rintro N' i it W' ρ' hit ⟨rfl, hs'⟩
      have hil : i < (size - 1).toNat := by
        have := (List.getElem?_eq_some_iff.mp hit).1
        rwa [rng_length] at this
      have hrok := rowsF_ok told along i (by omega)
      have hrl : (rowsF told along i).length ≤ 64 := by
        have h := rowsF_length told along i
        have h2 : 4 ^ (i + 1) ≤ 4 ^ 3 := Nat.pow_le_pow_right (by decide) (by omega)
        omega
      have hnext : rowsF told along (i + 1) = stepR told along (rowsF told along i) := rfl
      rw [hnext]
      generalize rowsF told along i = rows at hs' hrok hrl ⊢
      obtain ⟨q, _, rfl⟩ := rng_mem (List.mem_of_getElem? hit)
      refine Thru.pre (hs'.one (x := S "turn") ⟨rfl, rfl, rfl, trivial⟩) ?_
      refine (Thru.comp2 (its := (rowsD rows).map fun d => .one (.dat d)) (acc := fun j => rowsD (stepR told along (rows.take j))) (xs := [S "row"]) (oc := []) (ρc := [(S "told", .dat (.list (rowsD told))), (S "along", .dat (.list (intsD along)))])
        { hit := Itr.list (Ev.name rfl rfl) (Shps.ones _)
          hs := fun _ => rfl
          hclos := rfl
          hclo := by exact ⟨rfl, rfl, rfl, rfl, trivial⟩
          hkind := rfl
          hnames := by decide
          hoc := .no (fun _ _ => rfl) (fun _ => rfl)
          hcap := by exact ⟨⟨rfl, rfl, ⟨_, rfl, rfl⟩, rfl, rfl⟩, ⟨rfl, rfl, ⟨_, rfl, rfl⟩, rfl, rfl⟩, trivial⟩
          htg := fun _ => .one (.inl rfl)
          hft := fitsOne
          h0 := rfl
          hsub := by exact ⟨rfl, rfl, trivial⟩
          body := fun N'' C D j it ρ'' hit hsub => by
            obtain ⟨d, hd, rfl⟩ := one_get hit
            obtain ⟨row, hrow, rfl⟩ : ∃ row, rows[j]? = some row ∧ d = .list (intsD row) := by
              unfold rowsD at hd
              rw [List.getElem?_map] at hd
              cases e : rows[j]? with
              | none => rw [e] at hd; cases hd
              | some r => rw [e] at hd; cases hd; exact ⟨r, rfl, rfl⟩
            obtain ⟨hne, hlen, hel⟩ := hrok row (List.mem_of_getElem? hrow)
            have hsl : (rowsD (stepR told along (rows.take j))).length ≤ 256 := by
              rw [rowsD_length]
              have := stepR_length told along (rows.take j)
              rw [List.length_take] at this
              omega
            rw [stepR_next _ _ _ _ _ hrow, rowsD_append]
            generalize rowsD (stepR told along (rows.take j)) = acc at hsl ⊢
            refine ThruS.pre (hsub.one (x := S "row") ⟨rfl, rfl, trivial⟩) ?_
            refine ThruS.to (ThruS.clause (its := rng 4) (xs := [S "place"]) (Itr.range (n := 4) (Ev.blt rfl rfl rfl (by decide) rfl) (.cons (fun _ => rfl) Ev.int .nil) (by decide) (by decide)) (fun _ => rfl) (.one (.inl rfl)) rng_fits (fun I => tree21 _ _ _ _ _ _ _ _ _ _ _) (fun A R' s I h1 h2 => start21 h1 h2)
              (fun m W' ρ' => W' = [(D, acc ++ rowsD (extR told along row (List.range m)))] ∧ Sub [(S "row", .dat (.list (intsD row))), (S "told", .dat (.list (rowsD told))), (S "along", .dat (.list (intsD along)))] ρ') ⟨by simp [extR, rowsD], rfl, rfl, rfl, trivial⟩ ?_) ?_
            · rintro N3 m it' W4 ρ4 hit' ⟨rfl, hs4⟩
              have hm4 : m < 4 := by
                have := (List.getElem?_eq_some_iff.mp hit').1
                rwa [rng_length] at this
              have hitm : it' = .one (.dat (.int (m : Int))) := by
                have q : (rng 4)[m]? = some (Tn.one (.dat (.int (m : Int)))) := by
                  unfold rng
                  rw [List.getElem?_map, List.getElem?_range (show m < (4 : Int).toNat from hm4)]; rfl
                rw [q] at hit'; exact (Option.some.inj hit').symm
              subst hitm
              refine ThruS.pre (hs4.one (x := S "place") ⟨rfl, rfl, rfl, trivial⟩) ?_
              have hx : (extR told along row (List.range m)).length ≤ 4 := by
                unfold extR
                rw [List.length_map]
                exact Nat.le_trans (List.length_filter_le _ _) (by rw [List.length_range]; omega)
              have hrl1 : row.length - 1 < row.length := by omega
              have hlast : 0 ≤ row.getD (row.length - 1) 0 ∧ row.getD (row.length - 1) 0 < 4 := by
                rw [List.getD_eq_getElem?_getD, List.getElem?_eq_getElem hrl1]
                exact hel _ (List.getElem_mem hrl1)
              refine (ThruS.emit (r := if okP told along row m then some (PyData.list (intsD (row ++ [(m : Int)]))) else none) (by simp) (by rw [List.length_append, rowsD_length]; omega) ?_).to ?_
              · have hti : (row.getD (row.length - 1) 0).toNat < told.length := by rw [ht.1]; omega
                have hrl4 : (told.getD (row.getD (row.length - 1) 0).toNat []).length = 4 := by
                  rw [List.getD_eq_getElem?_getD, List.getElem?_eq_getElem hti]
                  exact ht.2 _ (List.getElem_mem hti)
                have hj1 : seqIndex? (-1) (intsD row).length = some (row.length - 1) := by
                  rw [intsD_length]
                  unfold seqIndex?
                  simp only [show ((-1 : Int) < 0) from by decide, if_true]
                  rw [if_pos (by simp only [Bool.and_eq_true, decide_eq_true_eq]; omega)]
                  congr 1; omega
                cases hok : okP told along row m with
                | true =>
                  refine ⟨Tst.to (Tst.cmpD (Ev.itemL (j := m) (d := .int (tl told row m)) (Ev.itemL (j := (row.getD (row.length - 1) 0).toNat) (Ev.name rfl rfl) (Ev.itemL (i := -1) (j := row.length - 1) (Ev.name rfl rfl) (Ev.neg Ev.int) (by decide) (by decide) hj1 (intsD_at hrl1) (fun _ _ => rfl)) (by omega) (by omega) (seqIndex_nat hlast.1 (by rw [rowsD_length]; omega)) (rowsD_at hti) (fun _ _ => rfl)) (Ev.name rfl rfl) (by omega) (by omega) (seqIndex_nat (by omega) (by rw [intsD_length]; omega)) (intsD_at (by omega)) (fun _ _ => rfl)) (Ev.name rfl rfl) (Cmp.inL rfl (intsD_lay _) (Nat.zero_le 16)) rfl) ?_, ?_⟩
                  · rw [any_intsD]; exact hok
                  · exact Ev.to (Ev.addL (b := [.int (m : Int)]) (Ev.name rfl rfl) (Ev.list (ds := [.int (m : Int)]) (.cons (fun _ => rfl) (Ev.name rfl rfl) .nil) (by simp)) (by rw [intsD_length]; have : sizeLine = 2 ^ 24 := rfl; simp only [List.length_singleton]; omega)) (by simp [intsD])
                | false =>
                  refine Tst.to (Tst.cmpD (Ev.itemL (j := m) (d := .int (tl told row m)) (Ev.itemL (j := (row.getD (row.length - 1) 0).toNat) (Ev.name rfl rfl) (Ev.itemL (i := -1) (j := row.length - 1) (Ev.name rfl rfl) (Ev.neg Ev.int) (by decide) (by decide) hj1 (intsD_at hrl1) (fun _ _ => rfl)) (by omega) (by omega) (seqIndex_nat hlast.1 (by rw [rowsD_length]; omega)) (rowsD_at hti) (fun _ _ => rfl)) (Ev.name rfl rfl) (by omega) (by omega) (seqIndex_nat (by omega) (by rw [intsD_length]; omega)) (intsD_at (by omega)) (fun _ _ => rfl)) (Ev.name rfl rfl) (Cmp.inL rfl (intsD_lay _) (Nat.zero_le 16)) rfl) ?_
                  rw [any_intsD]; exact hok
              · rintro W5 ρ5 ⟨rfl, rfl⟩
                refine ⟨?_, rfl, rfl, rfl, trivial⟩
                rw [extR_next, ← List.append_assoc]
            · rintro W5 ρ5 ⟨rfl, hs5⟩
              exact ⟨rfl, hs5.2⟩ } (.inl rfl) rfl).to ?_
      rintro W3 ρ3 ⟨rfl, rfl⟩
      rw [List.length_map, rowsD_length, List.take_length]
      exact ⟨rfl, rfl, rfl, rfl, trivial⟩
    · rintro W' ρ' ⟨rfl, hs'⟩
      rw [rng_length] at hs'
      exact Bk.pre hs' (Bk.ret (Ev.name rfl rfl))
end
end Mine
end
section
open PySem PySem.W PyProof.Rows
namespace Mine
noncomputable def at2 (told : List (List Int)) (a b : Int) : Int := (told.getD a.toNat []).getD b.toNat 0
noncomputable def fitsF (told : List (List Int)) (down upper row : List Int) : Bool := (upper.zip row).all fun p => down.any (· == at2 told p.1 p.2)
noncomputable def manyF (told : List (List Int)) (down : List Int) (above : List (List Int × Int)) (row : List Int) : Int := above.foldl (fun m p => if fitsF told down p.1 row then m + p.2 else m) 0
noncomputable def belowF (told : List (List Int)) (down : List Int) (above : List (List Int × Int)) (rows : List (List Int)) : List (List Int × Int) :=
  rows.filterMap fun row => if manyF told down above row != 0 then some (row, manyF told down above row) else none
noncomputable def aboveF (told : List (List Int)) (along down : List Int) (sizes : List Int) : List (List Int × Int) :=
  sizes.foldl (fun above size => belowF told down above (rowsF told along (size - 1).toNat)) [([], 1)]
noncomputable def filledF (told : List (List Int)) (sizes along down : List Int) : Int := ((aboveF told along down sizes).map (·.2)).sum
noncomputable def pagesD (l : List (List Int × Int)) : List PyData := l.map fun p => .tuple [.list (intsD p.1), .int p.2]
noncomputable def pairI : Tn → Option (Int × Int) | .two (.dat (.int a)) (.dat (.int b)) => some (a, b) | _ => none
noncomputable def oddG (told : List (List Int)) (down : List Int) (t : Tn) : Option PyData := match pairI t with
  | some p => if down.any (· == at2 told p.1 p.2) then none else some (.int 1)
  | none => none
theorem odd_fits (told : List (List Int)) (down : List Int) : ∀ (upper row : List Int), PyData.eqv (.list ((zipT (intsD upper) (intsD row)).filterMap (oddG told down))) (.list []) = fitsF told down upper row
  | [], _ => rfl
  | _ :: _, [] => rfl
  | a :: u, b :: r => by
    have ih := odd_fits told down u r
    show PyData.eqv (.list ((Tn.two (.dat (.int a)) (.dat (.int b)) :: zipT (intsD u) (intsD r)).filterMap (oddG told down))) (.list []) = (down.any (· == at2 told a b) && fitsF told down u r)
    have hg : oddG told down (Tn.two (.dat (.int a)) (.dat (.int b))) = if down.any (· == at2 told a b) then none else some (.int 1) := rfl
    cases h : down.any (· == at2 told a b) with
    | true => rw [List.filterMap_cons, hg, h]; simpa using ih
    | false => rw [List.filterMap_cons, hg, h]; rfl
theorem odd_lay (told : List (List Int)) (down : List Int) (l : List Tn) : PyData.canLayAll0 (l.filterMap (oddG told down)) = true ∧ PyData.depthAll (l.filterMap (oddG told down)) = 0 := by
  induction l with
  | nil => exact ⟨rfl, rfl⟩
  | cons t r ih =>
    have hg : oddG told down t = none ∨ oddG told down t = some (.int 1) := by
      unfold oddG
      cases pairI t with
      | none => exact .inl rfl
      | some p => dsimp only; split; exact .inl rfl; exact .inr rfl
    rcases hg with h | h
    · rw [List.filterMap_cons, h]; exact ih
    · rw [List.filterMap_cons, h]
      exact ⟨by simp only [PyData.canLayAll0, PyData.canLay0, Bool.true_and]; exact ih.1, by simp only [PyData.depthAll, PyData.depth, Nat.zero_max]; exact ih.2⟩
noncomputable def PageOk (above : List (List Int × Int)) : Prop := above.length ≤ 64 ∧ ∀ p ∈ above, p.1.length ≤ 5 ∧ ∀ e ∈ p.1, 0 ≤ e ∧ e < 4
theorem zipT_mem {a b : List Int} : ∀ {it : Tn}, it ∈ zipT (intsD a) (intsD b) → ∃ x ∈ a, ∃ y ∈ b, it = .two (.dat (.int x)) (.dat (.int y)) := by
  induction a generalizing b with
  | nil => intro it h; simp [zipT, intsD] at h
  | cons x a ih =>
    cases b with
    | nil => intro it h; simp [zipT, intsD] at h
    | cons y b =>
      intro it h
      rcases List.mem_cons.mp h with rfl | h
      · exact ⟨x, List.mem_cons_self, y, List.mem_cons_self, rfl⟩
      · obtain ⟨p, hp, q, hq, e⟩ := ih h
        exact ⟨p, List.mem_cons_of_mem _ hp, q, List.mem_cons_of_mem _ hq, e⟩
theorem belowF_ok {told : List (List Int)} {down : List Int} {above : List (List Int × Int)} {rows : List (List Int)} (h : rows.length ≤ 64) (hr : ∀ r ∈ rows, r.length ≤ 5 ∧ ∀ e ∈ r, 0 ≤ e ∧ e < 4) : PageOk (belowF told down above rows) := by
  refine ⟨Nat.le_trans (List.length_filterMap_le _ _) h, fun p hp => ?_⟩
  obtain ⟨r, hm, e⟩ := List.mem_filterMap.mp hp
  split at e
  · cases e; exact hr r hm
  · cases e
theorem aboveF_ok (told : List (List Int)) (along down : List Int) : ∀ (sizes : List Int), (∀ s ∈ sizes, 1 ≤ s ∧ s ≤ 3) → ∀ above, PageOk above → PageOk (sizes.foldl (fun above size => belowF told down above (rowsF told along (size - 1).toNat)) above) := by
  intro sizes
  induction sizes with
  | nil => intro _ above h; exact h
  | cons s r ih =>
    intro hs above h
    have h1 := hs s List.mem_cons_self
    refine ih (fun q hq => hs q (List.mem_cons_of_mem _ hq)) _ (belowF_ok ?_ fun q hq => ?_)
    · have h := rowsF_length told along (s - 1).toNat
      have h2 : 4 ^ ((s - 1).toNat + 1) ≤ 4 ^ 3 := Nat.pow_le_pow_right (by decide) (by omega)
      omega
    · obtain ⟨_, b, c⟩ := rowsF_ok told along (s - 1).toNat (by omega) q hq
      exact ⟨by omega, c⟩
end Mine
end
section
open PySem PySem.W PyProof.Rows
namespace Mine
theorem pagesD_mem {l : List (List Int × Int)} {it : Tn} (h : it ∈ (pagesD l).map fun d => Tn.one (.dat d)) : ∃ p ∈ l, it = .one (.dat (.tuple [.list (intsD p.1), .int p.2])) := by
  obtain ⟨d, hd, rfl⟩ := List.mem_map.mp h
  obtain ⟨p, hp, rfl⟩ := List.mem_map.mp hd
  exact ⟨p, hp, rfl⟩
/-- pages, two names a turn -/
noncomputable def pagesT (l : List (List Int × Int)) : List Tn := l.map fun p => .two (.dat (.list (intsD p.1))) (.dat (.int p.2))
theorem pagesShp (l : List (List Int × Int)) : Shps (pagesD l) (pagesT l) := by
  induction l with
  | nil => exact .nil
  | cons p r ih => exact .cons (.two _ _) ih
theorem pagesT_fits {x y : Str} (l : List (List Int × Int)) : ∀ it ∈ pagesT l, fits [x, y] it := fun it h => by obtain ⟨p, _, rfl⟩ := List.mem_map.mp h; trivial
theorem pagesT_get {l : List (List Int × Int)} {i : Nat} {it : Tn} (h : (pagesT l)[i]? = some it) : ∃ p, l[i]? = some p ∧ it = .two (.dat (.list (intsD p.1))) (.dat (.int p.2)) := by
  unfold pagesT at h
  rw [List.getElem?_map] at h
  cases e : l[i]? with
  | none => rw [e] at h; cases h
  | some d => rw [e] at h; cases h; exact ⟨d, rfl, rfl⟩
theorem rowsT_get {l : List (List Int)} {i : Nat} {it : Tn} (h : ((rowsD l).map fun d => Tn.one (.dat d))[i]? = some it) : ∃ row, l[i]? = some row ∧ it = .one (.dat (.list (intsD row))) := by
  obtain ⟨d, hd, rfl⟩ := one_get h
  unfold rowsD at hd
  rw [List.getElem?_map] at hd
  cases e : l[i]? with
  | none => rw [e] at hd; cases hd
  | some r => rw [e] at hd; cases hd; exact ⟨r, rfl, rfl⟩
noncomputable def sndOf : Tn → Option Int | .two _ (.dat (.int i)) => some i | _ => none
theorem zipT_len (a b : List PyData) : (zipT a b).length ≤ a.length := by rw [zipT_length]; exact Nat.min_le_left _ _
theorem pagesD_length (l : List (List Int × Int)) : (pagesD l).length = l.length := List.length_map ..
theorem belowF_next (told : List (List Int)) (down : List Int) (above : List (List Int × Int)) (rows : List (List Int)) (j : Nat) (row : List Int) (h : rows[j]? = some row) :
    belowF told down above (rows.take (j + 1)) = belowF told down above (rows.take j) ++ (if manyF told down above row != 0 then [(row, manyF told down above row)] else []) := by
  unfold belowF
  rw [List.take_add_one, h, List.filterMap_append]
  congr 1
  show List.filterMap (fun row => if (manyF told down above row != 0) = true then some (row, manyF told down above row) else none) [row] = _
  rw [List.filterMap_cons, List.filterMap_nil]
  cases hm : manyF told down above row != 0
  · rw [if_neg Bool.false_ne_true, if_neg Bool.false_ne_true]
  · rw [if_pos rfl, if_pos rfl]
theorem manyF_next (told : List (List Int)) (down : List Int) (above : List (List Int × Int)) (row : List Int) (j : Nat) (p : List Int × Int) (h : above[j]? = some p) :
    manyF told down (above.take (j + 1)) row = if fitsF told down p.1 row then manyF told down (above.take j) row + p.2 else manyF told down (above.take j) row := by
  unfold manyF; rw [foldl_take _ _ _ _ _ h]
theorem snd_filterMap (l : List (List Int × Int)) : (pagesT l).filterMap (fun t => (sndOf t).map PyData.int) = (l.map (·.2)).map .int := by
  unfold pagesT
  rw [List.filterMap_map, List.map_map, ← List.filterMap_eq_map]
  rfl
section
variable {w : World}
theorem cn_filled (told : List (List Int)) (sizes along down : List Int) (ht : ToldOk told) (hs : ∀ s ∈ sizes, 1 ≤ s ∧ s ≤ 3) (hn : sizes.length ≤ 10) :
    Cn w 2 (.ref 236) [.dat (.list (rowsD told)), .dat (.list (intsD sizes)), .dat (.list (intsD along)), .dat (.list (intsD down))] (.dat (.int (filledF told sizes along down))) :=
  Cn.of_body (k := 1) (ns := [S "told", S "sizes", S "along", S "down"]) (kF_at 49 rfl) (by decide) rfl (kF_at 48 rfl) (by decide) rfl rfl
    (fun vs h => by rcases vs with _ | ⟨a, _ | ⟨b, _ | ⟨c, _ | ⟨d, _ | _⟩⟩⟩⟩ <;> first | rfl | (simp at h))
    rfl rfl rfl (by decide) ⟨.inr ⟨rfl, fun _ => rfl⟩, .inl rfl, .inl rfl, .inr ⟨rfl, fun _ => rfl⟩, trivial⟩ fun h₀ N => by
    refine Bk.cons (Thru.assign (d := .dat (.list (pagesD [([], 1)]))) (Ev.list (ds := pagesD [([], 1)]) (.cons (fun _ => rfl) (Ev.tuple (ds := [.list [], .int 1]) (.cons (fun _ => rfl) (Ev.list (ds := []) .nil (by decide)) (.cons (fun _ => rfl) Ev.int .nil)) (by decide)) .nil) (by decide)) (.inl rfl) rfl) ?_
    rintro W' ρ' ⟨rfl, rfl⟩
    refine Bk.pre (ρ' := [(S "above", .dat (.list (pagesD [([], 1)]))), (S "told", .dat (.list (rowsD told))), (S "sizes", .dat (.list (intsD sizes))), (S "along", .dat (.list (intsD along))), (S "down", .dat (.list (intsD down)))]) ⟨rfl, rfl, rfl, rfl, rfl, trivial⟩ ?_
    refine Bk.cons (Thru.loop (xs := [S "size"]) (Itr.list (Ev.name rfl rfl) (Shps.ones _)) (fun _ => rfl) (.one (.inl rfl)) fitsOne
      (fun i W' ρ' => W' = [] ∧ Sub [(S "above", .dat (.list (pagesD (aboveF told along down (sizes.take i))))), (S "told", .dat (.list (rowsD told))), (S "along", .dat (.list (intsD along))), (S "down", .dat (.list (intsD down)))] ρ') ⟨rfl, rfl, rfl, rfl, rfl, trivial⟩ ?_) ?_
    · rintro N' i it W' ρ' hit ⟨rfl, hs'⟩
      obtain ⟨d, hd, rfl⟩ := one_get hit
      obtain ⟨sz, hsn, rfl⟩ := intsD_get hd
      have hsz := hs sz (List.mem_of_getElem? hsn)
      have hab : PageOk (aboveF told along down (sizes.take i)) := aboveF_ok told along down _ (fun q hq => hs q (List.mem_of_mem_take hq)) _ ⟨by decide, fun p hp => by rw [List.mem_singleton.mp hp]; exact ⟨by decide, fun e he => by simp at he⟩⟩
      have hnx : aboveF told along down (sizes.take (i + 1)) = belowF told down (aboveF told along down (sizes.take i)) (rowsF told along (sz - 1).toNat) := by unfold aboveF; rw [foldl_take _ _ _ _ _ hsn]
      rw [hnx]
      generalize aboveF told along down (sizes.take i) = above at hs' hab ⊢
      have hrk := rowsF_ok told along (sz - 1).toNat (by omega)
      have hrl : (rowsF told along (sz - 1).toNat).length ≤ 64 := by
        have h := rowsF_length told along (sz - 1).toNat
        have h2 : 4 ^ ((sz - 1).toNat + 1) ≤ 4 ^ 3 := Nat.pow_le_pow_right (by decide) (by omega)
        omega
      refine Thru.pre (hs'.one (x := S "size") ⟨rfl, rfl, rfl, rfl, trivial⟩) ?_
      refine Thru.cons (Thru.own (ds := []) .nil (by decide) (.inl rfl) rfl) ?_
      rintro W1 ρ1 ⟨a, ha, rfl, rfl⟩
      refine Thru.pre (ρ' := [(S "below", .val (.ref a)), (S "above", .dat (.list (pagesD above))), (S "told", .dat (.list (rowsD told))), (S "size", .dat (.int sz)), (S "along", .dat (.list (intsD along))), (S "down", .dat (.list (intsD down)))]) ⟨rfl, rfl, rfl, rfl, rfl, rfl, trivial⟩ ?_
      refine Thru.cons (Thru.loop (xs := [S "row"]) (Itr.list (ds := rowsD (rowsF told along (sz - 1).toNat)) (Ev.call (Ev.glob rfl rfl rfl) (.f (kF_at 47 rfl) (by decide) rfl) (.cons (fun _ => rfl) (Ev.name rfl rfl) (.cons (fun _ => rfl) (Ev.name rfl rfl) (.cons (fun _ => rfl) (Ev.name rfl rfl) .nil))) (cn_rows told sz along ht hsz.1 hsz.2)) (Shps.ones _)) (fun _ => rfl) (.one (.inl rfl)) fitsOne
        (fun j W' ρ' => W' = [(a, pagesD (belowF told down above ((rowsF told along (sz - 1).toNat).take j)))] ∧ Sub [(S "below", .val (.ref a)), (S "above", .dat (.list (pagesD above))), (S "told", .dat (.list (rowsD told))), (S "along", .dat (.list (intsD along))), (S "down", .dat (.list (intsD down)))] ρ') ⟨rfl, rfl, rfl, rfl, rfl, rfl, trivial⟩ ?_) ?_
      · rintro N2 j it W2 ρ2 hit2 ⟨rfl, hs2⟩
        obtain ⟨row, hrow, rfl⟩ := rowsT_get hit2
        obtain ⟨hne, hlen, hel⟩ := hrk row (List.mem_of_getElem? hrow)
        rw [belowF_next _ _ _ _ _ _ hrow]
        have hbl : (pagesD (belowF told down above ((rowsF told along (sz - 1).toNat).take j))).length ≤ 64 := by
          rw [pagesD_length]
          exact Nat.le_trans (List.length_filterMap_le _ _) (by rw [List.length_take]; omega)
        generalize belowF told down above ((rowsF told along (sz - 1).toNat).take j) = bel at hbl ⊢
        refine Thru.pre (hs2.one (x := S "row") ⟨rfl, rfl, rfl, rfl, rfl, trivial⟩) ?_
        refine Thru.cons (Thru.assign Ev.int (.inl rfl) rfl) ?_
        rintro W3 ρ3 ⟨rfl, rfl⟩
        refine Thru.cons (Thru.loop (xs := [S "upper", S "ways"]) (Itr.list (Ev.name rfl rfl) (pagesShp above)) (fun _ => rfl) (.two (.inl rfl) (.inl rfl)) (pagesT_fits above)
          (fun m W' ρ' => W' = [(a, pagesD bel)] ∧ Sub [(S "many", .dat (.int (manyF told down (above.take m) row))), (S "row", .dat (.list (intsD row))), (S "below", .val (.ref a)), (S "above", .dat (.list (pagesD above))), (S "told", .dat (.list (rowsD told))), (S "along", .dat (.list (intsD along))), (S "down", .dat (.list (intsD down)))] ρ') ⟨rfl, rfl, rfl, rfl, rfl, rfl, rfl, rfl, trivial⟩ ?_) ?_
        · rintro N3 m it W4 ρ4 hit4 ⟨rfl, hs4⟩
          obtain ⟨⟨upper, ways⟩, hp, rfl⟩ := pagesT_get hit4
          obtain ⟨hul, hue⟩ := hab.2 _ (List.mem_of_getElem? hp)
          rw [manyF_next _ _ _ _ _ _ hp]
          generalize manyF told down (above.take m) row = mn at hs4 ⊢
          refine Thru.pre ((hs4.one (x := S "upper") ⟨rfl, rfl, rfl, rfl, rfl, rfl, rfl, trivial⟩).one (x := S "ways") ⟨rfl, rfl, rfl, rfl, rfl, rfl, rfl, rfl, trivial⟩) ?_
          refine Thru.ifT (b := fitsF told down upper row) (Tst.to (Tst.cmpD (Ev.comp (g := oddG told down) (xs := [S "one", S "other"]) (oc := []) (ρc := [(S "told", .dat (.list (rowsD told))), (S "down", .dat (.list (intsD down)))])
            { hit := Itr.zip (Ev.blt rfl rfl rfl (by decide) rfl) (.cons (fun _ => rfl) (Ev.name rfl rfl) (.cons (fun _ => rfl) (Ev.name rfl rfl) .nil))
              hs := fun _ => rfl
              hclos := rfl
              hclo := by exact ⟨rfl, rfl, rfl, rfl, trivial⟩
              hkind := rfl
              hnames := by decide
              hoc := .no (fun _ _ => rfl) (fun _ => rfl)
              hcap := by exact ⟨⟨rfl, rfl, ⟨_, rfl, rfl⟩, rfl, rfl⟩, ⟨rfl, rfl, ⟨_, rfl, rfl⟩, rfl, rfl⟩, trivial⟩
              hxs' := rfl
              hxc' := rfl
              htg := fun _ => .two (.inl rfl) (.inl rfl)
              hft := zipT_fits _ _
              hsz := by show (zipT (intsD upper) (intsD row)).length ≤ 100000; have := zipT_len (intsD upper) (intsD row); rw [intsD_length] at this; simp only at hul; omega
              body := fun N' C it hit => by
                obtain ⟨x, hx, y, hy, rfl⟩ := zipT_mem hit
                have hx' := hue x hx
                have hy' := hel y hy
                have hti : x.toNat < told.length := by rw [ht.1]; omega
                have hrl4 : (told.getD x.toNat []).length = 4 := by
                  rw [List.getD_eq_getElem?_getD, List.getElem?_eq_getElem hti]
                  exact ht.2 _ (List.getElem_mem hti)
                have hg : oddG told down (Tn.two (.dat (.int x)) (.dat (.int y))) = if down.any (· == at2 told x y) then none else some (.int 1) := rfl
                rw [hg]
                cases hq : down.any (· == at2 told x y) with
                | true => exact Tst.to (Tst.cmpD (Ev.itemL (j := y.toNat) (d := .int (at2 told x y)) (Ev.itemL (j := x.toNat) (Ev.name rfl rfl) (Ev.name rfl rfl) (by omega) (by omega) (seqIndex_nat hx'.1 (by rw [rowsD_length]; omega)) (rowsD_at hti) (fun _ _ => rfl)) (Ev.name rfl rfl) (by omega) (by omega) (seqIndex_nat hy'.1 (by rw [intsD_length]; omega)) (intsD_at (by omega)) (fun _ _ => rfl)) (Ev.name rfl rfl) (Cmp.notInL rfl (intsD_lay _) (Nat.zero_le 16)) rfl) (by rw [any_intsD, hq]; rfl)
                | false => exact ⟨Tst.to (Tst.cmpD (Ev.itemL (j := y.toNat) (d := .int (at2 told x y)) (Ev.itemL (j := x.toNat) (Ev.name rfl rfl) (Ev.name rfl rfl) (by omega) (by omega) (seqIndex_nat hx'.1 (by rw [rowsD_length]; omega)) (rowsD_at hti) (fun _ _ => rfl)) (Ev.name rfl rfl) (by omega) (by omega) (seqIndex_nat hy'.1 (by rw [intsD_length]; omega)) (intsD_at (by omega)) (fun _ _ => rfl)) (Ev.name rfl rfl) (Cmp.notInL rfl (intsD_lay _) (Nat.zero_le 16)) rfl) (by rw [any_intsD, hq]; rfl), Ev.int⟩ }) (Ev.list (ds := []) .nil (by decide)) (Cmp.eqD (by simp only [PyData.canLay0]; exact (odd_lay told down _).1) rfl (by simp only [PyData.depth, (odd_lay told down _).2]; omega)) rfl) (odd_fits told down upper row)) ?_
          cases hfit : fitsF told down upper row with
          | true =>
            refine (Thru.augI rfl (Ev.name rfl rfl) (.inl rfl)).to ?_
            rintro W5 ρ5 ⟨rfl, rfl⟩
            exact ⟨rfl, rfl, rfl, rfl, rfl, rfl, rfl, rfl, trivial⟩
          | false => exact Thru.nil ⟨rfl, rfl, rfl, rfl, rfl, rfl, rfl, rfl, trivial⟩
        · rintro W4 ρ4 ⟨rfl, hs4⟩
          have hlen4 : (pagesT above).length = above.length := List.length_map ..
          rw [hlen4, List.take_length] at hs4
          generalize manyF told down above row = mn at hs4 ⊢
          refine Thru.pre hs4 ?_
          refine Thru.ifT (b := mn != 0) (Tst.int (Ev.name rfl rfl) (fun _ => rfl)) ?_
          cases hm : mn != 0 with
          | true =>
            refine (Thru.append (d := .tuple [.list (intsD row), .int mn]) (List.mem_cons_of_mem _ (List.mem_cons_of_mem _ List.mem_cons_self)) rfl (Ev.tuple (ds := [.list (intsD row), .int mn]) (.cons (fun _ => rfl) (Ev.name rfl rfl) (.cons (fun _ => rfl) (Ev.name rfl rfl) .nil)) (by simp)) (by simp) (by omega) rfl rfl rfl rfl rfl).to ?_
            rintro W5 ρ5 ⟨rfl, rfl⟩
            exact ⟨by simp [pagesD], rfl, rfl, rfl, rfl, rfl, trivial⟩
          | false => exact Thru.nil ⟨by simp, rfl, rfl, rfl, rfl, rfl, trivial⟩
      · rintro W2 ρ2 ⟨rfl, hs2⟩
        rw [List.length_map, rowsD_length, List.take_length]
        refine Thru.pre hs2 ?_
        refine Thru.seq (a := []) (Thru.freeze List.mem_cons_self ha) ?_
        rintro W3 ρ3 ⟨rfl, rfl⟩
        refine (Thru.assign (Ev.name rfl rfl) (.inl rfl) rfl).to ?_
        rintro W4 ρ4 ⟨rfl, rfl⟩
        exact ⟨rfl, rfl, rfl, rfl, rfl, trivial⟩
    · rintro W' ρ' ⟨rfl, hs'⟩
      rw [List.length_map, intsD_length, List.take_length] at hs'
      refine Bk.pre hs' ?_
      have hab : PageOk (aboveF told along down sizes) := aboveF_ok told along down _ hs _ ⟨by decide, fun p hp => by rw [List.mem_singleton.mp hp]; exact ⟨by decide, fun e he => by simp at he⟩⟩
      unfold filledF
      generalize aboveF told along down sizes = above at hab ⊢
      refine Bk.ret (Ev.call (Ev.blt rfl rfl rfl (by decide) rfl) (.b _) (.cons (fun _ => rfl) (Ev.to (Ev.comp (g := fun t => (sndOf t).map .int) (xs := [S "row", S "ways"]) (oc := []) (ρc := [])
        { hit := Itr.list (Ev.name rfl rfl) (pagesShp above)
          hs := fun _ => rfl
          hclos := rfl
          hclo := by exact trivial
          hkind := rfl
          hnames := by decide
          hoc := .no (fun _ _ => rfl) (fun _ => rfl)
          hcap := by exact trivial
          hxs' := rfl
          hxc' := rfl
          htg := fun _ => .two (.inl rfl) (.inl rfl)
          hft := pagesT_fits above
          hsz := by unfold pagesT; rw [List.length_map]; have := hab.1; omega
          body := fun N' C it hit => by
            obtain ⟨p, hp, rfl⟩ := List.mem_map.mp hit
            exact ⟨rfl, Ev.name rfl rfl⟩ }) (by rw [snd_filterMap])) .nil) Cn.sum)
end
end Mine
end
section
open PySem PySem.W PyProof.Rows
namespace Mine
noncomputable def setEs : Data → List (Int × Value) | .set es _ _ => es.toList | _ => []
/-- the points of the table B.1 -/
noncomputable def b1L : List Int := [173, 847, 6150, 6155, 6156, 6157, 8203, 8204, 8205, 8288, 65279] ++ (List.range 16).map fun (i : Nat) => (65024 : Int) + i
theorem b1_data (P : Params) : ∃ ep t, (o85_8 P).data = .set (ar (setEs (o85_8 P).data)) ep t ∧ t.fits (setEs (o85_8 P).data).length = true := ⟨_, _, rfl, by kernel_rfl⟩
theorem b1_elems (P : Params) : ((setEs (o85_8 P).data).all fun e => match e.2 with | .int i _ => e.1 == hashInt i && b1L.contains i | _ => false) = true := by kernel_rfl
theorem b1_all (P : Params) : (b1L.all fun i => (setEs (o85_8 P).data).any fun e => match e.2 with | .int j _ => i == j | _ => false) = true := by kernel_rfl
noncomputable def b1mem (c : Int) : Bool := b1L.contains c
theorem o85_shape (P : Params) : (o85_8 P).ExactSet := ⟨rfl, rfl, rfl⟩
theorem b1_set {w : World} {h : Heap} (C : Cx w h) : h.SetOf (intKind pw w) 85 b1mem (setEs (o85_8 w.params).data).length := by
  obtain ⟨ep, t, hd, hf⟩ := b1_data w.params
  have el : ∀ e ∈ setEs (o85_8 w.params).data, ∃ i tk, e.2 = .int i tk ∧ e.1 = hashInt i ∧ b1L.contains i = true := fun e he => by
    have := List.all_eq_true.mp (b1_elems w.params) e he
    cases hv : e.2 <;> rw [hv] at this <;> first | (simp only [Bool.and_eq_true, beq_iff_eq] at this; exact ⟨_, _, rfl, this.1, this.2⟩) | cases this
  refine ⟨o85_8 w.params, _, ep, t, C.kin 85 _ (kF_at 13 rfl) (by decide), o85_shape _, hd, fun e he => ?_, fun k => ?_, ?_, by simpa [ar] using hf, by simp [ar]⟩
  · obtain ⟨i, tk, h1, h2, _⟩ := el e (by simpa [ar] using he)
    refine ⟨⟨i, ?_, h2⟩, ?_⟩
    · rw [h1]; exact intKind_is pw w i tk
    · rw [h1]; rfl
  · constructor
    · intro hk
      have := List.all_eq_true.mp (b1_all w.params) k (List.contains_iff_mem.mp hk)
      obtain ⟨e, he, hq⟩ := List.any_eq_true.mp this
      refine ⟨e, by simpa [ar] using he, ?_⟩
      cases hv : e.2 <;> rw [hv] at hq <;> first | (rw [← beq_iff_eq.mp hq]; exact intKind_is pw w k _) | cases hq
    · rintro ⟨e, he, hq⟩
      obtain ⟨i, tk, h1, _, h3⟩ := el e (by simpa [ar] using he)
      rw [h1] at hq
      have : k = i := (intKind pw w).inj _ _ _ hq (intKind_is pw w i tk)
      rw [this]; exact h3
  · have : (setEs (o85_8 w.params).data).length = 27 := by kernel_rfl
    simp only [ar, List.size_toArray, this]; decide
theorem Ev.inB1 {X : Fx} {k : Nat} {W : Own} {ρ : Vars} {l r : Expr} {pos : Pos} {c : Int} (hl : Ev X k W ρ l (.dat (.int c))) (hr : Ev X k W ρ r (.val (.ref 85))) (hm : behindInMarks .In r = false) : Ev X k W ρ (.Compare l [.In] [r] pos) (.dat (.bool (b1mem c))) := fun A E s Q R T q => by
  refine wpAny_Compare1 (hl A E s _ R T fun u s₁ t ru => hr A E s₁ _ (R.to t) (T.keeps t.heap) fun v s₂ t₂ rv => ?_) hm
  obtain rfl : v = .ref 85 := rv
  change Rd _ _ _ _ at ru
  cases ru with
  | int _ tk => exact wpAny_inSet_of (knd := intKind pw X.w) (intKind_is pw X.w _ _) rfl (b1_set ((T.keeps t.heap).keeps t₂.heap).cxn) (q _ _ ((t.trans t₂).trans (To.tok _ _)) (.bool _))
section
variable {w : World}
theorem cn_b1 (c : Nat) : Cn w 1 (.ref 95) [.dat (.str ⟨#[c]⟩)] (.dat (.bool (b1mem c))) :=
  Cn.of_body (k := 0) (ns := [S "code"]) (kF_at 15 rfl) (by decide) rfl (kF_at 14 rfl) (by decide) rfl rfl
    (fun vs h => by rcases vs with _ | ⟨a, _ | _⟩ <;> first | rfl | (simp at h))
    rfl rfl rfl (by decide) ⟨.inl rfl, trivial⟩ fun h₀ N => by
    exact Bk.ret (Ev.inB1 (Ev.call (Ev.blt rfl rfl rfl (by decide) rfl) (.b _) (.cons (fun _ => rfl) (Ev.name rfl rfl) .nil) Cn.ord) (Ev.glob rfl rfl rfl) rfl)
end
end Mine
end
section
open PySem PySem.W PyProof.Rows PySem.Builtin PySem.Builtin.Str
namespace Mine
theorem b3_entries : ∀ e ∈ entL 344 (b3l.take 646) ++ entS 2282 (chunk b3l 38), ∃ x ∈ b3l, e.hash = x.k ∧ ∃ u, e.key = .int x.k u := fun e he => by
  rcases List.mem_append.mp he with h | h
  · obtain ⟨x, hx, r⟩ := entL_mem _ _ _ h; exact ⟨x, List.mem_of_mem_take hx, r⟩
  · obtain ⟨x, hx, r⟩ := entS_mem _ _ _ h; exact ⟨x, List.mem_of_mem_drop (List.mem_of_mem_take hx), r⟩
theorem hash_small {k : Int} (h0 : 0 ≤ k) (h1 : k < 2 ^ 60) : hashInt k = k := by
  obtain ⟨n, rfl⟩ := Int.eq_ofNat_of_zero_le h0
  have hm : ((n : Int) % ((2 ^ 61 - 1 : Nat) : Int)) = n := Int.emod_eq_of_lt h0 (by omega)
  have h2 : rawHash (n : Int) = n := by
    unfold rawHash
    have e : (((n : Int).natAbs : Int) % ((2 ^ 61 - 1 : Nat) : Int)) = n := by rw [Int.natAbs_natCast]; exact hm
    simp only [e]
    rw [if_neg (by omega : ¬ (n : Int) < 0)]
    have : ((n : Int) == -1) = false := by rw [beq_eq_false_iff_ne]; omega
    rw [this]; rfl
  unfold hashInt
  rw [h2]
  have : ((n : Int) == -1) = false := by rw [beq_eq_false_iff_ne]; omega
  rw [this]; rfl
theorem b3_map {w : World} {h : Heap} (C : Cx w h) : h.MapOf (intKind pw w) 96 (findBy (intKind pw w).is (entL 344 (b3l.take 646) ++ entS 2282 (chunk b3l 38)).toArray) := by
  refine ⟨b3o w.params 39, _, _, C.kin 96 _ (kF_at 16 rfl) (by decide), ⟨rfl, rfl, rfl⟩, rfl, fun e he => ?_, fun _ => rfl⟩
  obtain ⟨x, hx, h1, u, h2⟩ := b3_entries e (by simpa using he)
  have hk := b3_good.1 x hx
  exact ⟨x.k, by rw [h2]; exact intKind_is pw w _ _, by rw [h1]; exact (hash_small hk.1 hk.2).symm⟩
theorem b3_miss (w : World) (c : Int) (hc : c < 181) : findBy (intKind pw w).is (entL 344 (b3l.take 646) ++ entS 2282 (chunk b3l 38)).toArray c = none := by
  unfold findBy
  have : (entL 344 (b3l.take 646) ++ entS 2282 (chunk b3l 38)).toArray.find? (fun e => (intKind pw w).is c e.key) = none := by
    rw [List.find?_toArray]
    refine List.find?_eq_none.mpr fun e he hq => ?_
    obtain ⟨x, hx, _, u, h2⟩ := b3_entries e he
    rw [h2] at hq
    have e1 : c = x.k := (intKind pw w).inj _ _ _ hq (intKind_is pw w _ _)
    have := rising_all b3l 180 b3_rising x hx
    omega
  rw [this]; rfl
theorem Ev.b3get {X : Fx} {k : Nat} {W : Own} {ρ : Vars} {o e : Expr} {apos pos : Pos} {c : Int} (ho : Ev X k W ρ o (.val (.ref 96))) (he : EvAll X k W ρ [e] [.dat (.int c)]) (hbase : attributeBase o "get" X.env (eval o X.env) = eval o X.env) (hline : (apos.endLine == pos.line) = true)
    (hc : c < 181) : Ev X k W ρ (.Call (.Attribute o "get" apos) [e] [] pos) (.dat .none) := fun A E s Q R T h => by
  cases he with
  | cons hs he q =>
  have hst := hs []
  refine wpAny_Call_method_lateS hbase (by rw [hst]; rfl) hline (ho A E s _ R T fun v s₁ t r => ?_)
  obtain rfl : v = .ref 96 := r
  have T₁ := T.keeps t.heap
  refine ⟨"dict", "dict.get", F.plainAttrs_dict, F.slot_dict_get, F.type_dict_get, (b3_map T₁.cxn).typeIs, (b3_map T₁.cxn).noDict, ?_⟩
  rw [hst]
  refine wpAny_dict_get1 (knd := intKind pw X.w) (by decide) (he A E s₁ _ (R.to t) T₁ fun u s₂ t₂ ru => ?_)
  change Rd _ _ _ _ at ru
  cases ru with
  | int _ tk =>
    refine ⟨c, _, intKind_is pw X.w _ _, b3_map (T₁.keeps t₂.heap).cxn, ?_⟩
    rw [b3_miss X.w c hc]
    exact h _ _ ((t.trans t₂).trans (To.tok _ _)) .none
theorem lowerFit (c : Nat) (hc : c < 181) : tooLong (Txt.lower ⟨#[c]⟩).length = false := by
  have : ∀ c < 181, tooLong (Txt.lower ⟨#[c]⟩).length = false := by decide +kernel
  exact this c hc
section
variable {w : World}
theorem cn_b3 (c : Nat) (hc : c < 181) : Cn w 1 (.ref 141) [.dat (.str ⟨#[c]⟩)] (.dat (.str (Txt.lower ⟨#[c]⟩))) :=
  Cn.of_body (k := 0) (ns := [S "code"]) (kF_at 18 rfl) (by decide) rfl (kF_at 17 rfl) (by decide) rfl rfl
    (fun vs h => by rcases vs with _ | ⟨a, _ | _⟩ <;> first | rfl | (simp at h))
    rfl rfl rfl (by decide) ⟨.inl rfl, trivial⟩ fun h₀ N => by
    refine Bk.cons (Thru.assign (Ev.b3get (c := c) (Ev.glob rfl rfl rfl) (.cons (fun _ => rfl) (Ev.call (Ev.blt rfl rfl rfl (by decide) rfl) (.b _) (.cons (fun _ => rfl) (Ev.name rfl rfl) .nil) Cn.ord) .nil) rfl rfl (by omega)) (.inl rfl) rfl) ?_
    rintro W' ρ' ⟨rfl, rfl⟩
    refine Bk.ifT (b := false) (Tst.cmpD (Ev.name rfl rfl) Ev.nil (Cmp.isNotNone _) rfl) ?_
    exact Bk.ret (Ev.lower (Ev.name rfl rfl) rfl rfl (lowerFit c hc))
end
end Mine
end
section
open PySem PySem.W PyProof.Rows PySem.Builtin PySem.Builtin.Str
namespace Mine
/-- one escape: if y in t, t.replace(y, z) -/
noncomputable def rep (y z t : Str) : Str := if Txt.contains t y then Txt.replace t y z else t
noncomputable def reps : List (Str × Str) → Str → Str
  | [], t => t
  | p :: r, t => reps r (rep p.1 p.2 t)
noncomputable def repsOk : List (Str × Str) → Str → Bool
  | [], _ => true
  | p :: r, t => decide (t.length ≤ 1048576) && repsOk r (rep p.1 p.2 t)
noncomputable def escL : Nat → List (Str × Str)
  | 0 => [(S "&", S "&amp;"), (S "<", S "&lt;"), (S ">", S "&gt;")]
  | 1 => [(S "&", S "&amp;"), (S "<", S "&lt;"), (S ">", S "&gt;"), (S "\"", S "&quot;"), (S "\r", S "&#13;"), (S "\n", S "&#10;"), (S "\t", S "&#09;")]
  | 2 => [(S "&", S "&amp;"), (S ">", S "&gt;"), (S "\"", S "&quot;")]
  | 3 => [(S "&", S "&amp;"), (S "<", S "&lt;"), (S ">", S "&gt;"), (S "\r", S "&#xD;")]
  | _ => [(S "&", S "&amp;"), (S "<", S "&lt;"), (S "\"", S "&quot;"), (S "\t", S "&#x9;"), (S "\n", S "&#xA;"), (S "\r", S "&#xD;")]
section
variable {X : Fx} {k : Nat}
theorem Bk.rep {x y z t : Str} {k1 k2 k3 : Nat} {p1 p2 p3 p4 p5 p6 p7 p8 p9 p10 p11 : Pos} {l : List (Str × Str)} {rest : List Stmt} (hl : repsOk ((y, z) :: l) t = true) (hxd : (x == ("__debug__" : Str)) = false) (hm : behindInMarks .In (.Name x p2) = false)
    (hbase : attributeBase (.Name x p5) "replace" X.env (eval (.Name x p5) X.env) = eval (.Name x p5) X.env) (hline : (p6.endLine == p9.line) = true) (hyz : (y == z) = false) (hz : z.length ≤ 14) (hk : Kn X.env x)
    (hs : swapsWith (.Call (.Attribute (.Name x p5) "replace" p6) [.Constant (.str y) k2 p7, .Constant (.str z) k3 p8] [] p9) (some (.Name x p4)) p10.line X.env = pure false)
    (h : repsOk l (rep y z t) = true → Bk X k [] [(x, .dat (.str (Mine.rep y z t)))] rest (.str (reps l (rep y z t)))) :
    Bk X k [] [(x, .dat (.str t))] (.If (.Compare (.Constant (.str y) k1 p1) [.In] [.Name x p2] p3) [.Assign [.Name x p4] (.Call (.Attribute (.Name x p5) "replace" p6) [.Constant (.str y) k2 p7, .Constant (.str z) k3 p8] [] p9) p10] [] p11 :: rest) (.str (reps ((y, z) :: l) t)) := by
  simp only [repsOk, Bool.and_eq_true, decide_eq_true_eq] at hl
  have hq : List.lookup x [(x, D.dat (.str t))] = some (.dat (.str t)) := by rw [List.lookup_cons]; simp
  refine Bk.ifT (b := Txt.contains t y) (Tst.cmpD Ev.str (Ev.name hq hxd) (Cmp.inS y t) hm) ?_
  have h' := h hl.2
  change Bk X k [] _ rest (.str (reps l (Mine.rep y z t)))  at h'
  show Bk X k [] _ _ (.str (reps l (Mine.rep y z t)))
  have e : Mine.rep y z t = if Txt.contains t y then Txt.replace t y z else t := rfl
  cases hc : Txt.contains t y with
  | true =>
    rw [hc] at e
    simp only [if_true] at e
    rw [e] at h' ⊢
    refine Bk.cons (Thru.assign (Ev.replace (Ev.name hq hxd) hbase hline hyz hl.1 hz) hk hs) ?_
    rintro W' ρ' ⟨rfl, rfl⟩
    have : Mine.put x (D.dat (.str (Txt.replace t y z))) [(x, D.dat (.str t))] = [(x, .dat (.str (Txt.replace t y z)))] := by
      unfold Mine.put; simp
    rw [this]; exact h'
  | false =>
    rw [hc] at e
    simp only [Bool.false_eq_true, if_false] at e
    rw [e] at h' ⊢
    exact h'
end
section
variable {w : World}
theorem cn_cdata (t : Str) (h : repsOk (escL 0) t = true) : Cn w 1 (.ref 155) [.dat (.str t)] (.dat (.str (reps (escL 0) t))) :=
  Cn.of_body (k := 0) (ns := [S "text"]) (kF_at 22 rfl) (by decide) rfl (kF_at 21 rfl) (by decide) rfl rfl
    (fun vs h => by rcases vs with _ | ⟨a, _ | _⟩ <;> first | rfl | (simp at h))
    rfl rfl rfl (by decide) ⟨.inl rfl, trivial⟩ fun h₀ N => by
    refine Bk.try ?_
    refine Bk.rep h rfl rfl rfl rfl rfl (by decide) (.inl rfl) rfl fun h => ?_
    refine Bk.rep h rfl rfl rfl rfl rfl (by decide) (.inl rfl) rfl fun h => ?_
    refine Bk.rep h rfl rfl rfl rfl rfl (by decide) (.inl rfl) rfl fun h => ?_
    exact Bk.ret (Ev.name rfl rfl)
theorem cn_attrib (t : Str) (h : repsOk (escL 1) t = true) : Cn w 1 (.ref 162) [.dat (.str t)] (.dat (.str (reps (escL 1) t))) :=
  Cn.of_body (k := 0) (ns := [S "text"]) (kF_at 24 rfl) (by decide) rfl (kF_at 23 rfl) (by decide) rfl rfl
    (fun vs h => by rcases vs with _ | ⟨a, _ | _⟩ <;> first | rfl | (simp at h))
    rfl rfl rfl (by decide) ⟨.inl rfl, trivial⟩ fun h₀ N => by
    refine Bk.try ?_
    refine Bk.rep h rfl rfl rfl rfl rfl (by decide) (.inl rfl) rfl fun h => ?_
    refine Bk.rep h rfl rfl rfl rfl rfl (by decide) (.inl rfl) rfl fun h => ?_
    refine Bk.rep h rfl rfl rfl rfl rfl (by decide) (.inl rfl) rfl fun h => ?_
    refine Bk.rep h rfl rfl rfl rfl rfl (by decide) (.inl rfl) rfl fun h => ?_
    refine Bk.rep h rfl rfl rfl rfl rfl (by decide) (.inl rfl) rfl fun h => ?_
    refine Bk.rep h rfl rfl rfl rfl rfl (by decide) (.inl rfl) rfl fun h => ?_
    refine Bk.rep h rfl rfl rfl rfl rfl (by decide) (.inl rfl) rfl fun h => ?_
    exact Bk.ret (Ev.name rfl rfl)
theorem cn_html (t : Str) (h : repsOk (escL 2) t = true) : Cn w 1 (.ref 169) [.dat (.str t)] (.dat (.str (reps (escL 2) t))) :=
  Cn.of_body (k := 0) (ns := [S "text"]) (kF_at 26 rfl) (by decide) rfl (kF_at 25 rfl) (by decide) rfl rfl
    (fun vs h => by rcases vs with _ | ⟨a, _ | _⟩ <;> first | rfl | (simp at h))
    rfl rfl rfl (by decide) ⟨.inl rfl, trivial⟩ fun h₀ N => by
    refine Bk.try ?_
    refine Bk.rep h rfl rfl rfl rfl rfl (by decide) (.inl rfl) rfl fun h => ?_
    refine Bk.rep h rfl rfl rfl rfl rfl (by decide) (.inl rfl) rfl fun h => ?_
    refine Bk.rep h rfl rfl rfl rfl rfl (by decide) (.inl rfl) rfl fun h => ?_
    exact Bk.ret (Ev.name rfl rfl)
theorem cn_c14n (t : Str) (h : repsOk (escL 3) t = true) : Cn w 1 (.ref 176) [.dat (.str t)] (.dat (.str (reps (escL 3) t))) :=
  Cn.of_body (k := 0) (ns := [S "text"]) (kF_at 28 rfl) (by decide) rfl (kF_at 27 rfl) (by decide) rfl rfl
    (fun vs h => by rcases vs with _ | ⟨a, _ | _⟩ <;> first | rfl | (simp at h))
    rfl rfl rfl (by decide) ⟨.inl rfl, trivial⟩ fun h₀ N => by
    refine Bk.try ?_
    refine Bk.rep h rfl rfl rfl rfl rfl (by decide) (.inl rfl) rfl fun h => ?_
    refine Bk.rep h rfl rfl rfl rfl rfl (by decide) (.inl rfl) rfl fun h => ?_
    refine Bk.rep h rfl rfl rfl rfl rfl (by decide) (.inl rfl) rfl fun h => ?_
    refine Bk.rep h rfl rfl rfl rfl rfl (by decide) (.inl rfl) rfl fun h => ?_
    exact Bk.ret (Ev.name rfl rfl)
theorem cn_atc14n (t : Str) (h : repsOk (escL 4) t = true) : Cn w 1 (.ref 183) [.dat (.str t)] (.dat (.str (reps (escL 4) t))) :=
  Cn.of_body (k := 0) (ns := [S "text"]) (kF_at 30 rfl) (by decide) rfl (kF_at 29 rfl) (by decide) rfl rfl
    (fun vs h => by rcases vs with _ | ⟨a, _ | _⟩ <;> first | rfl | (simp at h))
    rfl rfl rfl (by decide) ⟨.inl rfl, trivial⟩ fun h₀ N => by
    refine Bk.try ?_
    refine Bk.rep h rfl rfl rfl rfl rfl (by decide) (.inl rfl) rfl fun h => ?_
    refine Bk.rep h rfl rfl rfl rfl rfl (by decide) (.inl rfl) rfl fun h => ?_
    refine Bk.rep h rfl rfl rfl rfl rfl (by decide) (.inl rfl) rfl fun h => ?_
    refine Bk.rep h rfl rfl rfl rfl rfl (by decide) (.inl rfl) rfl fun h => ?_
    refine Bk.rep h rfl rfl rfl rfl rfl (by decide) (.inl rfl) rfl fun h => ?_
    refine Bk.rep h rfl rfl rfl rfl rfl (by decide) (.inl rfl) rfl fun h => ?_
    exact Bk.ret (Ev.name rfl rfl)
theorem cn_written (kind : Nat) (hk : kind < 5) (t : Str) (h : repsOk (escL kind) t = true) : Cn w 2 (.ref 209) [.dat (.int (kind : Int)), .dat (.str t)] (.dat (.str (reps (escL kind) t))) :=
  Cn.of_body (k := 1) (ns := [S "kind", S "sign"]) (kF_at 39 rfl) (by decide) rfl (kF_at 38 rfl) (by decide) rfl rfl
    (fun vs h => by rcases vs with _ | ⟨a, _ | ⟨b, _ | _⟩⟩ <;> first | rfl | (simp at h))
    rfl rfl rfl (by decide) ⟨.inl rfl, .inl rfl, trivial⟩ fun h₀ N => by
    match kind, hk with
    | 0, _ => exact Bk.ifT (b := true) (Tst.cmpD (Ev.name rfl rfl) Ev.int (Cmp.eqI _ _) rfl) (Bk.ret (Ev.call (Ev.glob rfl rfl rfl) (.f (kF_at 22 rfl) (by decide) rfl) (.cons (fun _ => rfl) (Ev.name rfl rfl) .nil) (cn_cdata t h)))
    | 1, _ =>
      refine Bk.ifT (b := false) (Tst.cmpD (Ev.name rfl rfl) Ev.int (Cmp.eqI _ _) rfl) ?_
      exact Bk.ifT (b := true) (Tst.cmpD (Ev.name rfl rfl) Ev.int (Cmp.eqI _ _) rfl) (Bk.ret (Ev.call (Ev.glob rfl rfl rfl) (.f (kF_at 24 rfl) (by decide) rfl) (.cons (fun _ => rfl) (Ev.name rfl rfl) .nil) (cn_attrib t h)))
    | 2, _ =>
      refine Bk.ifT (b := false) (Tst.cmpD (Ev.name rfl rfl) Ev.int (Cmp.eqI _ _) rfl) ?_
      refine Bk.ifT (b := false) (Tst.cmpD (Ev.name rfl rfl) Ev.int (Cmp.eqI _ _) rfl) ?_
      exact Bk.ifT (b := true) (Tst.cmpD (Ev.name rfl rfl) Ev.int (Cmp.eqI _ _) rfl) (Bk.ret (Ev.call (Ev.glob rfl rfl rfl) (.f (kF_at 26 rfl) (by decide) rfl) (.cons (fun _ => rfl) (Ev.name rfl rfl) .nil) (cn_html t h)))
    | 3, _ =>
      refine Bk.ifT (b := false) (Tst.cmpD (Ev.name rfl rfl) Ev.int (Cmp.eqI _ _) rfl) ?_
      refine Bk.ifT (b := false) (Tst.cmpD (Ev.name rfl rfl) Ev.int (Cmp.eqI _ _) rfl) ?_
      refine Bk.ifT (b := false) (Tst.cmpD (Ev.name rfl rfl) Ev.int (Cmp.eqI _ _) rfl) ?_
      exact Bk.ifT (b := true) (Tst.cmpD (Ev.name rfl rfl) Ev.int (Cmp.eqI _ _) rfl) (Bk.ret (Ev.call (Ev.glob rfl rfl rfl) (.f (kF_at 28 rfl) (by decide) rfl) (.cons (fun _ => rfl) (Ev.name rfl rfl) .nil) (cn_c14n t h)))
    | 4, _ =>
      refine Bk.ifT (b := false) (Tst.cmpD (Ev.name rfl rfl) Ev.int (Cmp.eqI _ _) rfl) ?_
      refine Bk.ifT (b := false) (Tst.cmpD (Ev.name rfl rfl) Ev.int (Cmp.eqI _ _) rfl) ?_
      refine Bk.ifT (b := false) (Tst.cmpD (Ev.name rfl rfl) Ev.int (Cmp.eqI _ _) rfl) ?_
      refine Bk.ifT (b := false) (Tst.cmpD (Ev.name rfl rfl) Ev.int (Cmp.eqI _ _) rfl) ?_
      exact Bk.ret (Ev.call (Ev.glob rfl rfl rfl) (.f (kF_at 30 rfl) (by decide) rfl) (.cons (fun _ => rfl) (Ev.name rfl rfl) .nil) (cn_atc14n t h))
    | n + 5, h => exact absurd h (by omega)
end
end Mine
end
section
open PySem PySem.W PyProof.Rows PySem.Builtin PySem.Builtin.Str
namespace Mine
theorem Tst.bool {X : Fx} {k : Nat} {W : Own} {ρ : Vars} {x : Expr} {b : Bool} (hx : Ev X k W ρ x (.dat (.bool b))) (he : ∀ whole : Sem Value, isTrue x X.env whole = (do let v ← whole; standAt x.pos; holding [v] (truthy v))) : Tst X k W ρ x b := fun A E s Q R T h =>
  isTrue_plain (hx A E s _ R T fun v s' t r => by
    change Rd _ _ _ _ at r
    cases r
    exact wpAny_truthy_bool (h _ t)) (he _)
noncomputable def signOf : Tn → Option Nat
  | .one (.dat (.str x)) => x.cps[0]?
  | _ => none
noncomputable def prepG (t : Tn) : Option PyData := (signOf t).bind fun c => if b1mem (c : Int) then none else some (.str (Txt.lower ⟨#[c]⟩))
noncomputable def prepL (x : Str) : List Str := (x.cps.toList.filter fun (c : Nat) => !b1mem (c : Int)).map fun c => Txt.lower ⟨#[c]⟩
noncomputable def prepF (x : Str) : Str := joinT (S "") (prepL x)
theorem prep_filterMap (x : Str) : (signsT x).filterMap prepG = (prepL x).map .str := by
  unfold signsT prepL
  rw [List.filterMap_map]
  generalize x.cps.toList = l
  induction l with
  | nil => rfl
  | cons c r ih =>
    rw [List.filterMap_cons, ih]
    have e : (prepG ∘ fun c => Tn.one (D.dat (.str ⟨#[c]⟩))) c = if b1mem (c : Int) then none else some (.str (Txt.lower ⟨#[c]⟩)) := rfl
    rw [e]
    cases h : b1mem (c : Int) with
    | true => rw [List.filter_cons_of_neg (by simp [h])]; rfl
    | false => rw [List.filter_cons_of_pos (by simp [h])]; rfl
noncomputable def prepOk (x : Str) : Bool := x.cps.toList.all (fun c => b1mem (c : Int) || decide (c < 181)) && decide (x.cps.size ≤ 100000) && !tooLong ((prepL x).toArray.foldl (· + ·.length + (S "").length) 0) && decide ((Builtin.Str.glued (S "") (prepL x)).length ≤ 1000000)
section
variable {w : World}
theorem cn_prepared (x : Str) (h : prepOk x = true) : Cn w 2 (.ref 202) [.dat (.str x)] (.dat (.str (prepF x))) :=
  Cn.of_body (k := 1) (ns := [S "word"]) (kF_at 37 rfl) (by decide) rfl (kF_at 36 rfl) (by decide) rfl rfl
    (fun vs h => by rcases vs with _ | ⟨a, _ | _⟩ <;> first | rfl | (simp at h))
    rfl rfl rfl (by decide) ⟨.inl rfl, trivial⟩ fun h₀ N => by
    unfold prepOk at h
    simp only [Bool.and_eq_true, decide_eq_true_eq, Bool.not_eq_true'] at h
    obtain ⟨⟨⟨h1, h2⟩, h3⟩, h4⟩ := h
    refine Bk.ret (Ev.join Ev.str (.cons (fun _ => rfl) (Ev.to (Ev.comp (g := prepG) (xs := [S "sign"]) (oc := []) (ρc := [])
      { hit := Itr.str (Ev.name rfl rfl)
        hs := fun _ => rfl
        hclos := rfl
        hclo := by exact trivial
        hkind := rfl
        hnames := by decide
        hoc := .no (fun _ _ => rfl) (fun _ => rfl)
        hcap := by exact trivial
        hxs' := rfl
        hxc' := rfl
        htg := fun _ => .one (.inl rfl)
        hft := fun it hit => by obtain ⟨c, _, rfl⟩ := List.mem_map.mp hit; trivial
        hsz := by unfold signsT; rw [List.length_map, Array.length_toList]; exact h2
        body := fun N' C it hit => by
          obtain ⟨c, hc, rfl⟩ := List.mem_map.mp hit
          have hc' := List.all_eq_true.mp h1 c hc
          have hg : prepG (Tn.one (D.dat (.str ⟨#[c]⟩))) = if b1mem (c : Int) then none else some (.str (Txt.lower ⟨#[c]⟩)) := rfl
          rw [hg]
          cases hb : b1mem (c : Int) with
          | true => exact Tst.to (Tst.not (Tst.bool (Ev.call (Ev.glob rfl rfl rfl) (.f (kF_at 15 rfl) (by decide) rfl) (.cons (fun _ => rfl) (Ev.name rfl rfl) .nil) (cn_b1 c)) (fun _ => rfl))) (by rw [hb]; rfl)
          | false =>
            rw [hb] at hc'
            exact ⟨Tst.to (Tst.not (Tst.bool (Ev.call (Ev.glob rfl rfl rfl) (.f (kF_at 15 rfl) (by decide) rfl) (.cons (fun _ => rfl) (Ev.name rfl rfl) .nil) (cn_b1 c)) (fun _ => rfl))) (by rw [hb]; rfl),
              Ev.call (Ev.glob rfl rfl rfl) (.f (kF_at 18 rfl) (by decide) rfl) (.cons (fun _ => rfl) (Ev.name rfl rfl) .nil) (cn_b3 c (by simpa using hc'))⟩ })
      (by rw [prep_filterMap])) .nil) rfl rfl h3 (Nat.le_trans h4 (by decide)))
end
noncomputable def meantT : List Str := [S "&<>", S "&<>\"\r\n\t", S "&>\"", S "&<>\r", S "&<\"\r\n\t"]
noncomputable def meantA : List Str := [S "&amp;", S "&lt;", S "&gt;", S "&quot;"]
noncomputable def meantB : List Str := [S "&#13;", S "&#10;", S "&#09;"]
noncomputable def meantC : List Str := [S "&#xd;", S "&#xa;", S "&#x9;"]
noncomputable def placeF (t : Str) : Int := Txt.find (S "&<>\"\r\n\t") t
noncomputable def meantF (kind : Nat) (t : Str) : Str :=
  if !Txt.contains (meantT.getD kind (S "")) t then t
  else if placeF t < 4 then meantA.getD (placeF t).toNat (S "")
  else if kind == 1 then meantB.getD (placeF t - 4).toNat (S "") else meantC.getD (placeF t - 4).toNat (S "")
theorem strs_at {l : List Str} {i : Nat} (h : i < l.length) : (l.map PyData.str)[i]? = some (.str (l.getD i (S ""))) := by
  rw [List.getElem?_map, List.getElem?_eq_getElem h, List.getD_eq_getElem?_getD, List.getElem?_eq_getElem h]; rfl
section
variable {w : World}
theorem cn_meant (kind : Nat) (hk : kind < 5) (t : Str) (h0 : 0 ≤ placeF t) (h7 : placeF t < 7) : Cn w 1 (.ref 216) [.dat (.int (kind : Int)), .dat (.str t)] (.dat (.str (meantF kind t))) :=
  Cn.of_body (k := 0) (ns := [S "kind", S "sign"]) (kF_at 41 rfl) (by decide) rfl (kF_at 40 rfl) (by decide) rfl rfl
    (fun vs h => by rcases vs with _ | ⟨a, _ | ⟨b, _ | _⟩⟩ <;> first | rfl | (simp at h))
    rfl rfl rfl (by decide) ⟨.inl rfl, .inl rfl, trivial⟩ fun h₀ N => by
    refine Bk.ifT (b := !Txt.contains (meantT.getD kind (S "")) t) (Tst.cmpD (Ev.name rfl rfl) (Ev.itemT (i := (kind : Int)) (j := kind) (Ev.tuple (ds := meantT.map .str) (.cons (fun _ => rfl) Ev.str (.cons (fun _ => rfl) Ev.str (.cons (fun _ => rfl) Ev.str (.cons (fun _ => rfl) Ev.str (.cons (fun _ => rfl) Ev.str .nil))))) (by decide)) (Ev.name rfl rfl) (by omega) (by omega)
      (seqIndex_nat (n := 5) (by omega) (by omega)) (strs_at hk) (fun _ _ => rfl)) (Cmp.notInS _ _) rfl) ?_
    unfold meantF
    cases hc : !Txt.contains (meantT.getD kind (S "")) t with
    | true => exact Bk.ret (Ev.name rfl rfl)
    | false =>
      refine Bk.cons (Thru.assign (d := .dat (.int (placeF t))) (Ev.find Ev.str (.cons (fun _ => rfl) (Ev.name rfl rfl) .nil) rfl rfl) (.inl rfl) rfl) ?_
      rintro W' ρ' ⟨rfl, rfl⟩
      generalize placeF t = p at h0 h7 ⊢
      refine Bk.ifT (b := decide (p < 4)) (Tst.cmpD (Ev.name rfl rfl) Ev.int (Cmp.ltI _ _) rfl) ?_
      by_cases hp : p < 4
      · rw [decide_eq_true hp, if_pos hp]
        exact Bk.ret (Ev.itemT (i := p) (j := p.toNat) (Ev.tuple (ds := meantA.map .str) (.cons (fun _ => rfl) Ev.str (.cons (fun _ => rfl) Ev.str (.cons (fun _ => rfl) Ev.str (.cons (fun _ => rfl) Ev.str .nil)))) (by decide)) (Ev.name rfl rfl) (by omega) (by omega) (seqIndex_nat (n := 4) (by omega) (by omega)) (strs_at (l := meantA) (by show p.toNat < 4; omega)) (fun _ _ => rfl))
      · rw [decide_eq_false hp, if_neg hp]
        refine Bk.ret (Ev.ifexp (b := kind == 1) (Tst.to (Tst.cmpD (Ev.name rfl rfl) Ev.int (Cmp.eqI _ _) rfl) ?_) ?_)
        · cases hq : kind == 1 with
          | true => have := beq_iff_eq.mp hq; subst this; rfl
          | false =>
            have := beq_eq_false_iff_ne.mp hq
            rw [beq_eq_false_iff_ne]; omega
        · cases hq : kind == 1 with
          | true =>
            exact Ev.itemT (i := p - 4) (j := (p - 4).toNat) (Ev.tuple (ds := meantB.map .str) (.cons (fun _ => rfl) Ev.str (.cons (fun _ => rfl) Ev.str (.cons (fun _ => rfl) Ev.str .nil))) (by decide)) (Ev.subI (Ev.name rfl rfl) Ev.int) (by omega) (by omega) (seqIndex_nat (n := 3) (by omega) (by omega)) (strs_at (l := meantB) (by show (p - 4).toNat < 3; omega)) (fun _ _ => rfl)
          | false =>
            exact Ev.itemT (i := p - 4) (j := (p - 4).toNat) (Ev.tuple (ds := meantC.map .str) (.cons (fun _ => rfl) Ev.str (.cons (fun _ => rfl) Ev.str (.cons (fun _ => rfl) Ev.str .nil))) (by decide)) (Ev.subI (Ev.name rfl rfl) Ev.int) (by omega) (by omega) (seqIndex_nat (n := 3) (by omega) (by omega)) (strs_at (l := meantC) (by show (p - 4).toNat < 3; omega)) (fun _ _ => rfl)
end
end Mine
end
section
open PySem PySem.W PyProof.Rows PySem.Builtin PySem.Builtin.Str
namespace Mine
noncomputable def typU (seed : Int) : Bool := seed.fmod 2 != 0
noncomputable def typP (seed : Int) : Bool := (seed.fdiv 2).fmod 2 != 0
noncomputable def typI (seed : Int) : Int := (seed.fdiv 4).fmod 11
noncomputable def typE (seed : Int) : Bool := (seed.fdiv 44).fmod 2 != 0
noncomputable def unseenS : Str := ⟨#[173, 847, 6150, 6155, 6156, 6157, 8203, 8204, 8205, 8288, 65279]⟩
noncomputable def upF (u : Bool) (w : Str) : Str := if u then Txt.upper w else w
noncomputable def rawF (u p : Bool) (i : Int) (w : Str) : Str := if p then Txt.item unseenS i ++ upF u w else upF u w
noncomputable def escS (r : Str) : List Str := r.cps.toList.map fun c => S "\\" ++ (⟨#[c]⟩ : Str)
noncomputable def wrapF (e : Bool) (r : Str) : Str := if e then joinT (S "") (escS r) else S "\"" ++ Txt.replace r (S "\"") (S "\\\"") ++ S "\""
noncomputable def typOk (u p : Bool) (i : Int) (w : Str) : Bool :=
  !tooLong (Txt.upper w).length && decide ((Txt.item unseenS i).length + (upF u w).length ≤ 1000) && decide ((rawF u p i w).cps.size ≤ 1000) && decide ((rawF u p i w).length ≤ 1000) && !tooLong ((escS (rawF u p i w)).toArray.foldl (· + ·.length + (S "").length) 0)
    && decide ((Builtin.Str.glued (S "") (escS (rawF u p i w))).length ≤ 1000) && decide ((S "\"").length + (Txt.replace (rawF u p i w) (S "\"") (S "\\\"")).length ≤ 1000) && decide ((S "\"" ++ Txt.replace (rawF u p i w) (S "\"") (S "\\\"")).length + (S "\"").length ≤ 1000)
noncomputable def escG (t : Tn) : Option PyData := (signOf t).map fun c => .str (S "\\" ++ (⟨#[c]⟩ : Str))
theorem esc_filterMap (x : Str) : (signsT x).filterMap escG = (escS x).map .str := by
  unfold signsT escS
  rw [List.filterMap_map, List.map_map, ← List.filterMap_eq_map]
  rfl
theorem unseen_at : ∀ n : Nat, n < 11 → fitsSsize (n : Int) = true ∧ (Txt.charAt unseenS (n : Int)).isSome = true := by decide +kernel
theorem typI_range (seed : Int) : 0 ≤ typI seed ∧ typI seed < 11 := ⟨Int.fmod_nonneg_of_pos _ (by decide), Int.fmod_lt_of_pos _ (by decide)⟩
theorem oneS {c : Nat} : (S "\\").length + (⟨#[c]⟩ : Str).length ≤ sizeLine := by
  have h1 : (S "\\").length = 1 := by decide +kernel
  have h2 : (⟨#[c]⟩ : Str).length = 1 := rfl
  rw [h1, h2]; decide
section
variable {w : World}
theorem cn_typed (x : Str) (seed : Int) (h : typOk (typU seed) (typP seed) (typI seed) x = true) : Cn w 1 (.ref 221) [.dat (.str x), .dat (.int seed)] (.dat (.str (wrapF (typE seed) (rawF (typU seed) (typP seed) (typI seed) x)))) :=
  Cn.of_body (k := 0) (ns := [S "written", S "seed"]) (kF_at 43 rfl) (by decide) rfl (kF_at 42 rfl) (by decide) rfl rfl
    (fun vs h => by rcases vs with _ | ⟨a, _ | ⟨b, _ | _⟩⟩ <;> first | rfl | (simp at h))
    rfl rfl rfl (by decide) ⟨.inl rfl, .inl rfl, trivial⟩ fun h₀ N => by
    unfold typOk at h
    simp only [Bool.and_eq_true, decide_eq_true_eq, Bool.not_eq_true'] at h
    obtain ⟨⟨⟨⟨⟨⟨⟨g1, g2⟩, g3⟩, g4⟩, g5⟩, g6⟩, g7⟩, g8⟩ := h
    have sl : (1000 : Nat) ≤ sizeLine := by decide
    refine Bk.cons (Thru.assign Ev.str (.inl rfl) rfl) ?_
    rintro W' ρ' ⟨rfl, rfl⟩
    refine Bk.pre (ρ' := [(S "unseen", .dat (.str unseenS)), (S "written", .dat (.str x)), (S "seed", .dat (.int seed))]) ⟨rfl, rfl, rfl, trivial⟩ ?_
    refine Bk.cons (P := fun W' ρ' => W' = [] ∧ Sub [(S "unseen", .dat (.str unseenS)), (S "written", .dat (.str (upF (typU seed) x))), (S "seed", .dat (.int seed))] ρ') (Thru.ifT (b := typU seed) (Tst.int (Ev.modI (Ev.name rfl rfl) Ev.int rfl) (fun _ => rfl)) ?_) ?_
    · cases hu : typU seed with
      | true =>
        refine (Thru.assign (Ev.upper (Ev.name rfl rfl) rfl rfl g1) (.inl rfl) rfl).to ?_
        rintro W' ρ' ⟨rfl, rfl⟩
        exact ⟨rfl, rfl, rfl, rfl, trivial⟩
      | false => exact Thru.nil ⟨rfl, rfl, rfl, rfl, trivial⟩
    rintro W' ρ' ⟨rfl, hs⟩
    refine Bk.pre hs ?_
    refine Bk.cons (P := fun W' ρ' => W' = [] ∧ Sub [(S "written", .dat (.str (rawF (typU seed) (typP seed) (typI seed) x))), (S "seed", .dat (.int seed))] ρ') (Thru.ifT (b := typP seed) (Tst.int (Ev.modI (Ev.fdivI (Ev.name rfl rfl) Ev.int rfl (by decide)) Ev.int rfl) (fun _ => rfl)) ?_) ?_
    · cases hp : typP seed with
      | true =>
        have hi := typI_range seed
        have hn : ((typI seed).toNat : Int) = typI seed := Int.toNat_of_nonneg hi.1
        have hu := unseen_at (typI seed).toNat (by omega)
        rw [hn] at hu
        refine (Thru.assign (Ev.addS (Ev.itemS (i := typI seed) (Ev.name rfl rfl) (Ev.modI (Ev.fdivI (Ev.name rfl rfl) Ev.int rfl (by decide)) Ev.int rfl) hu.1 hu.2 (fun _ _ => rfl)) (Ev.name rfl rfl) (Nat.le_trans g2 sl)) (.inl rfl) rfl).to ?_
        rintro W' ρ' ⟨rfl, rfl⟩
        exact ⟨rfl, rfl, rfl, trivial⟩
      | false => exact Thru.nil ⟨rfl, rfl, rfl, trivial⟩
    rintro W' ρ' ⟨rfl, hs⟩
    refine Bk.pre hs ?_
    generalize rawF (typU seed) (typP seed) (typI seed) x = r at g3 g4 g5 g6 g7 g8 ⊢
    refine Bk.ifT (b := typE seed) (Tst.int (Ev.modI (Ev.fdivI (Ev.name rfl rfl) Ev.int rfl (by decide)) Ev.int rfl) (fun _ => rfl)) ?_
    cases he : typE seed with
    | true =>
      refine Bk.ret (Ev.join Ev.str (.cons (fun _ => rfl) (Ev.to (Ev.comp (g := escG) (xs := [S "sign"]) (oc := []) (ρc := [])
        { hit := Itr.str (Ev.name rfl rfl)
          hs := fun _ => rfl
          hclos := rfl
          hclo := by exact trivial
          hkind := rfl
          hnames := by decide
          hoc := .no (fun _ _ => rfl) (fun _ => rfl)
          hcap := by exact trivial
          hxs' := rfl
          hxc' := rfl
          htg := fun _ => .one (.inl rfl)
          hft := fun it hit => by obtain ⟨c, _, rfl⟩ := List.mem_map.mp hit; trivial
          hsz := by unfold signsT; rw [List.length_map, Array.length_toList]; omega
          body := fun N' C it hit => by
            obtain ⟨c, hc, rfl⟩ := List.mem_map.mp hit
            exact ⟨rfl, Ev.addS Ev.str (Ev.name rfl rfl) oneS⟩ })
        (by rw [esc_filterMap])) .nil) rfl rfl g5 (Nat.le_trans g6 sl))
    | false =>
      exact Bk.ret (Ev.addS (Ev.addS Ev.str (Ev.replace (Ev.name rfl rfl) rfl rfl rfl (by omega) (by decide +kernel)) (Nat.le_trans g7 sl)) Ev.str (Nat.le_trans g8 sl))
end
end Mine
end
section
open PySem PySem.W PyProof.Rows PySem.Builtin PySem.Builtin.Str
namespace Mine
noncomputable def kC (P : Params) : Frag := [(48, o48_7 P), (49, o49_7 P), (55, o55_7 P), (56, o56_7 P), (62, o62_7 P), (63, o63_7 P), (72, o72_7 P), (73, o73_7 P)]
theorem Cx.kc {w : World} {h : Heap} (C : Cx w h) : (kC w.params).In h := fun a o e => by
  have hm : ∀ {l : Frag}, l.lookup a = some o → (a, o) ∈ l := by
    intro l; induction l with
    | nil => intro q; cases q
    | cons p r ih =>
      intro q
      rw [List.lookup_cons] at q
      cases hb : a == p.1 with
      | true => rw [hb] at q; cases q; rw [beq_iff_eq.mp hb]; exact List.mem_cons_self
      | false => rw [hb] at q; exact List.mem_cons_of_mem _ (ih q)
  have := hm e
  simp only [kC, List.mem_cons, List.not_mem_nil, or_false, Prod.mk.injEq] at this
  rcases this with ⟨rfl, rfl⟩ | ⟨rfl, rfl⟩ | ⟨rfl, rfl⟩ | ⟨rfl, rfl⟩ | ⟨rfl, rfl⟩ | ⟨rfl, rfl⟩ | ⟨rfl, rfl⟩ | ⟨rfl, rfl⟩
  · exact C.kin _ _ (kF_at 5 rfl) (by decide)
  · exact C.kin _ _ (kF_at 6 rfl) (by decide)
  · exact C.kin _ _ (kF_at 7 rfl) (by decide)
  · exact C.kin _ _ (kF_at 8 rfl) (by decide)
  · exact C.kin _ _ (kF_at 9 rfl) (by decide)
  · exact C.kin _ _ (kF_at 10 rfl) (by decide)
  · exact C.kin _ _ (kF_at 11 rfl) (by decide)
  · exact C.kin _ _ (kF_at 12 rfl) (by decide)
theorem kc_makes (P : Params) : makesIn (kC P) 73 = true := by kernel_rfl
theorem kc_init (P : Params) : findIn (kC P) (.ref 73) "__init__" = some (some (.ref 49)) := by kernel_rfl
theorem kc_char (P : Params) : findIn (kC P) (.ref 73) "_read_char" = some (some (.ref 56)) := by kernel_rfl
theorem kc_token (P : Params) : findIn (kC P) (.ref 73) "get_token" = some (some (.ref 63)) := by kernel_rfl
theorem kc_ga (P : Params) : findIn (kC P) (.ref 73) "__getattribute__" = some (some (.builtin "object.__getattribute__")) := by kernel_rfl
theorem kc_hook (P : Params) : findIn (kC P) (.ref 73) "__getattr__" = some none := by kernel_rfl
theorem kc_sa (P : Params) : findIn (kC P) (.ref 73) "__setattr__" = some (some (.builtin "object.__setattr__")) := by kernel_rfl
theorem kc_read (P : Params) : findIn (kC P) (.ref 73) "read" = some none := by kernel_rfl
theorem kc_fn49 (P : Params) : typeIn (kC P) (.ref 49) = some (.type "function") := by kernel_rfl
theorem kc_fn56 (P : Params) : typeIn (kC P) (.ref 56) = some (.type "function") := by kernel_rfl
theorem kc_fn63 (P : Params) : typeIn (kC P) (.ref 63) = some (.type "function") := by kernel_rfl
theorem kc_plain (P : Params) : plainOver (kC P) 73 = true := by kernel_rfl
theorem kc_t1 (P : Params) : takerIn (kC P) 73 "lineno" = some none := by kernel_rfl
theorem kc_t2 (P : Params) : takerIn (kC P) 73 "instream" = some none := by kernel_rfl
theorem kc_t3 (P : Params) : takerIn (kC P) 73 "whitespace" = some none := by kernel_rfl
theorem kc_t4 (P : Params) : takerIn (kC P) 73 "pushback" = some none := by kernel_rfl
theorem kc_t5 (P : Params) : takerIn (kC P) 73 "read" = some none := by kernel_rfl
theorem kc_dict (P : Params) : (clsIn (kC P) 73).any (·.hasDict) = true := by kernel_rfl
theorem kc_get (P : Params) : specialIn (kC P) (.ref 56) "__get__" = some (some (.builtin "function.__get__")) := by kernel_rfl
theorem kc_takes (P : Params) : takesIn (kC P) (.ref 56) = some false := by kernel_rfl
theorem kc_pg (P : Params) : plainGet (kC P) 73 "_read_char" = true := by kernel_rfl
end Mine
end
section
open PySem PySem.W PyProof.Rows PySem.Builtin PySem.Builtin.Str
namespace Mine
/-- all but these are kept -/
noncomputable def Ex (ex : List Addr) (s s' : Shared) : Prop := (∃ h' tk, s' = { s with heap := h', toks := tk } ∧ s.toks ≤ tk) ∧ ∀ b o, b ∉ ex → s.heap.get? b = some o → s'.heap.get? b = some o
theorem Ex.trans {ex : List Addr} {s s₁ s₂ : Shared} (a : Ex ex s s₁) (b : Ex ex s₁ s₂) : Ex ex s s₂ := by
  obtain ⟨⟨h, t, rfl, q⟩, k⟩ := a; obtain ⟨⟨h', t', rfl, q'⟩, k'⟩ := b
  exact ⟨⟨h', t', rfl, Nat.le_trans q q'⟩, fun c o hc e => k' c o hc (k c o hc e)⟩
theorem Ex.ofTo {ex : List Addr} {s s' : Shared} (t : To s s') : Ex ex s s' := by
  obtain ⟨h, tk, rfl, k, q⟩ := t; exact ⟨⟨h, tk, rfl, q⟩, fun c o _ e => k c o e⟩
theorem Ex.mono {ex ex' : List Addr} {s s' : Shared} (a : Ex ex s s') (h : ∀ b ∈ ex, b ∈ ex') : Ex ex' s s' := ⟨a.1, fun c o hc e => a.2 c o (fun q => hc (h c q)) e⟩
theorem Ex.le {ex : List Addr} {s s' : Shared} (a : Ex ex s s') : s.toks ≤ s'.toks := by obtain ⟨⟨h, tk, rfl, q⟩, k⟩ := a; exact q
noncomputable def pcSt : Stmt := ((dB (st 20)).drop 2).headD (.Pass p0)
noncomputable abbrev pcFd (q : Str) (cl : List (Str × Addr)) (doc pm cd ct : Value) : FuncData := fnX (S "_law_piece") q (dA pcSt) (dB pcSt) (dS pcSt) cl .none .none doc pm none cd ct
structure Lx where
  hb : Heap
  text : Str
  x : Addr
  dx : Addr
  y : Addr
  dy : Addr
  pb : Addr
  f : Addr
  g : Addr
  ct : Addr
  cg : Addr
  kd : Addr
/-- all that a lexer consists of -/
noncomputable def Lx.all (l : Lx) : List Addr := [l.x, l.dx, l.y, l.dy, l.pb, l.f, l.g, l.ct, l.cg, l.kd]
noncomputable def wsS : Str := S "\n\t\r "
noncomputable def lnOf (x : Str) (p : Nat) : Int := 1 + ((x.cps.toList.take p).count 10 : Nat)
structure LexC (w : World) (l : Lx) (h : Heap) : Prop where
  base : Cx w l.hb
  kb : Kp l.hb h
  lo : ∀ a ∈ l.all, l.hb.objs.size ≤ a
  ox : h.get? l.x = some (instObj 73 l.dx)
  oy : h.get? l.y = some (instObj 73 l.dy)
  ody : ∃ es n, h.get? l.dy = some (dictOf es n) ∧ getL "read" es = some (some (.ref l.f))
  opb : ∃ n, IsL h l.pb #[] n
  of : ∃ fo q doc pm ct oc vs t, h.get? l.f = some fo ∧ fo.data = .func (pcFd q [(S "text", l.ct), (S "gone", l.cg)] doc pm (.ref l.kd) ct) ∧ h.get? l.kd = some oc ∧ oc.data = .fields vs ∧ vs[1]? = some (.str q t)
  oct : ∃ t, h.IsCell l.ct (some (.str l.text t))
  ocg : h.IsCell l.cg (some (.ref l.g))
  ne : l.all.Nodup
structure LexV (l : Lx) (p : Nat) (h : Heap) : Prop where
  le : p ≤ l.text.cps.size
  od : ∃ h1 t1 h2 t2 h3 t3 h4 t4 tl tw n, h.get? l.dx = some (dictOf [⟨h1, .str "lineno" t1, .int (lnOf l.text p) tl⟩, ⟨h2, .str "instream" t2, .ref l.y⟩, ⟨h3, .str "whitespace" t3, .str wsS tw⟩, ⟨h4, .str "pushback" t4, .ref l.pb⟩] n)
  og : ∃ vs n, IsL h l.g vs n ∧ vs.size = p
theorem Lx.m_x (l : Lx) : l.x ∈ l.all := by simp [Lx.all]
theorem Lx.m_dx (l : Lx) : l.dx ∈ l.all := by simp [Lx.all]
theorem Lx.m_y (l : Lx) : l.y ∈ l.all := by simp [Lx.all]
theorem Lx.m_dy (l : Lx) : l.dy ∈ l.all := by simp [Lx.all]
theorem Lx.m_pb (l : Lx) : l.pb ∈ l.all := by simp [Lx.all]
theorem Lx.m_f (l : Lx) : l.f ∈ l.all := by simp [Lx.all]
theorem Lx.m_g (l : Lx) : l.g ∈ l.all := by simp [Lx.all]
theorem Lx.m_ct (l : Lx) : l.ct ∈ l.all := by simp [Lx.all]
theorem Lx.m_cg (l : Lx) : l.cg ∈ l.all := by simp [Lx.all]
theorem Lx.m_kd (l : Lx) : l.kd ∈ l.all := by simp [Lx.all]
theorem LexC.gn {w : World} {l : Lx} {h : Heap} (C : LexC w l h) : l.g ≠ l.ct ∧ l.g ≠ l.cg ∧ l.ct ≠ l.cg := by
  have n6 : [l.g, l.ct, l.cg, l.kd].Nodup := List.Nodup.sublist (List.drop_sublist 6 l.all) C.ne
  obtain ⟨a, n7⟩ := List.nodup_cons.mp n6
  have b := (List.nodup_cons.mp n7).1
  exact ⟨fun q => a (by rw [q]; exact .head _), fun q => a (by rw [q]; exact .tail _ (.head _)), fun q => b (by rw [q]; exact .head _)⟩
theorem LexC.dxg {w : World} {l : Lx} {h : Heap} (C : LexC w l h) : l.dx ≠ l.g := fun q =>
  (List.nodup_cons.mp (List.nodup_cons.mp C.ne).2).1 (by rw [q]; exact .tail _ (.tail _ (.tail _ (.tail _ (.head _)))))
theorem LexC.keep {w : World} {l : Lx} {h h' : Heap} {ex : List Addr} (C : LexC w l h) (hk : ∀ b o, b ∉ ex → h.get? b = some o → h'.get? b = some o) (hx : ∀ b ∈ ex, (b = l.dx ∨ b = l.g ∨ b ∉ l.all) ∧ l.hb.objs.size ≤ b) : LexC w l h' := by
  have ne := C.ne
  simp only [Lx.all, List.nodup_cons, List.mem_cons, List.not_mem_nil, or_false, not_or] at ne
  obtain ⟨⟨n1, n2, n3, n4, n5, n6, n7, n8, n9⟩, ⟨m1, m2, m3, m4, m5, m6, m7, m8⟩, ⟨k1, k2, k3, k4, k5, k6, k7⟩, ⟨j1, j2, j3, j4, j5, j6⟩, ⟨i1, i2, i3, i4, i5⟩, ⟨f1, f2, f3, f4⟩, ⟨g1, g2, g3⟩, _⟩ := ne
  have nn : ∀ {b : Addr}, b ∈ l.all → b ≠ l.dx → b ≠ l.g → b ∉ ex := fun m a c q => by
    rcases (hx _ q).1 with q | q | q
    · exact a q
    · exact c q
    · exact q m
  refine ⟨C.base, fun b o e => hk b o (fun q => ?_) (C.kb b o e), C.lo, hk _ _ (nn l.m_x n1 n6) C.ox, hk _ _ (nn l.m_y (Ne.symm m1) k4) C.oy, ?_, ?_, ?_, ?_, ?_, C.ne⟩
  · have := (hx b q).2; have h2 := Heap.lt_size e; exact Nat.lt_irrefl _ (Nat.lt_of_lt_of_le h2 this)
  · obtain ⟨es, n, e, r⟩ := C.ody; exact ⟨es, n, hk _ _ (nn l.m_dy (Ne.symm m2) j3) e, r⟩
  · obtain ⟨n, e⟩ := C.opb; exact ⟨n, hk _ _ (nn l.m_pb (Ne.symm m3) i2) e⟩
  · obtain ⟨fo, q, doc, pm, ct, oc, vs, t, e, d, e', r⟩ := C.of
    exact ⟨fo, q, doc, pm, ct, oc, vs, t, hk _ _ (nn l.m_f (Ne.symm m4) f1) e, d, hk _ _ (nn l.m_kd (Ne.symm m8) (Ne.symm g3)) e', r⟩
  · obtain ⟨t, o, e, d⟩ := C.oct; exact ⟨t, o, hk _ _ (nn l.m_ct (Ne.symm m6) (Ne.symm g1)) e, d⟩
  · obtain ⟨o, e, d⟩ := C.ocg; exact ⟨o, hk _ _ (nn l.m_cg (Ne.symm m7) (Ne.symm g2)) e, d⟩
theorem LexV.keep {l : Lx} {h h' : Heap} {p : Nat} {ex : List Addr} (V : LexV l p h) (hk : ∀ b o, b ∉ ex → h.get? b = some o → h'.get? b = some o) (hx : ∀ b ∈ ex, b ∉ l.all) : LexV l p h' := by
  obtain ⟨a, ⟨h1, t1, h2, t2, h3, t3, h4, t4, tl, tw, n, e⟩, vs, m, c, d⟩ := V
  exact ⟨a, ⟨h1, t1, h2, t2, h3, t3, h4, t4, tl, tw, n, hk _ _ (fun q => hx _ q l.m_dx) e⟩, vs, m, hk _ _ (fun q => hx _ q l.m_g) c, d⟩
theorem LexC.to {w : World} {l : Lx} {h h' : Heap} (C : LexC w l h) (hk : Kp h h') : LexC w l h' := C.keep (ex := []) (fun b o _ e => hk b o e) fun _ q => nomatch q
theorem LexV.to {l : Lx} {h h' : Heap} {p : Nat} (V : LexV l p h) (hk : Kp h h') : LexV l p h' := V.keep (ex := []) (fun b o _ e => hk b o e) fun _ q => nomatch q
theorem LexC.cx {w : World} {l : Lx} {h : Heap} (C : LexC w l h) : Cx w h := C.base.keeps C.kb
theorem LexC.alloc {w : World} {l : Lx} {h : Heap} {p : Nat} (C : LexC w l h) (V : LexV l p h) : ∀ a ∈ l.all, (a : Nat) < h.objs.size := fun a ha => by
  simp only [Lx.all, List.mem_cons, List.not_mem_nil, or_false] at ha
  rcases ha with rfl | rfl | rfl | rfl | rfl | rfl | rfl | rfl | rfl | rfl
  · exact Heap.lt_size C.ox
  · obtain ⟨h1, t1, h2, t2, h3, t3, h4, t4, tl, tw, n, e⟩ := V.od; exact Heap.lt_size e
  · exact Heap.lt_size C.oy
  · obtain ⟨es, n, e, _⟩ := C.ody; exact Heap.lt_size e
  · obtain ⟨n, e⟩ := C.opb; exact Heap.lt_size e
  · obtain ⟨fo, q, doc, pm, ct, oc, vs, t, e, _⟩ := C.of; exact Heap.lt_size e
  · obtain ⟨vs, n, e, _⟩ := V.og; exact Heap.lt_size e
  · obtain ⟨t, o, e, _⟩ := C.oct; exact Heap.lt_size e
  · obtain ⟨o, e, _⟩ := C.ocg; exact Heap.lt_size e
  · obtain ⟨fo, q, doc, pm, ct, oc, vs, t, _, _, e, _⟩ := C.of; exact Heap.lt_size e
/-- a frame among the lexer's -/
noncomputable def lf (w : World) (l : Lx) (env : Env) : Fx := ⟨w, l.hb, fun _ => False, env⟩
section
variable {M : Model} {A : Around} {E : Value → Shared → Prop} {s : Shared} {env : Env}
theorem raw_assign {x : Str} {e : Expr} {p pos : Pos} {Q : Flow → Shared → Prop} (hs : swapsWith e (some (.Name x p)) pos.line env = pure false)
    (h : wpAny M A (eval e env) (fun v s₁ => wpAny M A (storeName env x v) (fun _ s₂ => Q .next s₂) E s₁) E s) : wpAny M A (exec (.Assign [.Name x p] e pos) env) Q E s := by
  rw [exec_Assign_Name _ _ _ _ _ hs]
  refine wpAny_bind (wpAny_standAt (wpAny_bind (wpAny_mono h (fun v s₁ h₁ => ?_) fun _ _ e => e)))
  exact wpAny_bind (wpAny_standAt (wpAny_bind (wpAny_bindName (wpAny_mono h₁ (fun _ s₂ h₂ => wpAny_pure h₂) fun _ _ e => e))))
theorem raw_cons {st : Stmt} {rest : List Stmt} {Q : Flow → Shared → Prop} (h : wpAny M A (exec st env) (fun f s' => match f with | .next => wpAny M A (execs rest env) Q E s' | f => Q f s') E s) : wpAny M A (execs (st :: rest) env) Q E s :=
  wpAny_execs_cons (wpAny_mono h (fun f s' q => by cases f <;> exact q) fun _ _ e => e)
end
end Mine
end
section
open PySem PySem.W PyProof.Rows PySem.Builtin PySem.Builtin.Str
namespace Mine
section
variable {prog : Program} {w : World} {A : Around} {R : Result → Shared → Prop} {I : Addr} {fp wr : List Addr} {G : Array GenState → Array GenState → Prop} {n : Nat} {P : Nat → Value → Prop} {St : Nat → Shared → Prop}
/-- list.extend's loop, onto a list that holds something -/
theorem ext_loop (W : WalksS prog w A.in1 I fp wr G n P St) (hn : n ≤ 1000) (S : Addr) (hSf : S ∉ fp) (res : Value) (m : Nat) (hm0 : m ≤ 1000000) :
    ∀ (k i : Nat) (s : Shared) (acc : Array Value) (c : Nat), n - i = k → i ≤ n → St i s → s.heap.get? S = some { cls := .type "list", dict := none, data := .seq acc c, slots := #[] } → acc.size = m + i →
    (∀ s' acc' c', Moved (S :: wr) G s s' → s'.heap.get? S = some { cls := .type "list", dict := none, data := .seq acc' c', slots := #[] } → acc'.size = m + n → R (.ok (.ret res)) s') →
    codeAny (model prog w) A (.builtin "list.extend.loop" ⟨[.ref S, .ref I, res], []⟩) R s := by
  have hSw : S ∉ wr := fun h => hSf (W.sub _ h)
  have hsub : ∀ b ∈ wr, b ∈ S :: wr := fun b hb => List.mem_cons_of_mem _ hb
  have hl : sizeLine = 2 ^ 24 := rfl
  intro k
  induction k with
  | zero =>
    intro i s acc c hk hi hst hS hacc hR
    have hin : i = n := by omega
    subst hin
    refine codeAny_builtin F.entry_extend_loop ?_
    rw [Around.under_plainId F.plain_extend_loop _]
    show wpAny _ A.in1 (pyNext (.ref I) >>= _) _ _ s
    refine wpAny_bind (W.done s _ _ hst fun s' hm => ?_)
    exact wpAny_pure (hR s' acc c (hm.mono hsub) (hm.heap S _ hSw hS) hacc)
  | succ k ih =>
    intro i s acc c hk hi hst hS hacc hR
    have hlt : i < n := by omega
    refine codeAny_builtin F.entry_extend_loop ?_
    rw [Around.under_plainId F.plain_extend_loop _]
    show wpAny _ A.in1 (pyNext (.ref I) >>= _) _ _ s
    refine wpAny_bind (W.item i s _ _ hlt hst fun v s' hP hst' hm => ?_)
    have hS' := hm.heap S _ hSw hS
    show wpAny _ A.in1 (updateSeq S (·.push v) >>= _) _ _ _
    refine wpAny_bind ?_
    refine wpAny_updateSeq hS' rfl (wpAny_pure ⟨plainId_quiet F.plain_extend_loop _, ih (i + 1) _ (acc.push v) _ (by omega) hlt (W.frame _ s' _ s'.toks hst' (Nat.le_refl _) fun b hb o e => ?_) (Heap.get?_update_self _ hS' rfl) (by rw [Array.size_push, hacc]; rfl) fun s'' acc' c' hm'' hS'' hacc' => ?_⟩)
      (by rw [hacc]; omega) (by show (acc.push v).size ≤ sizeLine + 1; rw [Array.size_push, hacc]; omega)
    · exact (Heap.get?_update_other _ _ (fun h : S = b => hSf (by rw [h]; exact hb))).trans e
    · refine hR s'' acc' c' (Moved.trans W.gtrans ((hm.mono hsub).then_heap (Nat.le_refl _) fun b o hb e => ?_) hm'') hS'' hacc'
      exact (Heap.get?_update_other _ _ (fun h : S = b => hb (by rw [h]; exact List.mem_cons_self))).trans e
end
section
variable {w : World} {A : Around} {E : Value → Shared → Prop} {s : Shared}
theorem ext_str {Q : Value → Shared → Prop} (hh : A.handled = none) (x : Str) (t : Tok) {S : Addr} {vs : Array Value} {c : Nat} (hS : IsL s.heap S vs c) (hx : x.cps.size ≤ 1000) (hv : vs.size ≤ 1000000)
    (h : ∀ s' vs' c', Ex [S] s s' → IsL s'.heap S vs' c' → vs'.size = vs.size + x.cps.size → Q .none s') :
    wpAny (mo w) A (call (.builtin "list.extend") [.ref S, .str x t]) Q E s := by
  have hS : s.heap.get? S = some { cls := .type "list", dict := none, data := .seq vs c, slots := #[] } := hS
  have hSI : S ≠ s.heap.objs.size := Nat.ne_of_lt (Heap.lt_size hS)
  have hSf : S ∉ [s.heap.objs.size] := fun hm => hSI (List.mem_singleton.mp hm)
  refine wpAny_call (codeAny_call_builtin F.slot_list_extend.plain F.entry_list_extend (F.slot_list_extend.check _ _ _ _ _ _ _ _ ⟨_, hS, rfl⟩ (F.args_list_extend_2 _ _) ?_))
  show wpAny _ A.in1 (Builtin.List.listExtendWith (.ref S) (.str x t) .none) _ _ s
  unfold Builtin.List.listExtendWith
  refine wpAny_bind (wpAny_typeOf (T := "str") (v := .str x t) rfl ?_)
  have h1 : Builtin.List.listSameRef (.ref S) (.str x t) = false := rfl
  have h2 : (Value.type "str" == Value.type "list") = false := by decide
  have h3 : (Value.type "str" == Value.type "tuple") = false := by decide
  simp only [h1, h2, h3, Bool.or_false, Bool.false_eq_true, if_false]
  refine wpAny_bind (wpAny_pyIter_str fun o St W hst => ?_)
  refine wpAny_bind (wpAny_holding ?_)
  unfold Builtin.List.listLengthHint
  refine wpAny_bind (wpAny_specialOf (T := "str") (v := .str x t) rfl F.str_len ?_)
  wp_delta
  refine wpAny_bind (wpAny_isInstance (T := "str") (v := .str x t) (b := true) rfl (by rw [isSubtype_type]; kernel_rfl) ?_)
  show wpAny _ _ (typeOf (Value.str x t) >>= _) _ _ _
  refine wpAny_bind (wpAny_typeOf (T := "str") (v := .str x t) rfl ?_)
  refine wpAny_pure ?_
  rw [if_neg (by decide)]
  refine wpAny_pure ⟨plainId_quiet F.plain_extend_loop _, ext_loop (W A.in1 hh).toS hx _ hSf _ vs.size hv x.cps.size 0 _ _ _ rfl (Nat.zero_le _) hst (Heap.get?_push_of_some _ hS) rfl fun s' acc' c' hm hS' hacc => ?_⟩
  refine h s' acc' c' ⟨⟨s'.heap, s'.toks, (Moved.eq_with hm).trans rfl, hm.toks⟩, fun b ob hb e => hm.heap b ob (fun hmem => ?_) (Heap.get?_push_of_some _ e)⟩ hS' hacc
  rcases List.mem_cons.mp hmem with e' | hmem
  · exact hb (List.mem_singleton.mpr e')
  · exact absurd (Heap.lt_size e) (by rw [List.mem_singleton.mp hmem]; exact Nat.lt_irrefl _)
/-- the next sign, or none -/
noncomputable def chr (x : Str) (p : Nat) : Str := ⟨((x.cps.toList.drop p).take 1).toArray⟩
theorem chr_size_le (x : Str) (p : Nat) : (chr x p).cps.size ≤ 1 := by simp only [chr, List.size_toArray, List.length_take]; omega
theorem sliceRange_nat (a b : Nat) : sliceRange (a : Int) (b : Int) 1 = (List.range (b - a)).map (a + ·) := PySem.sliceRange_one a b
theorem filterMap_range (xs : List Nat) (a n : Nat) : ((List.range n).map (a + ·)).filterMap (xs[·]?) = (xs.drop a).take n := by
  have := pick_run xs.toArray a n
  simpa using this
theorem slice_chr (x : Str) (p : Nat) (hp : p ≤ x.cps.size) : Txt.slice x (some (p : Int)) (some ((p : Int) + 1)) = chr x p := by
  have hlen : x.length = x.cps.size := rfl
  have e1 : strSliceIndices (some (p : Int)) (some ((p : Int) + 1)) 1 x.length = (List.range (min (p + 1) x.cps.size - p)).map (p + ·) := by
    unfold strSliceIndices
    rw [hlen]
    have a1 : ¬ ((p : Int) < 0) := by omega
    have a2 : ¬ ((p : Int) + 1 < 0) := by omega
    simp only [a1, a2, if_false, show (1 : Int) > 0 by decide, if_true]
    have b1 : max 0 (min (p : Int) (x.cps.size : Int)) = (p : Int) := by omega
    have b2 : max 0 (min ((p : Int) + 1) (x.cps.size : Int)) = ((min (p + 1) x.cps.size : Nat) : Int) := by omega
    rw [b1, b2, sliceRange_nat]
  unfold Txt.slice
  rw [e1]
  have e2 : ((List.range (min (p + 1) x.cps.size - p)).map (p + ·)).filterMap (x.cps[·]?) = (x.cps.toList.drop p).take 1 := by
    have : ((List.range (min (p + 1) x.cps.size - p)).map (p + ·)).filterMap (x.cps[·]?) = ((List.range (min (p + 1) x.cps.size - p)).map (p + ·)).filterMap (x.cps.toList[·]?) := by
      congr 1; funext j; simp
    rw [this, filterMap_range]
    by_cases h : p < x.cps.size
    · rw [show min (p + 1) x.cps.size - p = 1 by omega]
    · rw [show min (p + 1) x.cps.size - p = 0 by omega, List.drop_of_length_le (by simp; omega)]; simp
  rw [e2]
  split
  · rename_i hc
    rw [List.length_map, List.length_range, hlen] at hc
    have hc' : min (p + 1) x.cps.size - p = x.cps.size := by simpa using hc
    unfold chr
    by_cases h0 : x.cps.size = 0
    · have : x.cps = #[] := Array.eq_empty_of_size_eq_zero h0
      rw [this]; simp
      cases x; simp_all
    · have hp0 : p = 0 := by omega
      have hs1 : x.cps.size = 1 := by omega
      subst hp0
      rw [List.drop_zero, List.take_of_length_le (by simp; omega)]
  · rfl
end
end Mine
end
section
open PySem PySem.W PyProof.Rows PySem.Builtin PySem.Builtin.Str
namespace Mine
theorem Stt.lx {w : World} {l : Lx} {env : Env} {h : Heap} {m : Str → Option Value} {ρ : Vars} (C : Cx w l.hb) (K : Kp l.hb h) (hn : h.Ns env.locals m) (ha : l.hb.objs.size ≤ env.locals)
    (hg : env.globals = mainGlobals ∧ env.builtins = builtinsNs ∧ env.scope.kind = .function) (cab : ∀ p ∈ env.cells, l.hb.objs.size ≤ p.2) (cel : ∀ n c, env.cells.lookup n = some c → ∃ v, h.IsCell c v) (ap : env.cells.Pairwise fun x y => x.2 ≠ y.2)
    (hv : ∀ p ∈ ρ, ∃ v, Has env h p.1 v ∧ p.2.ok ((lf w l env).N []) h v) : Stt (lf w l env) [] ρ h :=
  ⟨C, fun _ f => f.elim, K, hg, ⟨m, hn⟩, ha, cab, cel, ap, (fun _ h => nomatch h), hv⟩
theorem LexC.size_le {w : World} {l : Lx} {h : Heap} (C : LexC w l h) : l.hb.objs.size ≤ h.objs.size := by
  obtain ⟨t, o, e, _⟩ := C.oct
  have h1 := C.lo l.ct l.m_ct
  have h2 := Heap.lt_size e
  exact Nat.le_of_lt (Nat.lt_of_le_of_lt h1 h2)
/-- what a frame of the lexer's may change of its own -/
theorem Sv.ex {w : World} {l : Lx} {env : Env} {xs : List Str} {s s' : Shared} (m : Sv (lf w l env) xs s s') (hc : ∀ x ∈ xs, env.cells.lookup x = none) : Ex [env.locals] s s' :=
  ⟨m.same, fun b o hb e => m.kept b o (fun q => by
    rcases q with q | ⟨x, hx, q, _⟩
    · exact hb (List.mem_singleton.mpr q)
    · have q' : env.cells.lookup x = some b := q
      rw [hc x hx] at q'; cases q') e⟩
theorem at_state {α : Type} {M : Model} {A : Around} {t : Sem α} {Q : α → Shared → Prop} {E : Value → Shared → Prop} {s s' : Shared} (e : s = s') (h : wpAny M A t Q E s') : wpAny M A t Q E s := e ▸ h
section
variable {w : World} {A : Around} {E : Value → Shared → Prop} {s : Shared} {k : Nat}
theorem p63 {p n : Nat} (a : p ≤ n) (b : n ≤ 100000) : (p : Int) < 2 ^ 63 := by omega
theorem piece_call {l : Lx} {p : Nat} {t : Tok} {Q : Value → Shared → Prop} (R : Rm (k + 1) A s.toks) (C : LexC w l s.heap) (V : LexV l p s.heap) (hsz : l.text.cps.size ≤ 100000)
    (h : ∀ s' tv vs n, Ex [l.g] s s' → IsL s'.heap l.g vs n → vs.size = p + (chr l.text p).cps.size → Q (.str (chr l.text p) tv) s') : wpAny (mo w) A (call (.ref l.f) [.int 1 t]) Q E s := by
  obtain ⟨fo, q, doc, pm, ct, oc, cvs, ctk, ho, hd, hrec⟩ := C.of
  refine wpAny_call (codeAny_call_def (fd := pcFd q [(S "text", l.ct), (S "gone", l.cg)] doc pm (.ref l.kd) ct) (body := dB pcSt) (binds := [(S "count", .int 1 t)]) R.room ho hd C.cx.nolimit ⟨l.kd, oc, cvs, ctk, rfl, hrec⟩ rfl (BindsTo.of_eq rfl) (by show ∀ x ∈ (dS pcSt).names, x.2 ≠ .cell; decide) (fun x hx => by rw [List.mem_singleton.mp hx]; rfl) (fun h₁ hns hk => ?_) rfl rfl rfl)
  generalize hL : s.heap.objs.size = L at hns
  generalize hE : callEnv (pcFd q [(S "text", l.ct), (S "gone", l.cg)] doc pm (.ref l.kd) ct) L l.f = env
  have eL : env.locals = L := by rw [← hE]; rfl
  have eC : env.cells = [(S "text", l.ct), (S "gone", l.cg)] := by rw [← hE]; rfl
  have eK : env.scope.kind = .function := by rw [← hE]; rfl
  have C₁ := C.to hk
  have V₁ := V.to hk
  have al := C.alloc V
  obtain ⟨g1, g2, gc⟩ := C.gn
  have T : Stt (lf w l env) [] [(S "count", .dat (.int 1))] h₁ := by
    refine Stt.lx (m := fun x => [((S "count"), Value.int 1 t)].reverse.lookup x) C.base C₁.kb (by rw [eL]; exact hns) (by rw [eL, ← hL]; exact C.size_le) (by rw [← hE]; exact ⟨rfl, rfl, rfl⟩) ?_ ?_ ?_ ?_
    · intro p hp
      rw [eC] at hp
      rcases List.mem_cons.mp hp with rfl | hp
      · exact C.lo l.ct l.m_ct
      · rw [List.mem_singleton.mp hp]; exact C.lo l.cg l.m_cg
    · intro n c e
      rw [eC] at e
      rcases List.mem_cons.mp (mem_of_lookup e) with q | q
      · cases q; obtain ⟨t, e⟩ := C₁.oct; exact ⟨_, e⟩
      · cases List.mem_singleton.mp q; exact ⟨_, C₁.ocg⟩
    · rw [eC]; simp; exact gc
    · intro p hp
      rw [List.mem_singleton.mp hp]
      exact ⟨.int 1 t, ⟨.inl ⟨by rw [← hE]; rfl, _, by rw [eL]; exact hns, rfl⟩⟩, .int _ _⟩
  have R₁ : Rm k (A.deeper env) (s.toks + 1) := (R.deeper env).up (Nat.le_succ _)
  have nameT : ∀ {A E Q} {s' : Shared} {pos : Pos}, LexC w l s'.heap → (∀ t, Q (.str l.text t) s') → wpAny (mo w) A (eval (.Name (S "text") pos) env) Q E s' := fun C' hq => by
    obtain ⟨t, e⟩ := C'.oct
    exact wpAny_Name (wpAny_loadName_free eK (by rw [← hE]; rfl) (by rw [eC]; rfl) e (hq t)) rfl
  have nameG : ∀ {A E Q} {s' : Shared} {pos : Pos}, LexC w l s'.heap → Q (.ref l.g) s' → wpAny (mo w) A (eval (.Name (S "gone") pos) env) Q E s' := fun C' hq =>
    wpAny_Name (wpAny_loadName_free eK (by rw [← hE]; rfl) (by rw [eC]; rfl) C'.ocg hq) rfl
  have lenG : ∀ {E : Value → Shared → Prop} {Q : Value → Shared → Prop} {s' : Shared} {p1 p2 p3 : Pos}, Stt (lf w l env) [] [(S "count", .dat (.int 1))] s'.heap → LexC w l s'.heap → LexV l p s'.heap → Rm k (A.deeper env) s'.toks →
      (∀ s'' t', To s' s'' → Q (.int (p : Int) t') s'') → wpAny (mo w) (A.deeper env) (eval (.Call (.Name (S "len") p1) [.Name (S "gone") p2] [] p3) env) Q E s' := fun {E Q s' p1 p2 p3} T' C' V' R' hq => by
    have hlen : Ev (lf w l env) k [] [(S "count", .dat (.int 1))] (.Name (S "len") p1) (.val (.builtin "len")) := Ev.blt (by show env.kindOf _ = _; rw [← hE]; rfl) rfl rfl (by decide) rfl
    refine wpAny_Call_NameR (hlen _ _ s' _ R' T' fun v s₁ t₁ r => ?_)
    obtain rfl : v = .builtin "len" := r
    refine Calls.callWith_builtin rfl (Calls.evalArgs_plain (Calls.spliced_cons (nameG (C'.to t₁.heap) (Calls.spliced_nil ?_))))
    obtain ⟨vs, n, e, hsz'⟩ := (V'.to t₁.heap).og
    refine Calls.call_len_list ⟨_, e, rfl, n, rfl⟩ (by show ((vs.size : Nat) : Int) < 2 ^ 63; rw [hsz']; exact p63 V'.le hsz) ?_
    rw [hsz']
    exact hq _ _ (t₁.trans (To.tok _ _))
  -- piece = text[len(gone):len(gone) + count]
  refine raw_cons (raw_assign (by rfl) (wpAny_with_toks (n := s.toks + 1) (Nat.le_refl _) (wpAny_Subscript_str_slice (nameT C₁ fun tt => ?_) (fun _ _ => rfl))))
  rw [evalPart_some]
  refine lenG T C₁ V₁ R₁ fun s₂ t₂ to₂ => ?_
  have T₂ := T.keeps to₂.heap
  have C₂ := C₁.to to₂.heap
  have V₂ := V₁.to to₂.heap
  rw [evalPart_some]
  refine wpAny_BinOp (lenG T₂ C₂ V₂ (R₁.to to₂) fun s₃ t₃ to₃ => ?_)
  have T₃ := T₂.keeps to₃.heap
  have C₃ := C₂.to to₃.heap
  have V₃ := V₂.to to₃.heap
  have hcount : Ev (lf w l env) k [] [(S "count", .dat (.int 1))] (.Name (S "count") ⟨154, 43, 154, 48⟩) (.dat (.int 1)) := Ev.name rfl rfl
  refine hcount _ _ s₃ _ ((R₁.to to₂).to to₃) T₃ fun v s₄ to₄ rv => ?_
  change Rd _ _ _ _ at rv
  cases rv with
  | int _ tc =>
  refine wpAny_add_int ?_
  refine ⟨l.text, tt, some ((p : Int), t₂), some ((p : Int) + 1, s₄.toks), rfl, rfl, rfl, post_val_or_str ?_⟩
  refine ⟨Nat.le_trans (Txt.slice_le l.text (some (p : Int)) (some ((p : Int) + 1))) (Nat.le_trans hsz (by decide)), fun t' k' => ?_⟩
  have T₄ := T₃.keeps to₄.heap
  have C₄ := C₃.to to₄.heap
  have V₄ := V₃.to to₄.heap
  have hsl : (if ((Option.map (fun x : Int × Tok => x.1) (none : Option (Int × Tok))).getD 1 == 1 && (slicePicked l.text (some ((p : Int), t₂)) (some ((p : Int) + 1, s₄.toks)) none).length == l.text.length) = true then l.text else (⟨((slicePicked l.text (some ((p : Int), t₂)) (some ((p : Int) + 1, s₄.toks)) none).filterMap (l.text.cps[·]?)).toArray⟩ : Str)) = chr l.text p := slice_chr l.text p V.le
  rw [hsl]
  intro hk'
  obtain ⟨s₅, hs₅⟩ : ∃ s₅ : Shared, ({ s₄ with heap := s₄.heap.push { cls := .type "slice", data := .fields #[partValue (some ((p : Int), t₂)), partValue (some ((p : Int) + 1, s₄.toks)), .none] }, toks := k' } : Shared) = s₅ := ⟨_, rfl⟩
  refine at_state hs₅ ?_
  have ex₅ : Kp s₄.heap s₅.heap := by rw [← hs₅]; exact Kp.push _ _
  have e₅ : Ex [] { s with heap := h₁, toks := s.toks + 1 } s₅ := by
    refine ⟨?_, fun b o _ e => ex₅ b o (to₄.heap b o (to₃.heap b o (to₂.heap b o e)))⟩
    obtain ⟨_, _, rfl, _, _⟩ := to₂
    obtain ⟨_, _, rfl, _, _⟩ := to₃
    obtain ⟨_, _, rfl, _, _⟩ := to₄
    exact ⟨_, _, hs₅.symm, hk'⟩
  have T₅ := T₄.keeps ex₅
  have C₅ := C₄.to ex₅
  have V₅ := V₄.to ex₅
  have R₅ : Rm k (A.deeper env) s₅.toks := R₁.up e₅.le
  have gnotL : l.g ≠ env.locals := by have := al l.g l.m_g; rw [eL]; exact Nat.ne_of_lt (hL ▸ this)
  have allL : env.locals ∉ l.all := fun q => by have := al _ q; rw [eL, hL] at this; exact Nat.lt_irrefl _ this
  refine Stt.store (X := lf w l env) (d := .dat (.str (chr l.text p))) T₅ (.inl (by show env.kindOf _ = _; rw [← hE]; rfl)) (.str _ _) fun s₆ T₆ m₆ => ?_
  have e₆ := m₆.ex (fun x hx => by rw [List.mem_singleton.mp hx, eC]; rfl)
  have hx₆ : ∀ b ∈ [env.locals], b ∉ l.all ∧ l.hb.objs.size ≤ b := fun b hb => by rw [List.mem_singleton.mp hb]; exact ⟨allL, T₅.above⟩
  have C₆ := C₅.keep e₆.2 fun b hb => ⟨.inr (.inr (hx₆ b hb).1), (hx₆ b hb).2⟩
  have V₆ := V₅.keep e₆.2 fun b hb => (hx₆ b hb).1
  -- gone.extend(piece)
  have hpiece : ∀ {pos : Pos}, Ev (lf w l env) k [] (Mine.put (S "piece") (.dat (.str (chr l.text p))) [(S "count", .dat (.int 1))]) (.Name (S "piece") pos) (.dat (.str (chr l.text p))) := fun {pos} => Ev.name rfl rfl
  have R₆ : Rm k (A.deeper env) s₆.toks := R₅.up e₆.le
  refine raw_cons (wpAny_Expr_any (wpAny_Call_method_lateS rfl rfl rfl (nameG C₆ ?_)) (by rw [← hE]; rfl) (by rfl))
  obtain ⟨vs, n, hgl, hvs⟩ := V₆.og
  refine ⟨"list", "list.extend", F.plainAttrs_list, F.slot_list_extend, F.type_list_extend, ⟨_, hgl, rfl⟩, fun a e => by cases e; exact ⟨_, hgl, rfl⟩, ?_⟩
  refine Calls.callWith_builtin rfl (Calls.evalArgs_plain (Calls.spliced_cons (hpiece _ _ s₆ _ R₆ T₆ fun v s₇ t₇ rv => Calls.spliced_nil ?_)))
  change Rd _ _ _ _ at rv
  cases rv with
  | str _ tp =>
  have hgl₇ : IsL s₇.heap l.g vs n := t₇.heap _ _ hgl
  refine ext_str R₆.handled (chr l.text p) tp hgl₇ (Nat.le_trans (chr_size_le _ _) (by decide)) (by rw [hvs]; exact Nat.le_trans V.le (Nat.le_trans hsz (by decide))) fun s₈ vs' n' e₈ hg₈ hvs₈ => ?_
  -- return piece
  obtain ⟨v, H, rv⟩ := (T₆.keeps t₇.heap).vars (S "piece", .dat (.str (chr l.text p))) List.mem_cons_self
  have hkp : env.kindOf (S "piece") = some .local := by rw [← hE]; rfl
  rcases H.how with ⟨_, m', hm', hv'⟩ | ⟨q, _⟩
  · have hm' : s₇.heap.Ns env.locals m' := hm'
    have hl₈ : s₈.heap.Ns env.locals m' := hm'.at' fun o e => e₈.2 _ o (fun q => gnotL (List.mem_singleton.mp q).symm) e
    refine wpAny_execs_cons (wpAny_Return_some (wpAny_Name (wpAny_loadName_local eK hkp hl₈ hv' ?_) rfl))
    change Rd _ _ _ _ at rv
    cases rv with
    | str _ tv =>
      refine h s₈ tv vs' n' ⟨?_, fun b o hb e => ?_⟩ hg₈ (by rw [hvs₈, hvs])
      · have e₇ : Ex [env.locals, l.g] { s with heap := h₁, toks := s.toks + 1 } s₈ := (((e₅.mono (fun _ q => nomatch q)).trans (e₆.mono fun b q => by rw [List.mem_singleton.mp q]; simp)).trans (Ex.ofTo t₇)).trans (e₈.mono fun b q => by rw [List.mem_singleton.mp q]; simp)
        obtain ⟨⟨h', tk, e, q⟩, _⟩ := e₇
        exact ⟨h', tk, e, Nat.le_trans (Nat.le_succ _) q⟩
      · have hbL : b ∉ [env.locals] := fun q => by
          have := Heap.lt_size e
          rw [List.mem_singleton.mp q, eL, hL] at this; exact Nat.lt_irrefl _ this
        exact e₈.2 b o hb (t₇.heap b o (e₆.2 b o hbL (e₅.2 b o (fun q => nomatch q) (hk b o e))))
  · have q : env.kindOf (S "piece") = some .cell := q
    rw [hkp] at q; cases q
end
end Mine
end
section
open PySem PySem.W PyProof.Rows PySem.Builtin PySem.Builtin.Str
namespace Mine
theorem kc_n1 (P : Params) : findIn (kC P) (.ref 73) "lineno" = some none := by kernel_rfl
theorem kc_n2 (P : Params) : findIn (kC P) (.ref 73) "instream" = some none := by kernel_rfl
theorem kc_n3 (P : Params) : findIn (kC P) (.ref 73) "whitespace" = some none := by kernel_rfl
theorem kc_n4 (P : Params) : findIn (kC P) (.ref 73) "pushback" = some none := by kernel_rfl
theorem kc_hasDict (P : Params) : hasDictIn (kC P) 73 = true := by kernel_rfl
/-- the lexer's dict, with this line -/
noncomputable def LexD (l : Lx) (ln : Int) (h : Heap) : Prop := ∃ h1 t1 h2 t2 h3 t3 h4 t4 tl tw n, h.get? l.dx = some (dictOf [⟨h1, .str "lineno" t1, .int ln tl⟩, ⟨h2, .str "instream" t2, .ref l.y⟩, ⟨h3, .str "whitespace" t3, .str wsS tw⟩, ⟨h4, .str "pushback" t4, .ref l.pb⟩] n)
theorem LexD.keep {l : Lx} {n : Int} {h h' : Heap} {ex : List Addr} (D : LexD l n h) (hk : ∀ b o, b ∉ ex → h.get? b = some o → h'.get? b = some o) (hx : l.dx ∉ ex) : LexD l n h' := by
  obtain ⟨h1, t1, h2, t2, h3, t3, h4, t4, tl, tw, n, e⟩ := D
  exact ⟨h1, t1, h2, t2, h3, t3, h4, t4, tl, tw, n, hk _ _ hx e⟩
theorem LexD.to {l : Lx} {n : Int} {h h' : Heap} (D : LexD l n h) (hk : Kp h h') : LexD l n h' := D.keep (ex := []) (fun b o _ e => hk b o e) (fun q => nomatch q)
theorem LexD.ex {l : Lx} {n : Int} {h : Heap} (D : LexD l n h) : ∃ od, h.get? l.dx = some od := by obtain ⟨h1, t1, h2, t2, h3, t3, h4, t4, tl, tw, n, e⟩ := D; exact ⟨_, e⟩
theorem LexC.inst {w : World} {l : Lx} {h : Heap} {od : Obj} (C : LexC w l h) (e : h.get? l.dx = some od) : InstAt h l.x (instObj 73 l.dx) 73 (some od) := ⟨C.ox, rfl, rfl, e⟩
section
variable {w : World} {A : Around} {E : Value → Shared → Prop} {s : Shared} {k : Nat}
theorem get_d {l : Lx} {n : Int} {nm : Str} {v : Value} {expr : Bool} {Q : Value → Shared → Prop} (C : LexC w l s.heap) {od : Obj} (e : s.heap.get? l.dx = some od) (hn : findIn (kC w.params) (.ref 73) nm = some none) (hl : lookIn nm od = some (some v)) (hh : handedIn v = true)
    (h : Q v { s with toks := s.toks + 1 }) : wpAny (mo w) A (getAttr (.ref l.x) nm expr) Q E s :=
  get_value C.cx.kc (C.inst e) (kc_ga _) (findObj_own (kc_hasDict _) hn rfl hl) hh h
theorem get_lineno {l : Lx} {n : Int} {expr : Bool} {Q : Value → Shared → Prop} (C : LexC w l s.heap) (D : LexD l n s.heap) (h : ∀ t, Q (.int n t) { s with toks := s.toks + 1 }) : wpAny (mo w) A (getAttr (.ref l.x) "lineno" expr) Q E s := by
  obtain ⟨h1, t1, h2, t2, h3, t3, h4, t4, tl, tw, m, e⟩ := D
  exact get_d (n := n) C e (kc_n1 _) rfl rfl (h tl)
theorem get_instream {l : Lx} {n : Int} {expr : Bool} {Q : Value → Shared → Prop} (C : LexC w l s.heap) (D : LexD l n s.heap) (h : Q (.ref l.y) { s with toks := s.toks + 1 }) : wpAny (mo w) A (getAttr (.ref l.x) "instream" expr) Q E s := by
  obtain ⟨h1, t1, h2, t2, h3, t3, h4, t4, tl, tw, m, e⟩ := D
  exact get_d (n := n) C e (kc_n2 _) rfl rfl h
theorem get_white {l : Lx} {n : Int} {expr : Bool} {Q : Value → Shared → Prop} (C : LexC w l s.heap) (D : LexD l n s.heap) (h : ∀ t, Q (.str wsS t) { s with toks := s.toks + 1 }) : wpAny (mo w) A (getAttr (.ref l.x) "whitespace" expr) Q E s := by
  obtain ⟨h1, t1, h2, t2, h3, t3, h4, t4, tl, tw, m, e⟩ := D
  exact get_d (n := n) C e (kc_n3 _) rfl rfl (h tw)
theorem get_back {l : Lx} {n : Int} {expr : Bool} {Q : Value → Shared → Prop} (C : LexC w l s.heap) (D : LexD l n s.heap) (h : Q (.ref l.pb) { s with toks := s.toks + 1 }) : wpAny (mo w) A (getAttr (.ref l.x) "pushback" expr) Q E s := by
  obtain ⟨h1, t1, h2, t2, h3, t3, h4, t4, tl, tw, m, e⟩ := D
  exact get_d (n := n) C e (kc_n4 _) rfl rfl h
theorem set_lineno {l : Lx} {n n' : Int} {t : Tok} {Q : Unit → Shared → Prop} (C : LexC w l s.heap) (D : LexD l n s.heap) (h : ∀ s', Ex [l.dx] s s' → LexD l n' s'.heap → Q () s') : wpAny (mo w) A (setAttr (.ref l.x) "lineno" (.int n' t)) Q E s := by
  obtain ⟨h1, t1, h2, t2, h3, t3, h4, t4, tl, tw, m, e⟩ := D
  have X := C.cx.kc
  have I := C.inst e
  refine set_plain X I (kc_sa _) ?_
  refine osa_open (s := { s with toks := s.toks + 1 }) X I (kc_plain _) (kc_t1 _) fun b => ?_
  obtain ⟨cd, hc, hd'⟩ := any_some (kc_dict w.params)
  have hx := C.ox
  refine wpAny_bind (wpAny_pure (wpAny_bind (wpAny_bind (wpAny_loadPart hx (wpAny_bind (looks_clsIn X hc _ _ _ _ (fun _ _ e => e) ?_))))))
  rw [hd']
  refine wpAny_pure (a := some l.dx) (wpAny_bind (wpAny_pure (wpAny_bind ?_)))
  unfold nsSet
  refine wpAny_bind (wpAny_bind (wpAny_askSetting (wpAny_pure (wpAny_bind (wpAny_mkText (wpAny_bind (wpAny_loadPart e ?_)))))))
  dsimp only
  rw [aRefKeyMayBeTheName_at, show (!([(⟨h1, .str "lineno" t1, .int n tl⟩ : DictEntry), ⟨h2, .str "instream" t2, .ref l.y⟩, ⟨h3, .str "whitespace" t3, .str wsS tw⟩, ⟨h4, .str "pushback" t4, .ref l.pb⟩].toArray.any (·.key.isStr "lineno")) && [(⟨h1, .str "lineno" t1, .int n tl⟩ : DictEntry), ⟨h2, .str "instream" t2, .ref l.y⟩, ⟨h3, .str "whitespace" t3, .str wsS tw⟩, ⟨h4, .str "pushback" t4, .ref l.pb⟩].toArray.any (·.refKey)) = false from by rw [List.any_toArray, List.any_toArray]; rfl]
  refine wpAny_updatePart e ?_
  have e' : (s.heap.update l.dx (Obj.putName "lineno" (PyData.keyHash w.params "lineno") (.str "lineno" (s.toks + 1)) (.int n' t))).get? l.dx = some (dictOf [⟨h1, .str "lineno" t1, .int n' t⟩, ⟨h2, .str "instream" t2, .ref l.y⟩, ⟨h3, .str "whitespace" t3, .str wsS tw⟩, ⟨h4, .str "pushback" t4, .ref l.pb⟩] m) := by
    rw [Heap.get?_update_self _ e (by rw [putName_dict]; rfl), putName_dict]
    rfl
  refine wpAny_bind (wpAny_lookBehind e' (by exact pastItsLine_dict (by rw [List.size_toArray, sizeLine_eq]; simp)) ?_)
  exact wpAny_pure (h _ ⟨⟨_, _, rfl, by show s.toks ≤ s.toks + 1 + 1; omega⟩, fun b o hb e2 => (Heap.get?_update_other _ _ (fun q : l.dx = b => hb (by rw [q]; simp))).trans e2⟩ ⟨h1, t1, h2, t2, h3, t3, h4, t4, t, tw, m, e'⟩)
end
end Mine
end
section
open PySem PySem.W PyProof.Rows PySem.Builtin PySem.Builtin.Str
namespace Mine
section
variable {w : World} {A : Around} {E : Value → Shared → Prop} {s : Shared} {k : Nat}
/-- entry into a method of the lexer's class -/
theorem enter_lx {l : Lx} {name qual : Str} {dV kV ct : Value} {an : Option Addr} {params : Arguments} {body : List Stmt} {scope : Scope} {pm doc : Value} {a c : Addr} {o oc : Obj} {cvs : Array Value} {ctk : Tok} {vs : List Value} {binds : List (Str × Value)} {Q : Value → Shared → Prop} (R : Rm (k + 1) A s.toks) (C : LexC w l s.heap)
    (ho : (a, o) ∈ kF w.params) (hn : a ≠ 185) (hdata : o.data = .func (fnX name qual params body scope [] dV kV doc pm an (.ref c) ct)) (hc : (c, oc) ∈ kF w.params) (hn' : c ≠ 185) (hcd : oc.data = .fields cvs) (hcn : cvs[1]? = some (.str qual ctk))
    (hbind : bindArgs (fnX name qual params body scope [] dV kV doc pm an (.ref c) ct) ⟨vs, []⟩ = pure binds) (hcell : ∀ x ∈ scope.names, x.2 ≠ .cell) (hloc : ∀ x ∈ binds, scope.names.lookup x.1 = some .local) (hnd : (binds.reverse.map (·.1)).Nodup)
    (hco : scope.isCoroutine = false) (hgen : scope.isGenerator = false) (hk : scope.kind = .function)
    (h : ∀ h₁ L, L = s.heap.objs.size → Kp s.heap h₁ → Stt (lf w l (callEnv (fnX name qual params body scope [] dV kV doc pm an (.ref c) ct) L a)) [] (binds.map fun p => (p.1, .val p.2)) h₁ →
      wpAny (mo w) (A.deeper (callEnv (fnX name qual params body scope [] dV kV doc pm an (.ref c) ct) L a)) (execs body (callEnv (fnX name qual params body scope [] dV kV doc pm an (.ref c) ct) L a)) (fun f s' => Q (match f with | .ret v => v | _ => .none) s') (fun _ _ => False) { s with heap := h₁, toks := s.toks + binds.length }) :
    codeAny (mo w) A (.call (.ref a) ⟨vs, []⟩) (fun r s' => match r with | .ok (.ret v) => Q v s' | .ok _ => False | .error e => E e s') s := by
  refine (codeAny_call_def (fd := fnX name qual params body scope [] dV kV doc pm an (.ref c) ct) (body := body) (binds := binds) R.room (C.cx.kin a o ho hn) hdata C.cx.nolimit ⟨c, oc, cvs, ctk, rfl, C.cx.kin c oc hc hn', hcd, hcn⟩ rfl (BindsTo.of_eq hbind) hcell hloc (fun h₁ hns hkp => ?_) hco hgen hk)
  refine wpAny_mono (h h₁ _ rfl hkp ?_) (fun _ _ x => x) (fun _ _ x => x.elim)
  refine Stt.lx C.base (C.to hkp).kb hns C.size_le ⟨rfl, rfl, hk⟩ (fun _ h => nomatch h) (fun _ _ h => nomatch h) .nil fun p hp => ?_
  obtain ⟨q, hq, rfl⟩ := List.mem_map.mp hp
  refine ⟨q.2, ⟨.inl ⟨hloc q hq, _, hns, ?_⟩⟩, rfl⟩
  have : ∀ (l : List (Str × Value)), (l.map (·.1)).Nodup → q ∈ l → l.lookup q.1 = some q.2 := by
    intro l; induction l with
    | nil => intro _ h; cases h
    | cons a r ih =>
      intro hn hm
      obtain ⟨h1, h2⟩ := List.nodup_cons.mp hn
      rw [List.lookup_cons]
      rcases List.mem_cons.mp hm with rfl | hm
      · simp
      · have : (q.1 == a.1) = false := by
          rw [beq_eq_false_iff_ne]; intro e; exact h1 (List.mem_map.mpr ⟨q, hm, e⟩)
        rw [this]; exact ih h2 hm
  exact this binds.reverse hnd (List.mem_reverse.mpr hq)
theorem lnOf_chr (x : Str) (p : Nat) : lnOf x (p + (chr x p).cps.size) = lnOf x p + (if chr x p == S "\n" then 1 else 0) := by
  unfold lnOf
  have e1 : x.cps.toList.take (p + (chr x p).cps.size) = x.cps.toList.take p ++ (x.cps.toList.drop p).take 1 := by
    unfold chr
    simp only [List.size_toArray]
    rw [List.take_add]
    congr 1
    generalize x.cps.toList.drop p = d
    cases d <;> simp
  rw [e1, List.count_append]
  have e2 : (chr x p == S "\n") = ((x.cps.toList.drop p).take 1 == [10]) := by
    have hS : (S "\n") = ⟨#[10]⟩ := by decide +kernel
    rw [hS]
    cases hq : (x.cps.toList.drop p).take 1 == [10] with
    | true => rw [beq_iff_eq] at hq; unfold chr; rw [hq]; decide +kernel
    | false =>
      rw [beq_eq_false_iff_ne] at hq ⊢
      intro e
      apply hq
      unfold chr at e
      injection e with e
      have := congrArg Array.toList e
      simpa using this
  rw [e2]
  have hl : ((x.cps.toList.drop p).take 1).length ≤ 1 := by rw [List.length_take]; omega
  generalize (x.cps.toList.drop p).take 1 = d at hl
  match d, hl with
  | [], _ => simp
  | [c], _ =>
    by_cases hc : c = 10
    · subst hc; simp; omega
    · simp [hc]
  | _ :: _ :: _, h => simp at h
end
end Mine
end
section
open PySem PySem.W PyProof.Rows PySem.Builtin PySem.Builtin.Str
namespace Mine
section
variable {w : World} {A : Around} {E : Value → Shared → Prop} {s : Shared} {k : Nat}
theorem ev_lx {l : Lx} {env : Env} {W : Own} {ρ : Vars} {e : Expr} {d : D} {Q : Value → Shared → Prop} (R : Rm k A s.toks) (T : Stt (lf w l env) W ρ s.heap) (he : Ev (lf w l env) k W ρ e d) (h : ∀ v s', To s s' → d.ok ((lf w l env).N W) s'.heap v → Q v s') :
    wpAny (mo w) A (eval e env) Q E s := he A E s Q R T h
theorem tst_lx {l : Lx} {env : Env} {W : Own} {ρ : Vars} {e : Expr} {d : Bool} {Q : Bool → Shared → Prop} (R : Rm k A s.toks) (T : Stt (lf w l env) W ρ s.heap) (he : Tst (lf w l env) k W ρ e d) (h : ∀ s', To s s' → Q d s') :
    wpAny (mo w) A (isTrue e env (eval e env)) Q E s := he A E s Q R T h
theorem val_lx {l : Lx} {env : Env} {W : Own} {ρ : Vars} {x : Str} {pos : Pos} {v : Value} {Q : Value → Shared → Prop} (R : Rm k A s.toks) (T : Stt (lf w l env) W ρ s.heap) (hx : ρ.lookup x = some (.val v)) (hd : (x == ("__debug__" : Str)) = false)
    (h : ∀ s', To s s' → Q v s') : wpAny (mo w) A (eval (.Name x pos) env) Q E s :=
  ev_lx R T (Ev.name (pos := pos) hx hd) fun u s' t r => by
    obtain rfl : u = v := r
    exact h s' t
theorem store_lx {l : Lx} {env : Env} {W : Own} {ρ : Vars} {x : Str} {v : Value} {d : D} {Q : Unit → Shared → Prop} (T : Stt (lf w l env) W ρ s.heap) (hk : Kn env x)
    (r : d.ok ((lf w l env).N W) s.heap v) (h : ∀ s', Stt (lf w l env) W (put x d ρ) s'.heap → Sv (lf w l env) [x] s s' → Q () s') : wpAny (mo w) A (storeName env x v) Q E s := Stt.store (X := lf w l env) T hk r h
noncomputable def flatD : D → Bool
  | .val _ => true
  | .dat (.str _) => true
  | .dat (.int _) => true
  | .dat (.bool _) => true
  | .dat .none => true
  | _ => false
theorem flat_ok {N : Addr → Prop} {h h' : Heap} {v : Value} : ∀ {d : D}, flatD d = true → d.ok N h v → d.ok N h' v
  | .val _, _, r => r
  | .dat d, hf, r => by
    change Rd _ _ _ _ at r
    cases r with
    | none => exact Rd.none
    | bool b => exact Rd.bool b
    | int i t => exact Rd.int i t
    | str x t => exact Rd.str x t
    | list _ _ _ => cases hf
    | tuple _ _ _ => cases hf
theorem Stt.exl {l : Lx} {env : Env} {ρ : Vars} {h h' : Heap} {ex : List Addr} (T : Stt (lf w l env) [] ρ h) (hc : env.cells = []) (hf : (ρ.all fun p => flatD p.2) = true) (hk : ∀ b o, b ∉ ex → h.get? b = some o → h'.get? b = some o) (hx : ∀ b ∈ ex, l.hb.objs.size ≤ b ∧ b ≠ env.locals) : Stt (lf w l env) [] ρ h' := by
  have nl : env.locals ∉ ex := fun q => (hx _ q).2 rfl
  obtain ⟨m, hm⟩ := T.loc
  have hm : h.Ns env.locals m := hm
  refine ⟨T.cx, fun _ f => f.elim, fun b o e => hk b o (fun q => ?_) (T.keep b o e), T.en, ⟨m, hm.at' fun o e => hk _ o nl e⟩, T.above, T.cab, fun n c e => ?_, T.apart, (fun _ h => nomatch h), fun p hp => ?_⟩
  · have := Heap.lt_size e; have h2 := (hx b q).1; exact Nat.lt_irrefl _ (Nat.lt_of_lt_of_le this h2)
  · have e : env.cells.lookup n = some c := e
    rw [hc] at e; cases e
  · obtain ⟨v, H, r⟩ := T.vars p hp
    refine ⟨v, ⟨?_⟩, flat_ok (List.all_eq_true.mp hf p hp) r⟩
    rcases H.how with ⟨a, m', b, c⟩ | ⟨a, c, b, _⟩
    · exact .inl ⟨a, m', b.at' fun o e => hk _ o nl e, c⟩
    · have b : env.cells.lookup p.1 = some c := b
      rw [hc] at b; cases b
noncomputable abbrev envChar (L : Addr) : Env := callEnv (fnX (dN (sc 6 1)) (S "_netrclex._read_char") (dA (sc 6 1)) (dB (sc 6 1)) (dS (sc 6 1)) [] .none .none .none (.str (S "cpy313.netrc") 215) none (.ref 55) .none) L 56
theorem chr_le {x : Str} {p : Nat} (h : p ≤ x.cps.size) : p + (chr x p).cps.size ≤ x.cps.size := by
  have : (chr x p).cps.size = min 1 (x.cps.size - p) := by simp [chr]
  omega
theorem char_code {l : Lx} {p : Nat} {Q : Value → Shared → Prop} (R : Rm (k + 2) A s.toks) (C : LexC w l s.heap) (V : LexV l p s.heap) (hsz : l.text.cps.size ≤ 100000)
    (h : ∀ s' tv, Ex [l.dx, l.g] s s' → LexC w l s'.heap → LexV l (p + (chr l.text p).cps.size) s'.heap → Q (.str (chr l.text p) tv) s') : codeAny (mo w) A (.call (.ref 56) ⟨[.ref l.x], []⟩) (fun r s' => match r with | .ok (.ret v) => Q v s' | .ok _ => False | .error e => E e s') s := by
  refine enter_lx (k := k + 1) (binds := [(S "self", .ref l.x)]) R C (kF_at 8 rfl) (by decide) rfl (kF_at 7 rfl) (by decide) rfl rfl rfl (by decide) (fun x hx => by rw [List.mem_singleton.mp hx]; rfl) (by show [S "self"].Nodup; decide) rfl rfl rfl fun h₁ L hL hk T => ?_
  have al := C.alloc V
  have C₁ := C.to hk
  have V₁ := V.to hk
  have D₁ : LexD l (lnOf l.text p) h₁ := V₁.od
  have R₁ := fun env => (R.deeper env).up (Nat.le_succ s.toks)
  have dxg := C.dxg
  -- ch = self.instream.read(1)
  refine raw_cons (raw_assign (by rfl) (methodCall_KW (h := ?_) (he := by rfl)))
  refine Attribute_name (val_lx (R₁ _) T rfl rfl fun s₂ t₂ => ?_)
  have T₂ := T.keeps t₂.heap
  have C₂ := C₁.to t₂.heap
  have V₂ := V₁.to t₂.heap
  refine get_instream C₂ (D₁.to t₂.heap) ?_
  obtain ⟨es, n, ody, hread⟩ := C₂.ody
  have Iy : InstAt s₂.heap l.y (instObj 73 l.dy) 73 (some (dictOf es n)) := ⟨C₂.oy, rfl, rfl, ody⟩
  refine method_usual (s := { s₂ with toks := s₂.toks + 1 }) C₂.cx.kc Iy (kc_ga _) (kc_hook _) (kc_read _) rfl ?_
  refine get_value (s := { s₂ with toks := s₂.toks + 1 }) C₂.cx.kc Iy (kc_ga _) (findObj_own (kc_hasDict _) (kc_read _) rfl hread) rfl ?_
  obtain ⟨fo, q, doc, pm, ct, oc, cvs, ctk, hof, hfd, hoc⟩ := C₂.of
  refine Calls.callWith_function (o := fo) (fd := pcFd q [(S "text", l.ct), (S "gone", l.cg)] doc pm (.ref l.kd) ct) (Calls.evalArgs_plain (Calls.spliced_cons (wpAny_Constant_int (k := 0) (pos := ⟨30, 32, 30, 33⟩) (Calls.spliced_nil ⟨⟨hof, hfd⟩, ?_⟩))))
  have R₂ := fun env => (R₁ env).to t₂
  refine piece_call (k := k) (l := l) (p := p) (Rm.up (R₂ _) (Nat.le_succ_of_le (Nat.le_succ_of_le (Nat.le_succ _)))) C₂ V₂ hsz fun s₃ tv vs n' e₃ hg₃ hvs₃ => ?_
  have e₃' : Ex [l.g] s₂ s₃ := by
    obtain ⟨⟨hh, tk, e, q⟩, kk⟩ := e₃
    exact ⟨⟨hh, tk, e, Nat.le_trans (Nat.le_succ_of_le (Nat.le_succ_of_le (Nat.le_succ _))) q⟩, kk⟩
  have hxg : ∀ b ∈ [l.g], (b = l.dx ∨ b = l.g ∨ b ∉ l.all) ∧ l.hb.objs.size ≤ b := fun b hb => by rw [List.mem_singleton.mp hb]; exact ⟨.inr (.inl rfl), C.lo _ (by simp [Lx.all])⟩
  have C₃ := C₂.keep e₃'.2 hxg
  have D₃ : LexD l (lnOf l.text p) s₃.heap := (D₁.to t₂.heap).keep e₃'.2 (fun q => dxg (List.mem_singleton.mp q))
  have eL : ∀ fd : FuncData, (callEnv fd L 56).locals = L := fun _ => rfl
  have alL : L ∉ l.all := fun q => by have := al _ q; rw [hL] at this; exact Nat.lt_irrefl _ this
  have hLg : L ≠ l.g := fun q => alL (by rw [q]; simp [Lx.all])
  have T₃ := T₂.exl rfl rfl e₃'.2 fun b hb => by rw [List.mem_singleton.mp hb]; exact ⟨C.lo _ (by simp [Lx.all]), Ne.symm hLg⟩
  refine store_lx (d := .dat (.str (chr l.text p))) T₃ (.inl rfl) (.str _ _) fun s₄ T₄ m₄ => ?_
  have e₄ : Ex [L] s₃ s₄ := m₄.ex fun x hx => rfl
  have hxL : ∀ b ∈ [L], b ∉ l.all ∧ l.hb.objs.size ≤ b := fun b hb => by rw [List.mem_singleton.mp hb]; exact ⟨alL, hL ▸ C.size_le⟩
  have C₄ := C₃.keep e₄.2 fun b hb => ⟨.inr (.inr (hxL b hb).1), (hxL b hb).2⟩
  have D₄ : LexD l (lnOf l.text p) s₄.heap := D₃.keep e₄.2 fun q => alL (by rw [← List.mem_singleton.mp q]; simp [Lx.all])
  have hg₄ : IsL s₄.heap l.g vs n' := e₄.2 _ _ (fun q => hLg (List.mem_singleton.mp q).symm) hg₃
  have R₄ := fun env => ((R₂ env).up e₃'.le).up e₄.le
  -- if ch == newline: self.lineno += 1
  refine raw_cons (wpAny_mono (Q := fun f s₆ => f = .next ∧ Stt (lf w l (envChar L)) [] (Mine.put (S "ch") (.dat (.str (chr l.text p))) [(S "self", .val (.ref l.x))]) s₆.heap ∧ Ex [l.dx] s₄ s₆ ∧ LexD l (lnOf l.text (p + (chr l.text p).cps.size)) s₆.heap) ?_ ?_ (fun _ _ x => x))
  · refine wpAny_If (tst_lx (R₄ _) T₄ (Tst.cmpD (Ev.name rfl rfl) Ev.str (Cmp.eqS _ _) rfl) fun s₅ t₅ => ?_)
    have T₅ := T₄.keeps t₅.heap
    have C₅ := C₄.to t₅.heap
    have D₅ := D₄.to t₅.heap
    have R₅ := fun env => (R₄ env).to t₅
    rw [lnOf_chr]
    cases hb : (chr l.text p == S "\n") with
    | false =>
      rw [if_neg Bool.false_ne_true]
      refine wpAny_execs_nil ⟨rfl, T₅, Ex.ofTo t₅, ?_⟩
      simpa using D₅
    | true =>
      rw [if_pos rfl]
      refine raw_cons (wpAny_AugAssign_AttributeAny (val_lx (R₅ _) T₅ rfl rfl fun s₆ t₆ => ?_))
      have C₆ := C₅.to t₆.heap
      have D₆ := D₅.to t₆.heap
      refine get_lineno C₆ D₆ fun tl => ?_
      refine wpAny_Constant_int (k := 0) (pos := ⟨32, 27, 32, 28⟩) ?_
      refine wpAny_iadd_int ?_
      refine set_lineno (n := lnOf l.text p) (n' := lnOf l.text p + 1) C₆ D₆ fun s₇ e₇ D₇ => ?_
      have e₇' : Ex [l.dx] s₆ s₇ := by
        obtain ⟨⟨hh, tk, e, q⟩, kk⟩ := e₇
        exact ⟨⟨hh, tk, e, Nat.le_trans (Nat.le_succ_of_le (Nat.le_succ_of_le (Nat.le_succ _))) q⟩, kk⟩
      refine wpAny_execs_nil ⟨rfl, ?_, ((Ex.ofTo t₅).trans (Ex.ofTo t₆)).trans e₇', by simpa using D₇⟩
      exact (T₅.keeps t₆.heap).exl rfl rfl e₇'.2 fun b hb => by rw [List.mem_singleton.mp hb]; exact ⟨C.lo _ (by simp [Lx.all]), fun q => alL (by have q' : l.dx = L := q; rw [← q']; simp [Lx.all])⟩
  rintro f s₆ ⟨rfl, T₆, e₆, D₆⟩
  have hxd : ∀ b ∈ [l.dx], (b = l.dx ∨ b = l.g ∨ b ∉ l.all) ∧ l.hb.objs.size ≤ b := fun b hb => by rw [List.mem_singleton.mp hb]; exact ⟨.inl rfl, C.lo _ (by simp [Lx.all])⟩
  have C₆ := C₄.keep e₆.2 hxd
  have hg₆ : IsL s₆.heap l.g vs n' := e₆.2 _ _ (fun q => dxg (List.mem_singleton.mp q).symm) hg₄
  refine wpAny_execs_cons (wpAny_Return_some (ev_lx ((R₄ _).up e₆.le) T₆ (Ev.name rfl rfl) fun v s₇ t₇ rv => ?_))
  change Rd _ _ _ _ at rv
  cases rv with
  | str _ tv =>
    refine h s₇ tv ⟨?_, fun b o hb e => ?_⟩ (C₆.to t₇.heap) ⟨?_, D₆.to t₇.heap, vs, n', t₇.heap _ _ hg₆, hvs₃⟩
    · have ee : Ex [l.dx, l.g, L] { s with heap := h₁, toks := s.toks + 1 } s₇ := ((((Ex.ofTo t₂).trans (e₃'.mono fun b q => by rw [List.mem_singleton.mp q]; simp)).trans (e₄.mono fun b q => by rw [List.mem_singleton.mp q]; simp)).trans (e₆.mono fun b q => by rw [List.mem_singleton.mp q]; simp)).trans (Ex.ofTo t₇)
      obtain ⟨⟨h', tk, e, q⟩, _⟩ := ee
      exact ⟨h', tk, e, Nat.le_trans (Nat.le_succ _) q⟩
    · have hb' : b ≠ l.dx ∧ b ≠ l.g := by simpa using hb
      have hbL : b ≠ L := fun q => by have := Heap.lt_size e; rw [q, hL] at this; exact Nat.lt_irrefl _ this
      exact t₇.heap b o (e₆.2 b o (fun q => hb'.1 (List.mem_singleton.mp q)) (e₄.2 b o (fun q => hbL (List.mem_singleton.mp q)) (e₃'.2 b o (fun q => hb'.2 (List.mem_singleton.mp q)) (t₂.heap b o (hk b o e)))))
    · exact chr_le V.le
theorem char_call {l : Lx} {p : Nat} {Q : Value → Shared → Prop} (R : Rm (k + 2) A s.toks) (C : LexC w l s.heap) (V : LexV l p s.heap) (hsz : l.text.cps.size ≤ 100000)
    (h : ∀ s' tv, Ex [l.dx, l.g] s s' → LexC w l s'.heap → LexV l (p + (chr l.text p).cps.size) s'.heap → Q (.str (chr l.text p) tv) s') : wpAny (mo w) A (call (.ref 56) [.ref l.x]) Q E s := wpAny_call (char_code R C V hsz h)
end
end Mine
end
section
open PySem PySem.W PyProof.Rows PySem.Builtin PySem.Builtin.Str
namespace Mine
theorem owner_ci : Manifest.owners.lookup (String.ofList ['r', 'o', 't', 'a', 'r', 'e', 't', 'i', '_', 'e', 'l', 'b', 'a', 'l', 'l', 'a', 'c'].reverse) = some Manifest.sig_callable_iterator := by kernel_rfl
theorem slot_ci_next : Slot "callable_iterator" "__next__" "callable_iterator.__next__" :=
  .of (owner := "callable_iterator") (n := "__next__") (by rw [typeLookup_type, builtinLookup_eq_fast]; kernel_rfl) (by decide +kernel) (by decide +kernel) (by decide +kernel)
    (by first | exact .inl (by decide +kernel) | exact .inr (by decide +kernel)) (by rw [isSubtype_type]; kernel_rfl)
theorem entry_ci_next : entryFor table "callable_iterator.__next__" = some Builtin.«callable_iterator.__next__» := entryFor_of_tree (by kernel_rfl)
theorem args_ci_next (a : Value) : argsOk "callable_iterator.__next__" ⟨[a], []⟩ := by
  unfold argsOk; rw [signature?_of (id := "callable_iterator.__next__") (n := ['_', '_', 't', 'x', 'e', 'n', '_', '_']) (o := ['r', 'o', 't', 'a', 'r', 'e', 't', 'i', '_', 'e', 'l', 'b', 'a', 'l', 'l', 'a', 'c']) (by kernel_rfl) owner_ci]; kernel_rfl
theorem slot_ci_iter : Slot "callable_iterator" "__iter__" "callable_iterator.__iter__" :=
  .of (owner := "callable_iterator") (n := "__iter__") (by rw [typeLookup_type, builtinLookup_eq_fast]; kernel_rfl) (by decide +kernel) (by decide +kernel) (by decide +kernel)
    (by first | exact .inl (by decide +kernel) | exact .inr (by decide +kernel)) (by rw [isSubtype_type]; kernel_rfl)
theorem args_ci_iter (a : Value) : argsOk "callable_iterator.__iter__" ⟨[a], []⟩ := by
  unfold argsOk; rw [signature?_of (id := "callable_iterator.__iter__") (n := ['_', '_', 'r', 'e', 't', 'i', '_', '_']) (o := ['r', 'o', 't', 'a', 'r', 'e', 't', 'i', '_', 'e', 'l', 'b', 'a', 'l', 'l', 'a', 'c']) (by kernel_rfl) owner_ci]; kernel_rfl
theorem entry_ci_iter : entryFor table "callable_iterator.__iter__" = some Builtin.«dict_keyiterator.__iter__» :=
  entryFor_alias (id' := "dict_keyiterator.__iter__") (by kernel_rfl) (by first | rfl | decide +kernel | (unfold String.splitOn; simp +decide [String.splitOnAux])) (by decide +kernel) (by kernel_rfl)
theorem kind_iter : builtinKind "iter" = none := by decide +kernel
theorem plain_iter : plainId "iter" = true := by decide +kernel
theorem entry_iter : entryFor table "iter" = some Builtin.«iter» := entryFor_of_tree (by kernel_rfl)
theorem args_iter2 (a b : Value) : argsOk "iter" ⟨[a, b], []⟩ := by unfold argsOk; kernel_rfl
theorem lookup_method_call : typeLookup (.type "method") "__call__" = pure (some (.builtin "method.__call__")) := by rw [typeLookup_type, builtinLookup_eq_fast]; kernel_rfl
/-- the iterator over the signs: still going -/
noncomputable abbrev ciObj (q : Addr) : Obj := { cls := .type "callable_iterator", data := .fields #[.ref q, .str (S "") 0, .bool false] }
section
variable {w : World} {A : Around} {E : Value → Shared → Prop} {s : Shared} {k : Nat}
theorem call_iter2 {q : Addr} {t : Tok} {f x : Value} {Q : Value → Shared → Prop} (hq : s.heap.get? q = some (methodObj f x)) (h : Q (.ref s.heap.objs.size) { s with heap := s.heap.push { cls := .type "callable_iterator", data := .fields #[.ref q, .str (S "") t, .bool false] } }) :
    wpAny (mo w) A (call (.builtin "iter") [.ref q, .str (S "") t]) Q E s := by
  refine Calls.call_function_entry kind_iter plain_iter entry_iter (args_iter2 _ _) ?_
  unfold Builtin.«iter»
  refine wpAny_bind (wpAny_of_eq (a := [.ref q, .str (S "") t]) rfl ?_)
  dsimp only
  refine wpAny_bind (wpAny_specialOf (T := "method") (v := .ref q) ⟨_, hq, rfl⟩ lookup_method_call ?_)
  rw [if_neg (by decide)]
  refine wpAny_bind (wpAny_rule ?_)
  refine wpAny_bind (m := newFields "callable_iterator" [.ref q, .str (S "") t, .bool false]) ?_
  unfold newFields
  exact wpAny_newObj_type (wpAny_pure ⟨_, rfl, h⟩) (by size_fits)
theorem pyIter_ci {I : Addr} {o : Obj} {Q : Value → Shared → Prop} (ho : s.heap.get? I = some o) (hc : o.cls = .type "callable_iterator") (h : Q (.ref I) s) : wpAny (mo w) A (pyIter (.ref I)) Q E s := by
  have hT : s.TypeIs (.ref I) "callable_iterator" := ⟨o, ho, hc⟩
  refine wpAny_pyIter_slot hT slot_ci_iter (wpAny_call_entry slot_ci_iter hT entry_ci_iter ?_ (args_ci_iter _))
  show wpAny _ _ (ret (.ref I)) _ _ s
  exact wpAny_pure ⟨_, rfl, "callable_iterator", _, hT, slot_ci_next.lookup, h⟩
theorem call_borrowed {f : Value} {pos : List Value} {Q : Value → Shared → Prop} (hc : codeAny (mo w) A (.call f ⟨pos, []⟩) (fun r s' => match r with | .ok (.ret v) => Q v s' | .ok _ => False | .error e => E e s') s) : wpAny (mo w) A (callBorrowed f pos) Q E s := fun Γ p hΓ => by
  unfold callBorrowed
  rw [Sem.wp_call]
  refine wpCode_mono (fun r s' hr => ?_) (hc _ p rfl (hΓ.enter _ none p (by intro x; cases x)))
  rcases r with e | f
  · exact hr
  · cases f <;> first | exact hr | exact hr.elim
theorem borrows_method {q : Addr} {f : Addr} {fo : Obj} {fd : FuncData} {x : Value} {Q : Bool → Shared → Prop} (hq : s.heap.get? q = some (methodObj (.ref f) x)) (hf : s.heap.get? f = some fo) (hfd : fo.data = .func fd) (h : Q true s) :
    wpAny (mo w) A (borrowsExactly (.ref q)) Q E s := by
  unfold borrowsExactly
  refine wpAny_bind (wpAny_load hq ?_)
  dsimp only
  rw [if_pos (by decide)]
  refine wpAny_bind (wpAny_load hf ?_)
  rw [hfd]
  exact wpAny_pure h
end
end Mine
end
section
open PySem PySem.W PyProof.Rows PySem.Builtin PySem.Builtin.Str
namespace Mine
/-- the iterator over the lexer's signs -/
structure Fi (l : Lx) (I q : Addr) (h : Heap) : Prop where
  it : ∃ t, h.get? I = some { cls := .type "callable_iterator", data := .fields #[.ref q, .str (S "") t, .bool false] }
  me : h.get? q = some (methodObj (.ref 56) (.ref l.x))
  off : I ∉ l.all ∧ q ∉ l.all ∧ l.hb.objs.size ≤ I ∧ l.hb.objs.size ≤ q
theorem Fi.keep {l : Lx} {I q : Addr} {h h' : Heap} {ex : List Addr} (F : Fi l I q h) (hk : ∀ b o, b ∉ ex → h.get? b = some o → h'.get? b = some o) (h1 : I ∉ ex) (h2 : q ∉ ex) : Fi l I q h' := by
  obtain ⟨⟨t, a⟩, b, c⟩ := F; exact ⟨⟨t, hk _ _ h1 a⟩, hk _ _ h2 b, c⟩
theorem chr_empty (x : Str) (p : Nat) (hp : p ≤ x.cps.size) : (S "" == chr x p) = decide (p = x.cps.size) := by
  have hS : S "" = ⟨#[]⟩ := by decide +kernel
  rw [hS]
  unfold chr
  by_cases h : p = x.cps.size
  · rw [decide_eq_true h, List.drop_of_length_le (by rw [Array.length_toList]; omega)]; rfl
  · rw [decide_eq_false h, beq_eq_false_iff_ne]
    intro e
    injection e with e
    have := congrArg Array.toList e
    have hl := congrArg List.length this
    simp only [List.length_nil, List.length_take, List.length_drop, Array.length_toList] at hl
    omega
section
variable {w : World} {A : Around} {E : Value → Shared → Prop} {s : Shared} {k : Nat}
theorem next_ci {l : Lx} {p : Nat} {I q : Addr} {Q : Option Value → Shared → Prop} (R : Rm (k + 3) A s.toks) (C : LexC w l s.heap) (V : LexV l p s.heap) (F : Fi l I q s.heap) (hsz : l.text.cps.size ≤ 100000)
    (hi : p < l.text.cps.size → ∀ s' tv, Ex [l.dx, l.g] s s' → LexC w l s'.heap → LexV l (p + (chr l.text p).cps.size) s'.heap → Q (some (.str (chr l.text p) tv)) s')
    (he : p = l.text.cps.size → ∀ s', Ex [l.dx, l.g, I] s s' → LexC w l s'.heap → LexV l p s'.heap → Q none s') : wpAny (mo w) A (pyNext (.ref I)) Q E s := by
  obtain ⟨⟨t, hI⟩, hq, o1, o2, o3, o4⟩ := F
  have hT : s.TypeIs (.ref I) "callable_iterator" := ⟨_, hI, rfl⟩
  have hf := C.cx.kin 56 _ (kF_at 8 rfl) (by decide)
  have nd : ∀ {b : Addr}, b ∉ l.all → b ∉ [l.dx, l.g] := fun h m => by
    rcases List.mem_cons.mp m with e | m
    · exact h (by rw [e]; simp [Lx.all])
    · exact h (by rw [List.mem_singleton.mp m]; simp [Lx.all])
  unfold pyNext
  refine wpAny_bind (wpAny_attempt (wpAny_callSpecial?_slot (name := Str.ofString "__next__") hT slot_ci_next (wpAny_call_entry slot_ci_next hT entry_ci_next ?_ (args_ci_next _))))
  unfold Builtin.«callable_iterator.__next__»
  refine wpAny_bind (wpAny_of_eq (a := (Value.ref I, [])) rfl ?_)
  dsimp only
  refine wpAny_bind (wpAny_field hI rfl (x := .bool false) rfl ?_)
  rw [if_neg (by decide)]
  refine wpAny_bind (wpAny_field hI rfl (x := .ref q) rfl ?_)
  refine wpAny_bind (wpAny_attempt ?_)
  unfold callOutOfASlot
  refine wpAny_bind (borrows_method hq hf rfl ?_)
  rw [if_pos rfl]
  refine call_borrowed (method_call hq (char_code R.in1 C V hsz fun s₁ tv e₁ C₁ V₁ => ?_))
  have hI₁ := e₁.2 _ _ (nd o1) hI
  have hq₁ := e₁.2 _ _ (nd o2) hq
  dsimp only
  refine wpAny_bind (wpAny_field hI₁ rfl (x := .bool false) rfl ?_)
  rw [if_neg (by decide)]
  refine wpAny_bind (wpAny_field hI₁ rfl (x := .str (S "") t) rfl ?_)
  refine wpAny_bind (wpAny_holding (eqBool_str ?_))
  rw [chr_empty _ _ V.le]
  by_cases hp : p = l.text.cps.size
  · rw [decide_eq_true hp]
    rw [if_neg (by decide)]
    refine wpAny_bind (wpAny_rule ?_)
    refine wpAny_bind ?_
    wp_delta
    refine wpAny_bind (wpAny_field hI₁ rfl (x := .ref q) rfl ?_)
    refine wpAny_bind (m := slotLetsGo _ _ _) ?_
    unfold slotLetsGo
    refine wpAny_bind (borrows_method hq₁ (C₁.cx.kin 56 _ (kF_at 8 rfl) (by decide)) rfl ?_)
    rw [if_pos rfl]
    refine wpAny_pure ?_
    refine wpAny_bind (wpAny_setField hI₁ rfl (by simp) ?_)
    have a1 : (s₁.heap.update I (Obj.mapFields (·.setIfInBounds 0 .none))).get? I = some { cls := .type "callable_iterator", data := .fields #[.none, .str (S "") t, .bool false] } := Heap.get?_update_self _ hI₁ rfl
    refine wpAny_bind (wpAny_setField a1 rfl (by simp) ?_)
    have a2 : ((s₁.heap.update I (Obj.mapFields (·.setIfInBounds 0 .none))).update I (Obj.mapFields (·.setIfInBounds 1 .none))).get? I = some { cls := .type "callable_iterator", data := .fields #[.none, .none, .bool false] } := Heap.get?_update_self _ a1 rfl
    refine wpAny_setField a2 rfl (by simp) ?_
    have e₂ : Ex [I] s₁ { s₁ with heap := ((s₁.heap.update I (Obj.mapFields (·.setIfInBounds 0 .none))).update I (Obj.mapFields (·.setIfInBounds 1 .none))).update I (Obj.mapFields (·.setIfInBounds 2 (.bool true))) } := by
      refine ⟨⟨_, s₁.toks, rfl, Nat.le_refl _⟩, fun b o hb e => ?_⟩
      have hne : I ≠ b := fun q => hb (by rw [q]; simp)
      show (((s₁.heap.update I _).update I _).update I _).get? b = some o
      rw [Heap.get?_update_other _ _ hne, Heap.get?_update_other _ _ hne, Heap.get?_update_other _ _ hne]
      exact e
    obtain ⟨s₂, hs₂⟩ : ∃ s₂ : Shared, ({ s₁ with heap := ((s₁.heap.update I (Obj.mapFields (·.setIfInBounds 0 .none))).update I (Obj.mapFields (·.setIfInBounds 1 .none))).update I (Obj.mapFields (·.setIfInBounds 2 (.bool true))) } : Shared) = s₂ := ⟨_, rfl⟩
    rw [hs₂] at e₂
    refine at_state hs₂ ?_
    show wpAny _ _ (newExc (.type "StopIteration") [] >>= _) _ _ _
    refine wpAny_bind ?_
    simp only [newExc, newTuple]
    refine wpAny_bind (wpAny_newObj_type ?_ (by size_fits))
    refine wpAny_bind (m := firstArgMember _ _) (wpAny_of_eq (a := Value.none) (by first | rfl | (simp only [firstArgMember]; rfl)) ?_)
    refine wpAny_newObj_type ?_ (by size_fits)
    simp only [raiseNew]
    refine wpAny_bind (wpAny_handled ?_)
    rw [show A.in1.handled = none from R.handled]
    refine wpAny_bind (wpAny_pure (wpAny_throw ?_))
    refine wpAny_bind (wpAny_isInstance (T := "StopIteration") (b := true) ⟨_, Heap.get?_push_size _ rfl, rfl⟩ isSubtype_stop ?_)
    have hc0 : (chr l.text p).cps.size = 0 := by simp [chr]; omega
    rw [hc0] at V₁
    have Cx₂ := C₁.keep e₂.2 fun b hb => by rw [List.mem_singleton.mp hb]; exact ⟨.inr (.inr o1), o3⟩
    have Vx₂ := V₁.keep e₂.2 fun b hb => by rw [List.mem_singleton.mp hb]; exact o1
    have k3 : ∀ oa ob, Kp s₂.heap ((s₂.heap.push oa).push ob) := fun oa ob b o e => Heap.get?_push_of_some _ (Heap.get?_push_of_some _ e)
    refine wpAny_pure (he hp _ ?_ (Cx₂.to (k3 _ _)) (Vx₂.to (k3 _ _)))
    exact ((e₁.mono (fun b q => by rcases List.mem_cons.mp q with rfl | q; simp; rw [List.mem_singleton.mp q]; simp)).trans (e₂.mono fun b q => by rw [List.mem_singleton.mp q]; simp)).trans (Ex.ofTo ⟨_, s₂.toks, rfl, k3 _ _, Nat.le_refl _⟩)
  · rw [decide_eq_false hp]
    rw [if_pos (by decide)]
    have hlt : p < l.text.cps.size := by have := V.le; omega
    exact wpAny_bind (wpAny_pure (wpAny_pure ⟨_, rfl, wpAny_pure (hi hlt s₁ tv e₁ C₁ V₁)⟩))
end
end Mine
end
section
open PySem PySem.W PyProof.Rows PySem.Builtin PySem.Builtin.Str
namespace Mine
noncomputable def sl (cs : List Nat) : Str := ⟨cs.toArray⟩
theorem sl_append (a b : List Nat) : sl a ++ sl b = sl (a ++ b) := by
  show (⟨a.toArray ++ b.toArray⟩ : Str) = ⟨(a ++ b).toArray⟩
  simp
theorem sl_length (a : List Nat) : (sl a).length = a.length := by show a.toArray.size = _; simp
/-- what stands behind p in the text -/
noncomputable def At (x : Str) (p : Nat) (cs : List Nat) : Prop := x.cps.toList.drop p = cs
theorem At.cons {x : Str} {p c : Nat} {r : List Nat} (h : At x p (c :: r)) : p < x.cps.size ∧ chr x p = sl [c] ∧ (chr x p).cps.size = 1 ∧ At x (p + 1) r := by
  unfold At at h
  have hl := congrArg List.length h
  simp only [List.length_drop, Array.length_toList, List.length_cons] at hl
  refine ⟨by omega, ?_, ?_, ?_⟩
  · unfold chr sl; rw [h]; rfl
  · unfold chr; rw [h]; rfl
  · unfold At
    rw [← List.drop_drop, h]; rfl
theorem At.nil {x : Str} {p : Nat} (h : At x p []) (hp : p ≤ x.cps.size) : p = x.cps.size := by
  unfold At at h
  have hl := congrArg List.length h
  simp only [List.length_drop, Array.length_toList, List.length_nil] at hl
  omega
noncomputable def isWs (c : Nat) : Bool := [10, 9, 13, 32].contains c
theorem ws_contains (c : Nat) : Txt.contains wsS (sl [c]) = isWs c := by
  have hw : wsS.cps.toList = [10, 9, 13, 32] := by decide +kernel
  have := StrLaws.found_one wsS c
  unfold Txt.contains
  have e : sl [c] = ⟨#[c]⟩ := rfl
  rw [e]
  refine Eq.trans this ?_
  rw [hw]
  unfold isWs
  rw [List.contains_eq_mem]
theorem sl_eq (a b : List Nat) : (sl a == sl b) = (a == b) := by
  cases h : a == b with
  | true => rw [beq_iff_eq] at h ⊢; rw [h]
  | false =>
    rw [beq_eq_false_iff_ne] at h ⊢
    intro e
    unfold sl at e
    injection e with e
    exact h (by simpa using congrArg Array.toList e)
/-- facts about get_token's frame -/
structure GC (l : Lx) (env : Env) (I q : Addr) : Prop where
  cells : env.cells = []
  nl : env.locals ∉ l.all
  nI : I ≠ env.locals
  nq : q ≠ env.locals
  Iq : q ≠ I
  ok : env.kindOf (S "ch") = some .local ∧ env.kindOf (S "token") = some .local ∧ env.kindOf (S "fiter") = some .local ∧ env.kindOf (S "self") = some .local
/-- the state among get_token's statements -/
structure GS (w : World) (k : Nat) (A : Around) (l : Lx) (env : Env) (I q : Addr) (s₀ : Shared) (ρ : Vars) (p : Nat) (s : Shared) : Prop where
  R : Rm (k + 3) A s.toks
  T : Stt (lf w l env) [] ρ s.heap
  C : LexC w l s.heap
  V : LexV l p s.heap
  F : Fi l I q s.heap
  e : Ex [env.locals, l.dx, l.g, I] s₀ s
section
variable {w : World} {k : Nat} {A : Around} {E : Value → Shared → Prop} {l : Lx} {env : Env} {I q : Addr} {s₀ : Shared} {ρ : Vars} {p : Nat} {s : Shared}
theorem GS.less {ρ' : Vars} (g : GS w k A l env I q s₀ ρ p s) (h : Sub ρ' ρ) : GS w k A l env I q s₀ ρ' p s := { g with T := g.T.less h.mem }
theorem GS.to {s' : Shared} (g : GS w k A l env I q s₀ ρ p s) (t : To s s') : GS w k A l env I q s₀ ρ p s' :=
  ⟨g.R.to t, g.T.keeps t.heap, g.C.to t.heap, g.V.to t.heap, g.F.keep (ex := []) (fun b o _ e => t.heap b o e) (fun q => nomatch q) (fun q => nomatch q), g.e.trans (Ex.ofTo t)⟩
theorem GS.own {ρ' : Vars} {s' : Shared} (G : GC l env I q) (g : GS w k A l env I q s₀ ρ p s) (e : Ex [env.locals] s s') (T' : Stt (lf w l env) [] ρ' s'.heap) : GS w k A l env I q s₀ ρ' p s' := by
  have hx : ∀ b ∈ [env.locals], b ∉ l.all ∧ l.hb.objs.size ≤ b := fun b hb => by rw [List.mem_singleton.mp hb]; exact ⟨G.nl, g.T.above⟩
  exact ⟨g.R.up e.le, T', g.C.keep e.2 fun b hb => ⟨.inr (.inr (hx b hb).1), (hx b hb).2⟩, g.V.keep e.2 fun b hb => (hx b hb).1,
    g.F.keep e.2 (fun m => G.nI (List.mem_singleton.mp m)) (fun m => G.nq (List.mem_singleton.mp m)), g.e.trans (e.mono fun b m => by rw [List.mem_singleton.mp m]; simp)⟩
theorem GS.read {s' : Shared} {p' : Nat} (G : GC l env I q) (g : GS w k A l env I q s₀ ρ p s) (hf : (ρ.all fun p => flatD p.2) = true) (e : Ex [l.dx, l.g] s s') (C' : LexC w l s'.heap) (V' : LexV l p' s'.heap) : GS w k A l env I q s₀ ρ p' s' := by
  have nd : ∀ {b : Addr}, b ∉ l.all → b ∉ [l.dx, l.g] := fun h m => by
    rcases List.mem_cons.mp m with e | m
    · exact h (by rw [e]; simp [Lx.all])
    · exact h (by rw [List.mem_singleton.mp m]; simp [Lx.all])
  refine ⟨g.R.up e.le, g.T.exl G.cells hf e.2 fun b hb => ⟨g.C.lo b ?_, fun q => G.nl (q ▸ ?_)⟩, C', V', g.F.keep e.2 (nd g.F.off.1) (nd g.F.off.2.1), g.e.trans (e.mono fun b m => ?_)⟩
  · rcases List.mem_cons.mp hb with rfl | hb; simp [Lx.all]; rw [List.mem_singleton.mp hb]; simp [Lx.all]
  · rcases List.mem_cons.mp hb with rfl | hb; simp [Lx.all]; rw [List.mem_singleton.mp hb]; simp [Lx.all]
  · rcases List.mem_cons.mp m with rfl | m; simp; rw [List.mem_singleton.mp m]; simp
theorem Mv.exl {s s' : Shared} (m : Mv (lf w l env) [] [] s s') (hc : env.cells = []) : Ex [env.locals] s s' := ⟨m.same, fun b o hb e => m.kept b o (fun q => by
    rcases q with q | ⟨n, q, _⟩ | q
    · exact hb (List.mem_singleton.mpr q)
    · have q : env.cells.lookup n = some b := q
      rw [hc] at q; cases q
    · simp at q) e⟩
/-- a block in our plain logic -/
theorem GS.thru {ss : List Stmt} {P : Own → Vars → Prop} {ρ' : Vars} {Q : Flow → Shared → Prop} (G : GC l env I q) (g : GS w k A l env I q s₀ ρ p s) (h : Thru (lf w l env) (k + 3) [] ρ ss P) (hP : ∀ W' ρ'', P W' ρ'' → W' = [] ∧ Sub ρ' ρ'')
    (hq : ∀ s', GS w k A l env I q s₀ ρ' p s' → Q .next s') : wpAny (mo w) A (execs ss env) Q E s :=
  h A E s Q g.R g.T fun W' ρ'' s' pp T' m => by
    obtain ⟨rfl, hs⟩ := hP _ _ pp
    exact hq s' ((GS.own G g (m.exl G.cells) T').less hs)
theorem seq_stmt {st : Stmt} {rest : List Stmt} {Q : Flow → Shared → Prop} {H : Shared → Prop} (h : wpAny (mo w) A (execs [st] env) (fun f s' => f = .next ∧ H s') E s) (h' : ∀ s', H s' → wpAny (mo w) A (execs rest env) Q E s') : wpAny (mo w) A (execs (st :: rest) env) Q E s := by
  rw [show st :: rest = [st] ++ rest from rfl, execs_append]
  refine wpAny_bind (wpAny_mono h (fun f s' x => ?_) fun _ _ e => e)
  obtain ⟨rfl, hs⟩ := x
  exact h' s' hs
/-- ch = self._read_char() -/
theorem read_stmt {c : Nat} {r : List Nat} {p1 p2 p3 p4 p5 : Pos} (G : GC l env I q) (g : GS w k A l env I q s₀ ρ p s) (hf : (ρ.all fun p => flatD p.2) = true) (hself : ρ.lookup (S "self") = some (.val (.ref l.x))) (hsz : l.text.cps.size ≤ 100000) (hat : At l.text p (c :: r))
    (hs : swapsWith (.Call (.Attribute (.Name (S "self") p2) (S "_read_char") p3) [] [] p4) (some (.Name (S "ch") p1)) p5.line env = pure false)
    (he : eval (.Call (.Attribute (.Name (S "self") p2) (S "_read_char") p3) [] [] p4) env = (do
      let ov ← eval (.Name (S "self") p2) env
      standAt p3.atName
      let (f, first) ← holding [ov] (getMethod ov (S "_read_char") (do return (← importBound (.Name (S "self") p2) env).getD true))
      callWith p4 f first (backTo p4 (starEach [] env)) (backToKw p4 (keywordEach [] env)))) :
    wpAny (mo w) A (exec (.Assign [.Name (S "ch") p1] (.Call (.Attribute (.Name (S "self") p2) (S "_read_char") p3) [] [] p4) p5) env) (fun f s' => f = .next ∧ GS w k A l env I q s₀ (Mine.put (S "ch") (.dat (.str (sl [c]))) ρ) (p + 1) s') E s := by
  refine raw_assign hs (methodCall_KW (h := ?_) (he := he))
  refine val_lx g.R g.T hself rfl fun s₁ t₁ => ?_
  have g₁ := g.to t₁
  obtain ⟨h1, t1, h2, t2, h3, t3, h4, t4, tl, tw, n, od⟩ := g₁.V.od
  refine method_fn g₁.C.cx.kc (g₁.C.inst od) (kc_ga _) (kc_hook _) (kc_char _) (kc_fn56 _) rfl ?_
  refine Calls.callWith_function (o := o56_7 w.params) (fd := _) (evalArgs_nil3 ⟨⟨g₁.C.cx.kin 56 _ (kF_at 8 rfl) (by decide), rfl⟩, ?_⟩)
  refine char_call (k := k + 1) g₁.R g₁.C g₁.V hsz fun s₂ tv e₂ C₂ V₂ => ?_
  obtain ⟨a1, a2, a3, a4⟩ := hat.cons
  rw [a3] at V₂
  rw [a2]
  have g₂ := GS.read G g₁ hf e₂ C₂ V₂
  refine store_lx (d := .dat (.str (sl [c]))) g₂.T (.inl G.ok.1) (.str _ _) fun s₃ T₃ m₃ => ⟨rfl, ?_⟩
  exact GS.own G g₂ (m₃.ex fun x hx => by rw [G.cells]; rfl) T₃
end
end Mine
end
section
open PySem PySem.W PyProof.Rows PySem.Builtin PySem.Builtin.Str
namespace Mine
noncomputable def forBody : Stmt → List Stmt | .For _ _ b _ _ => b | _ => []
noncomputable def ifBody : Stmt → List Stmt | .If _ b _ _ => b | _ => []
noncomputable def ifElse : Stmt → List Stmt | .If _ _ b _ => b | _ => []
noncomputable def nth (l : List Stmt) (i : Nat) : Stmt := (l.drop i).headD (.Pass ⟨0, 0, 0, 0⟩)
noncomputable def bodyO : List Stmt := forBody (nth (dB (sc 6 2)) 3)
noncomputable def bodyQ : List Stmt := forBody (nth (ifBody (nth bodyO 1)) 0)
noncomputable def elseO : List Stmt := ifElse (nth bodyO 1)
noncomputable def bodyE : List Stmt := forBody (nth elseO 2)
noncomputable abbrev envTok (t : Tok) (L : Addr) : Env := callEnv (fnX (dN (sc 6 2)) (S "_netrclex.get_token") (dA (sc 6 2)) (dB (sc 6 2)) (dS (sc 6 2)) [] .none .none .none (.str (S "cpy313.netrc") t) none (.ref 62) .none) L 63
noncomputable def ρa (l : Lx) (I : Addr) (tk : List Nat) : Vars := [(Str.ofString "fiter", .val (.ref I)), (Str.ofString "token", .dat (.str (sl tk))), (Str.ofString "self", .val (.ref l.x))]
noncomputable def ρc (l : Lx) (I : Addr) (c : Nat) (tk : List Nat) : Vars := (Str.ofString "ch", .dat (.str (sl [c]))) :: ρa l I tk
section
variable {w : World} {k : Nat} {A : Around} {E : Value → Shared → Prop} {l : Lx} {env : Env} {I q : Addr} {s₀ : Shared} {ρ : Vars} {p : Nat} {s : Shared}
theorem if_exec {test : Expr} {body orelse : List Stmt} {pos : Pos} {b : Bool} {Q : Flow → Shared → Prop} (g : GS w k A l env I q s₀ ρ p s) (ht : Tst (lf w l env) (k + 3) [] ρ test b) (h : ∀ s', GS w k A l env I q s₀ ρ p s' → wpAny (mo w) A (execs (if b then body else orelse) env) Q E s') :
    wpAny (mo w) A (exec (.If test body orelse pos) env) Q E s :=
  wpAny_If (tst_lx g.R g.T ht fun s' t => by
    have := h s' (g.to t)
    cases b <;> exact this)
theorem white_exec {p1 p2 p3 p4 p5 : Pos} {c : Nat} {body orelse : List Stmt} {Q : Flow → Shared → Prop} (g : GS w k A l env I q s₀ ρ p s) (hch : ρ.lookup (S "ch") = some (.dat (.str (sl [c])))) (hself : ρ.lookup (S "self") = some (.val (.ref l.x)))
    (h : ∀ s', GS w k A l env I q s₀ ρ p s' → wpAny (mo w) A (execs (if isWs c then body else orelse) env) Q E s') :
    wpAny (mo w) A (exec (.If (.Compare (.Name (S "ch") p1) [.In] [.Attribute (.Name (S "self") p2) (S "whitespace") p3] p4) body orelse p5) env) Q E s := by
  refine wpAny_If (wpAny_isTrue_Compare1 (ev_lx g.R g.T (Ev.name hch rfl) fun u s₁ t₁ ru => Attribute_name (val_lx (g.to t₁).R (g.to t₁).T hself rfl fun s₂ t₂ => ?_)) rfl)
  have g₂ := (g.to t₁).to t₂
  refine get_white g₂.C (show LexD l (lnOf l.text p) s₂.heap from g₂.V.od) fun tw => ?_
  change Rd _ _ _ _ at ru
  cases ru with
  | str _ tu =>
    refine SB.contains (wpAny_truthy_bool ?_)
    rw [ws_contains]
    have := h _ (g₂.to (To.tok s₂ (s₂.toks + 1)))
    cases hb : isWs c <;> rw [hb] at this <;> exact this
theorem aug_stmt {c : Nat} {tk : List Nat} {p1 p2 p3 : Pos} {Q : Flow → Shared → Prop} (G : GC l env I q) (g : GS w k A l env I q s₀ (ρc l I c tk) p s) (hlen : tk.length ≤ 1000000) (h : ∀ s', GS w k A l env I q s₀ (ρa l I (tk ++ [c])) p s' → Q .next s') :
    wpAny (mo w) A (execs [.AugAssign (.Name (S "token") p1) .Add (.Name (S "ch") p2) p3] env) Q E s := by
  refine GS.thru (P := fun W' ρ' => W' = [] ∧ ρ' = Mine.put (S "token") (.dat (.str (sl tk ++ sl [c]))) (ρc l I c tk)) G g (Thru.augS rfl (Ev.name rfl rfl) (.inl G.ok.2.1) (by rw [sl_length, sl_length]; have : sizeLine = 2 ^ 24 := rfl; simp only [List.length_singleton]; omega)) ?_ h
  rintro W' ρ' ⟨rfl, rfl⟩
  rw [sl_append]
  exact ⟨rfl, rfl, rfl, rfl, trivial⟩
theorem turn_start {c : Nat} {r tk : List Nat} {body : List Stmt} {pos : Pos} {Qn : Shared → Prop} {Qb : Flow → Shared → Prop} {Eb Ea : Value → Shared → Prop} (G : GC l env I q) (g : GS w k A l env I q s₀ (ρa l I tk) p s) (hsz : l.text.cps.size ≤ 100000) (hat : At l.text p (c :: r))
    (h : ∀ s', GS w k A l env I q s₀ (ρc l I c tk) (p + 1) s' → wpAny (mo w) A (execs body env) Qb Eb s') :
    wpAny (mo w) A (pyNext (.ref I)) (fun o s₁ => match o with
      | none => Qn s₁
      | some v => wpAny (mo w) A (letOwnedTupleGo (.Name (S "ch") pos) (.ref I) v) (fun _ s₁' => wpAny (mo w) A (assign (.Name (S "ch") pos) env v) (fun _ s₂ => wpAny (mo w) A (execs body env) Qb Eb s₂) Eb s₁') Eb s₁) Ea s := by
  obtain ⟨a1, a2, a3, a4⟩ := hat.cons
  refine next_ci g.R g.C g.V g.F hsz (fun _ s₁ tv e₁ C₁ V₁ => ?_) (fun q => by omega)
  rw [a3] at V₁
  rw [a2]
  have g₁ := GS.read G g rfl e₁ C₁ V₁
  refine wpAny_pure (wpAny_assign_Name (store_lx (d := .dat (.str (sl [c]))) g₁.T (.inl G.ok.1) (.str _ _) fun s₂ T₂ m₂ => ?_))
  exact h s₂ ((GS.own G g₁ (m₂.ex fun x hx => by rw [G.cells]; rfl) T₂).less ⟨rfl, rfl, rfl, rfl, trivial⟩)
noncomputable def srcs : List (Bool × Nat) → List Nat
  | [] => []
  | (true, c) :: r => 92 :: c :: srcs r
  | (false, c) :: r => c :: srcs r
/-- elif ch == backslash: ch = self._read_char() ; token += ch -/
theorem esc_tail {b : Bool} {c : Nat} {r tk : List Nat} {p1 p2 p3 p4 p5 p6 p7 p8 : Pos} {k1 : Nat} {Q : Flow → Shared → Prop} (G : GC l env I q) (g : GS w k A l env I q s₀ (ρc l I (if b then 92 else c) tk) p s) (hsz : l.text.cps.size ≤ 100000)
    (hat : At l.text p (if b then c :: r else r)) (hb : b = false → c ≠ 92)
    (hs : swapsWith (.Call (.Attribute (.Name (S "self") p4) (S "_read_char") p5) [] [] p6) (some (.Name (S "ch") p3)) p7.line env = pure false)
    (he : eval (.Call (.Attribute (.Name (S "self") p4) (S "_read_char") p5) [] [] p6) env = (do
      let ov ← eval (.Name (S "self") p4) env
      standAt p5.atName
      let (f, first) ← holding [ov] (getMethod ov (S "_read_char") (do return (← importBound (.Name (S "self") p4) env).getD true))
      callWith p6 f first (backTo p6 (starEach [] env)) (backToKw p6 (keywordEach [] env))))
    (h : ∀ s' p', GS w k A l env I q s₀ (ρc l I c tk) p' s' → At l.text p' r → Q .next s') :
    wpAny (mo w) A (execs [.If (.Compare (.Name (S "ch") p1) [.Eq] [.Constant (.str (S "\\")) k1 p2] p8) [.Assign [.Name (S "ch") p3] (.Call (.Attribute (.Name (S "self") p4) (S "_read_char") p5) [] [] p6) p7] [] p8] env) Q E s := by
  have hS : S "\\" = sl [92] := by decide +kernel
  refine wpAny_execs_cons (wpAny_mono (Q := fun f s' => f = .next ∧ Q .next s') (if_exec g (b := b) (Tst.to (Tst.cmpD (Ev.name rfl rfl) Ev.str (Cmp.eqS _ _) rfl) ?_) fun s₁ g₁ => ?_) (fun f s' x => by obtain ⟨rfl, x⟩ := x; exact wpAny_execs_nil x) fun _ _ e => e)
  · rw [hS, sl_eq]
    cases b with
    | true => rfl
    | false => have := hb rfl; simp [this]
  · cases b with
    | false =>
      exact wpAny_execs_nil ⟨rfl, h s₁ p g₁ hat⟩
    | true =>
      refine wpAny_execs_cons (wpAny_mono (read_stmt G g₁ rfl rfl hsz hat hs he) (fun f s' x => ?_) fun _ _ e => e)
      obtain ⟨rfl, g₂⟩ := x
      exact wpAny_execs_nil ⟨rfl, h s' (p + 1) (g₂.less ⟨rfl, rfl, rfl, rfl, trivial⟩) hat.cons.2.2.2⟩
end
end Mine
end
section
open PySem PySem.W PyProof.Rows PySem.Builtin PySem.Builtin.Str
namespace Mine
theorem srcs_cons (b : Bool) (c : Nat) (r : List (Bool × Nat)) (x : List Nat) : srcs ((b, c) :: r) ++ x = (if b then 92 else c) :: (if b then c :: (srcs r ++ x) else srcs r ++ x) := by cases b <;> rfl
theorem snd_take (tk : List Nat) (items : List (Bool × Nat)) (i : Nat) (b : Bool) (c : Nat) (h : items[i]? = some (b, c)) : tk ++ (items.take i).map (·.2) ++ [c] = tk ++ (items.take (i + 1)).map (·.2) := by
  rw [List.take_add_one, h]
  simp
section
variable {w : World} {k : Nat} {A : Around} {l : Lx} {t : Tok} {L : Addr} {I q : Addr} {s₀ : Shared} {p : Nat} {s : Shared}
theorem loopQ {items : List (Bool × Nat)} {r tk : List Nat} {pos : Pos} {R : Result → Shared → Prop} (G : GC l (envTok t L) I q) (g : GS w k A l (envTok t L) I q s₀ (ρa l I tk) p s) (hsz : l.text.cps.size ≤ 100000) (hat : At l.text p (srcs items ++ 34 :: r)) (hit : ∀ x ∈ items, x.1 = false → x.2 ≠ 34 ∧ x.2 ≠ 92) (hlen : tk.length + items.length ≤ 200000)
    (hR : ∀ tv s' p' ρ', GS w k A l (envTok t L) I q s₀ ρ' p' s' → At l.text p' r → R (.ok (.ret (.str (sl (tk ++ items.map (·.2))) tv))) s') : codeAny (mo w) A (.forLoop (.Name (S "ch") pos) (.ref I) bodyQ [] (envTok t L)) R s := by
  refine codeAny_forLoop_any (fun n s' => ∃ i p', i ≤ items.length ∧ n = items.length - i ∧ GS w k A l (envTok t L) I q s₀ (ρa l I (tk ++ (items.take i).map (·.2))) p' s' ∧ At l.text p' (srcs (items.drop i) ++ 34 :: r)) ?_ items.length ⟨0, p, Nat.zero_le _, rfl, by simpa using g, hat⟩
  rintro n s' ⟨i, p', hi, rfl, g', hat'⟩
  have hS : S "\"" = sl [34] := by decide +kernel
  by_cases hlt : i < items.length
  · obtain ⟨⟨b, c⟩, hbc⟩ : ∃ x, items[i]? = some x := ⟨_, List.getElem?_eq_getElem hlt⟩
    have hd : items.drop i = (b, c) :: items.drop (i + 1) := by
      rw [List.drop_eq_getElem_cons hlt]
      rw [List.getElem?_eq_getElem hlt] at hbc
      rw [Option.some.inj hbc]
    have hx := hit (b, c) (List.mem_of_getElem? hbc)
    rw [hd, srcs_cons] at hat'
    refine turn_start G g' hsz hat' fun s₁ g₁ => ?_
    have hat₁ := hat'.cons.2.2.2
    refine raw_cons (if_exec g₁ (b := false) (Tst.to (Tst.cmpD (Ev.name rfl rfl) Ev.str (Cmp.eqS _ _) rfl) ?_) fun s₂ g₂ => ?_)
    · show (sl [if b then 92 else c] == S "\"") = false
      rw [hS, sl_eq]
      cases b with
      | true => rfl
      | false => have := (hx rfl).1; simp [this]
    refine esc_tail G g₂ hsz hat₁ (fun e => (hx e).2) rfl rfl fun s₃ p₃ g₃ hat₃ => ?_
    refine aug_stmt G g₃ (by simp only [List.length_append, List.length_map, List.length_take]; omega) fun s₄ g₄ => ?_
    rw [snd_take _ _ _ _ _ hbc] at g₄
    exact ⟨items.length - (i + 1), by omega, i + 1, p₃, hlt, rfl, g₄, hat₃⟩
  · have hin : i = items.length := by omega
    subst hin
    rw [List.drop_length] at hat'
    rw [List.take_length] at g'
    refine turn_start G g' hsz hat' fun s₁ g₁ => ?_
    have hat₁ := hat'.cons.2.2.2
    refine raw_cons (if_exec g₁ (b := true) (Tst.to (Tst.cmpD (Ev.name rfl rfl) Ev.str (Cmp.eqS _ _) rfl) (by show (sl [34] == S "\"") = true; rw [hS, sl_eq]; rfl)) fun s₂ g₂ => ?_)
    refine wpAny_execs_cons (wpAny_Return_some (ev_lx g₂.R g₂.T (Ev.name rfl rfl) fun v s₃ t₃ rv => ?_))
    change Rd _ _ _ _ at rv
    cases rv with
    | str _ tv => exact hR tv s₃ _ _ (g₂.to t₃) hat₁
theorem loopE {items : List (Bool × Nat)} {w₁ : Nat} {r tk : List Nat} {pos : Pos} {R : Result → Shared → Prop} (G : GC l (envTok t L) I q) (g : GS w k A l (envTok t L) I q s₀ (ρa l I tk) p s) (hsz : l.text.cps.size ≤ 100000) (hat : At l.text p (srcs items ++ w₁ :: r)) (hw : isWs w₁ = true) (hit : ∀ x ∈ items, x.1 = true) (hlen : tk.length + items.length ≤ 200000)
    (hR : ∀ tv s' p' ρ', GS w k A l (envTok t L) I q s₀ ρ' p' s' → At l.text p' r → R (.ok (.ret (.str (sl (tk ++ items.map (·.2))) tv))) s') : codeAny (mo w) A (.forLoop (.Name (S "ch") pos) (.ref I) bodyE [] (envTok t L)) R s := by
  refine codeAny_forLoop_any (fun n s' => ∃ i p', i ≤ items.length ∧ n = items.length - i ∧ GS w k A l (envTok t L) I q s₀ (ρa l I (tk ++ (items.take i).map (·.2))) p' s' ∧ At l.text p' (srcs (items.drop i) ++ w₁ :: r)) ?_ items.length ⟨0, p, Nat.zero_le _, rfl, by simpa using g, hat⟩
  rintro n s' ⟨i, p', hi, rfl, g', hat'⟩
  by_cases hlt : i < items.length
  · obtain ⟨⟨b, c⟩, hbc⟩ : ∃ x, items[i]? = some x := ⟨_, List.getElem?_eq_getElem hlt⟩
    have hd : items.drop i = (b, c) :: items.drop (i + 1) := by
      rw [List.drop_eq_getElem_cons hlt]
      rw [List.getElem?_eq_getElem hlt] at hbc
      rw [Option.some.inj hbc]
    obtain rfl : b = true := hit (b, c) (List.mem_of_getElem? hbc)
    rw [hd, srcs_cons] at hat'
    refine turn_start G g' hsz hat' fun s₁ g₁ => ?_
    have hat₁ := hat'.cons.2.2.2
    refine raw_cons (white_exec g₁ rfl rfl fun s₂ g₂ => ?_)
    refine esc_tail (b := true) G g₂ hsz hat₁ (fun e => nomatch e) rfl rfl fun s₃ p₃ g₃ hat₃ => ?_
    refine aug_stmt G g₃ (by simp only [List.length_append, List.length_map, List.length_take]; omega) fun s₄ g₄ => ?_
    rw [snd_take _ _ _ _ _ hbc] at g₄
    exact ⟨items.length - (i + 1), by omega, i + 1, p₃, hlt, rfl, g₄, hat₃⟩
  · have hin : i = items.length := by omega
    subst hin
    rw [List.drop_length] at hat'
    rw [List.take_length] at g'
    refine turn_start G g' hsz hat' fun s₁ g₁ => ?_
    have hat₁ := hat'.cons.2.2.2
    refine raw_cons (white_exec g₁ rfl rfl fun s₂ g₂ => ?_)
    rw [hw]
    refine wpAny_execs_cons (wpAny_Return_some (ev_lx g₂.R g₂.T (Ev.name rfl rfl) fun v s₃ t₃ rv => ?_))
    change Rd _ _ _ _ at rv
    cases rv with
    | str _ tv => exact hR tv s₃ _ _ (g₂.to t₃) hat₁
/-- what get_token makes of the text: the token and what is left -/
inductive Tk : List Nat → List Nat → List Nat → Prop
  | q (items : List (Bool × Nat)) (r : List Nat) : (∀ x ∈ items, x.1 = false → x.2 ≠ 34 ∧ x.2 ≠ 92) → items.length ≤ 100000 → Tk (34 :: (srcs items ++ 34 :: r)) (items.map (·.2)) r
  | e (c : Nat) (items : List (Bool × Nat)) (w : Nat) (r : List Nat) : (∀ x ∈ items, x.1 = true) → isWs w = true → items.length ≤ 100000 → Tk (92 :: c :: (srcs items ++ w :: r)) (c :: items.map (·.2)) r
  | w (c : Nat) (r tk r' : List Nat) : isWs c = true → Tk r tk r' → Tk (c :: r) tk r'
  | n : Tk [] [] []
end
end Mine
end
section
open PySem PySem.W PyProof.Rows PySem.Builtin PySem.Builtin.Str
namespace Mine
section
variable {w : World} {k : Nat} {A : Around} {l : Lx} {t : Tok} {L : Addr} {I q : Addr} {s₀ : Shared} {p : Nat} {s : Shared}
theorem for_fiter {E : Value → Shared → Prop} {ρ : Vars} {target : Expr} {body : List Stmt} {p1 p2 : Pos} {Q : Flow → Shared → Prop} (g : GS w k A l (envTok t L) I q s₀ ρ p s) (hf : ρ.lookup (S "fiter") = some (.val (.ref I)))
    (h : ∀ s', GS w k A l (envTok t L) I q s₀ ρ p s' → codeAny (mo w) A (.forLoop target (.ref I) body [] (envTok t L)) (fun r s' => match r with | .ok f => Q f s' | .error e => cameBackBy (mo w) A (envTok t L) E e s') s') :
    wpAny (mo w) A (exec (.For target (.Name (S "fiter") p1) body [] p2) (envTok t L)) Q E s := by
  refine wpAny_For (val_lx g.R g.T hf rfl fun s₁ t₁ => ?_) (fun _ => rfl)
  have g₁ := g.to t₁
  obtain ⟨tt, hI⟩ := g₁.F.it
  exact pyIter_ci hI rfl (h s₁ g₁)
theorem loopO {cs tk r : List Nat} {pos : Pos} {R : Result → Shared → Prop} (h : Tk cs tk r) (G : GC l (envTok t L) I q) (g : GS w k A l (envTok t L) I q s₀ (ρa l I []) p s) (hsz : l.text.cps.size ≤ 100000) (hat : At l.text p cs)
    (hR : ∀ tv s' p' ρ', GS w k A l (envTok t L) I q s₀ ρ' p' s' → At l.text p' r → R (.ok (.ret (.str (sl tk) tv))) s')
    (hN : tk = [] → r = [] → ∀ s' p', At l.text p' [] → Rm (k + 3) A s'.toks → Stt (lf w l (envTok t L)) [] (ρa l I []) s'.heap → LexC w l s'.heap → LexV l p' s'.heap → Ex [(envTok t L).locals, l.dx, l.g, I] s₀ s' → R (.ok .next) s') :
    codeAny (mo w) A (.forLoop (.Name (S "ch") pos) (.ref I) bodyO [] (envTok t L)) R s := by
  have hS : S "\"" = sl [34] := by decide +kernel
  refine codeAny_forLoop_any (fun n s' => ∃ cs' p', n = cs'.length ∧ Tk cs' tk r ∧ GS w k A l (envTok t L) I q s₀ (ρa l I []) p' s' ∧ At l.text p' cs') ?_ cs.length ⟨cs, p, rfl, h, g, hat⟩
  rintro n s' ⟨cs', p', rfl, hT, g', hat'⟩
  cases hT with
  | q items r hit hlen =>
    refine turn_start G g' hsz hat' fun s₁ g₁ => ?_
    have hat₁ := hat'.cons.2.2.2
    refine raw_cons (white_exec g₁ rfl rfl fun s₂ g₂ => wpAny_execs_nil ?_)
    refine raw_cons (if_exec g₂ (b := true) (Tst.to (Tst.cmpD (Ev.name rfl rfl) Ev.str (Cmp.eqS _ _) rfl) (by show (sl [34] == S "\"") = true; rw [hS, sl_eq]; rfl)) fun s₃ g₃ => ?_)
    refine raw_cons (for_fiter g₃ rfl fun s₄ g₄ => ?_)
    refine loopQ (tk := []) G (g₄.less ⟨rfl, rfl, rfl, trivial⟩) hsz hat₁ hit (by simp only [List.length_nil]; omega) fun tv s₅ p₅ ρ₅ g₅ hat₅ => ?_
    exact hR tv s₅ p₅ ρ₅ g₅ hat₅
  | e c items w₁ r hit hw hlen =>
    refine turn_start G g' hsz hat' fun s₁ g₁ => ?_
    have hat₁ := hat'.cons.2.2.2
    refine raw_cons (white_exec g₁ rfl rfl fun s₂ g₂ => wpAny_execs_nil ?_)
    refine raw_cons (if_exec g₂ (b := false) (Tst.to (Tst.cmpD (Ev.name rfl rfl) Ev.str (Cmp.eqS _ _) rfl) (by show (sl [92] == S "\"") = false; rw [hS, sl_eq]; rfl)) fun s₃ g₃ => ?_)
    refine seq_stmt (H := fun s₄ => ∃ p₄, GS w k A l (envTok t L) I q s₀ (ρc l I c []) p₄ s₄ ∧ At l.text p₄ (srcs items ++ w₁ :: r)) ?_ ?_
    · exact esc_tail (b := true) (c := c) (r := srcs items ++ w₁ :: r) G g₃ hsz hat₁ (fun e => nomatch e) rfl rfl fun s₄ p₄ g₄ hat₄ => ⟨rfl, p₄, g₄, hat₄⟩
    rintro s₄ ⟨p₄, g₄, hat₄⟩
    refine seq_stmt (H := fun s₅ => GS w k A l (envTok t L) I q s₀ (ρa l I [c]) p₄ s₅) (aug_stmt G g₄ (by simp) fun s₅ g₅ => ⟨rfl, g₅⟩) fun s₅ g₅ => ?_
    refine raw_cons (for_fiter g₅ rfl fun s₆ g₆ => ?_)
    refine loopE (tk := [c]) G g₆ hsz hat₄ hw hit (by simp only [List.length_singleton]; omega) fun tv s₇ p₇ ρ₇ g₇ hat₇ => ?_
    exact hR tv s₇ p₇ ρ₇ g₇ hat₇
  | w c cs₂ _ _ hc hT' =>
    refine turn_start G g' hsz hat' fun s₁ g₁ => ?_
    have hat₁ := hat'.cons.2.2.2
    refine raw_cons (white_exec g₁ rfl rfl fun s₂ g₂ => ?_)
    rw [hc]
    refine wpAny_execs_cons (wpAny_Continue ?_)
    exact ⟨cs₂.length, Nat.lt_succ_self _, cs₂, p' + 1, rfl, hT', g₂.less ⟨rfl, rfl, rfl, trivial⟩, hat₁⟩
  | n =>
    have hp := hat'.nil g'.V.le
    refine next_ci g'.R g'.C g'.V g'.F hsz (fun q => by omega) (fun _ s₁ e₁ C₁ V₁ => ?_)
    refine wpAny_execs_nil (hN rfl rfl s₁ p' hat' (g'.R.up e₁.le) ?_ C₁ V₁ (g'.e.trans (e₁.mono fun b m => List.mem_cons_of_mem _ m)))
    refine g'.T.exl G.cells rfl e₁.2 fun b hb => ?_
    simp only [List.mem_cons, List.not_mem_nil, or_false] at hb
    rcases hb with rfl | rfl | rfl
    · exact ⟨g'.C.lo _ (by simp [Lx.all]), fun q => G.nl (by rw [← q]; simp [Lx.all])⟩
    · exact ⟨g'.C.lo _ (by simp [Lx.all]), fun q => G.nl (by rw [← q]; simp [Lx.all])⟩
    · exact ⟨g'.F.off.2.2.1, G.nI⟩
end
end Mine
end
section
open PySem PySem.W PyProof.Rows PySem.Builtin PySem.Builtin.Str
namespace Mine
section
variable {w : World} {A : Around} {E : Value → Shared → Prop} {s : Shared} {k : Nat}
theorem tok_code {l : Lx} {p : Nat} {cs tk r : List Nat} {Q : Value → Shared → Prop} (R : Rm (k + 4) A s.toks) (C : LexC w l s.heap) (V : LexV l p s.heap) (hsz : l.text.cps.size ≤ 100000) (hat : At l.text p cs) (hT : Tk cs tk r)
    (h : ∀ s' tv p', Ex [l.dx, l.g] s s' → LexC w l s'.heap → LexV l p' s'.heap → At l.text p' r → Q (.str (sl tk) tv) s') : codeAny (mo w) A (.call (.ref 63) ⟨[.ref l.x], []⟩) (fun r s' => match r with | .ok (.ret v) => Q v s' | .ok _ => False | .error e => E e s') s := by
  refine enter_lx (k := k + 3) (binds := [(S "self", .ref l.x)]) R C (kF_at 10 rfl) (by decide) rfl (kF_at 9 rfl) (by decide) rfl rfl rfl (by decide) (fun x hx => by rw [List.mem_singleton.mp hx]; rfl) (by show [S "self"].Nodup; decide) rfl rfl rfl fun h₁ L hL hk T => ?_
  have al := C.alloc V
  have C₁ := C.to hk
  have V₁ := V.to hk
  have R₁ := fun env => (R.deeper env).up (Nat.le_succ s.toks)
  have alL : L ∉ l.all := fun q => by have := al _ q; rw [hL] at this; exact Nat.lt_irrefl _ this
  -- if self.pushback
  refine raw_cons (wpAny_If (isTrue_plain (Attribute_name (val_lx (R₁ _) T rfl rfl fun s₂ t₂ => ?_)) (by rfl)))
  have T₂ := T.keeps t₂.heap
  have C₂ := C₁.to t₂.heap
  have V₂ := V₁.to t₂.heap
  refine get_back C₂ (show LexD l (lnOf l.text p) s₂.heap from V₂.od) ?_
  obtain ⟨n, hpb⟩ := C₂.opb
  refine wpAny_truthy_list ⟨_, hpb, rfl, n, rfl⟩ (by decide) ?_
  rw [if_neg (by decide)]
  refine wpAny_execs_nil ?_
  have t₂' : To s₂ { s₂ with toks := s₂.toks + 1 + 1 + 1 } := To.tok _ _
  obtain ⟨s₃, hs₃⟩ : ∃ s₃ : Shared, ({ s₂ with toks := s₂.toks + 1 + 1 + 1 } : Shared) = s₃ := ⟨_, rfl⟩
  rw [hs₃] at t₂'
  refine at_state hs₃ ?_
  have T₃ := T₂.keeps t₂'.heap
  have C₃ := C₂.to t₂'.heap
  have V₃ := V₂.to t₂'.heap
  have R₃ := fun env => ((R₁ env).to t₂).to t₂'
  have hxL : ∀ b ∈ [L], b ∉ l.all ∧ l.hb.objs.size ≤ b := fun b hb => by rw [List.mem_singleton.mp hb]; exact ⟨alL, hL ▸ C.size_le⟩
  -- token = ''
  refine raw_cons (raw_assign (by rfl) (ev_lx (R₃ _) T₃ Ev.str fun v s₄ t₄ rv => ?_))
  change Rd _ _ _ _ at rv
  refine store_lx (d := .dat (.str (sl []))) (T₃.keeps t₄.heap) (.inl rfl) (by rw [show sl [] = Str.ofString "" by decide +kernel]; exact rv) fun s₅ T₅ m₅ => ?_
  have e₅ : Ex [L] s₄ s₅ := m₅.ex fun x hx => rfl
  have C₅ := (C₃.to t₄.heap).keep e₅.2 fun b hb => ⟨.inr (.inr (hxL b hb).1), (hxL b hb).2⟩
  have V₅ := (V₃.to t₄.heap).keep e₅.2 fun b hb => (hxL b hb).1
  have R₅ := fun env => ((R₃ env).to t₄).up e₅.le
  -- fiter = iter(self._read_char, '')
  refine raw_cons (raw_assign (by rfl) (wpAny_Call_NameR (ev_lx (R₅ _) T₅ (Ev.blt rfl rfl rfl (by decide) rfl) fun v₆ s₆ t₆ r₆ => ?_)))
  obtain rfl : v₆ = .builtin "iter" := r₆
  have T₆ := T₅.keeps t₆.heap
  refine Calls.callWith_builtin rfl (Calls.evalArgs_plain (Calls.spliced_cons (Attribute_name (val_lx ((R₅ _).to t₆) T₆ rfl rfl fun s₇ t₇ => ?_))))
  have C₇ := (C₅.to t₆.heap).to t₇.heap
  have V₇ := (V₅.to t₆.heap).to t₇.heap
  have T₇ := T₆.keeps t₇.heap
  obtain ⟨h1, t1, h2, tt2, h3, t3, h4, t4, tl, tw, n7, od⟩ := V₇.od
  refine get_bind C₇.cx.kc (C₇.inst od) (kc_ga _) (findObj_fn (kc_hasDict _) (kc_char _) (kc_get _) (kc_takes _) (by decide +kernel) rfl) (kc_hook _) (wpAny_call (fn_get (s := { s₇ with toks := s₇.toks + 1 }) C₇.cx.kc (kc_fn56 _) (handed_on rfl ?_)))
  refine Calls.spliced_cons (Calls.Constant_str (k := 0) (pos := ⟨39, 38, 39, 40⟩) (Calls.spliced_nil ?_))
  have hq : (s₇.heap.push (methodObj (.ref 56) (.ref l.x))).get? s₇.heap.objs.size = some (methodObj (.ref 56) (.ref l.x)) := Heap.get?_push_size _ rfl
  refine call_iter2 hq ?_
  have hqs : ((s₇.heap.push (methodObj (.ref 56) (.ref l.x))).objs.size : Nat) = s₇.heap.objs.size + 1 := Heap.size_push ..
  have k8 : ∀ o : Obj, Kp s₇.heap ((s₇.heap.push (methodObj (.ref 56) (.ref l.x))).push o) := fun o b ob e => Heap.get?_push_of_some _ (Heap.get?_push_of_some _ e)
  generalize hI : (s₇.heap.push (methodObj (.ref 56) (.ref l.x))).objs.size = I at hqs
  generalize hqq : s₇.heap.objs.size = q at hq hqs
  obtain ⟨s₈, hs₈⟩ : ∃ s₈ : Shared, s₈ = ({ s₇ with heap := (s₇.heap.push (methodObj (.ref 56) (.ref l.x))).push { cls := .type "callable_iterator", data := .fields #[.ref q, .str (S "") (s₇.toks + 1), .bool false] }, toks := s₇.toks + 1 + 1 } : Shared) := ⟨_, rfl⟩
  refine at_state (s' := s₈) (by rw [hs₈]) ?_
  have t₈ : To s₇ s₈ := by rw [hs₈]; exact ⟨_, _, rfl, k8 _, by omega⟩
  have itI : s₈.heap.get? I = some { cls := .type "callable_iterator", data := .fields #[.ref q, .str (S "") (s₇.toks + 1), .bool false] } := by
    rw [hs₈, ← hI]; exact Heap.get?_push_size _ rfl
  have itq : s₈.heap.get? q = some (methodObj (.ref 56) (.ref l.x)) := by rw [hs₈]; exact Heap.get?_push_of_some _ hq
  have T₈ := T₇.keeps t₈.heap
  have C₈ := C₇.to t₈.heap
  have V₈ := V₇.to t₈.heap
  have al₇ := C₇.alloc V₇
  have hLq : (L : Nat) < q := by
    obtain ⟨m, hm⟩ := T₇.loc
    have := hm.lt
    rw [hqq] at this; exact this
  have qall : q ∉ l.all := fun m => by have := al₇ _ m; rw [hqq] at this; exact Nat.lt_irrefl _ this
  have Iall : I ∉ l.all := fun m => by
    have a1 := al₇ _ m
    rw [hqq, hqs] at a1
    exact Nat.lt_irrefl _ (Nat.lt_trans (Nat.lt_succ_self _) a1)
  have hbq : l.hb.objs.size ≤ q := Nat.le_trans C₇.size_le (Nat.le_of_eq hqq)
  have G : GC l (envTok 215 L) I q := ⟨rfl, alL, (fun e => by have e' : (I : Nat) = L := e; omega), (fun e => by have e' : (q : Nat) = L := e; omega), (fun e => by have e' : (q : Nat) = I := e; omega), rfl, rfl, rfl, rfl⟩
  have F₈ : Fi l I q s₈.heap := ⟨⟨_, itI⟩, itq, Iall, qall, by omega, hbq⟩
  have R₈ := fun env => (((R₅ env).to t₆).to t₇).to t₈
  refine store_lx (d := .val (.ref I)) T₈ (.inl rfl) rfl fun s₉ T₉ m₉ => ?_
  have e₉ : Ex [L] s₈ s₉ := m₉.ex fun x hx => rfl
  have eAll : Ex [L, l.dx, l.g, I] { s with heap := h₁, toks := s.toks + 1 } s₉ := by
    have m1 : ∀ b ∈ [L], b ∈ [L, l.dx, l.g, I] := fun b q => by rw [List.mem_singleton.mp q]; simp
    exact ((((((Ex.ofTo t₂).trans (Ex.ofTo t₂')).trans (Ex.ofTo t₄)).trans (e₅.mono m1)).trans (Ex.ofTo t₆)).trans (Ex.ofTo t₇)).trans (Ex.ofTo t₈) |>.trans (e₉.mono m1)
  have g : GS w k (A.deeper (envTok 215 L)) l (envTok 215 L) I q { s with heap := h₁, toks := s.toks + 1 } (ρa l I []) p s₉ :=
    ⟨(R₈ _).up e₉.le, T₉.less (Sub.mem ⟨rfl, rfl, rfl, trivial⟩), C₈.keep e₉.2 (fun b hb => ⟨.inr (.inr (hxL b hb).1), (hxL b hb).2⟩), V₈.keep e₉.2 (fun b hb => (hxL b hb).1),
      F₈.keep e₉.2 (fun m => G.nI (List.mem_singleton.mp m)) (fun m => G.nq (List.mem_singleton.mp m)), eAll⟩
  have out : ∀ s', Ex [L, l.dx, l.g, I] { s with heap := h₁, toks := s.toks + 1 } s' → Ex [l.dx, l.g] s s' := fun s' e => by
    refine ⟨?_, fun b o hb eb => ?_⟩
    · obtain ⟨⟨h', tk, e, q⟩, _⟩ := e
      exact ⟨h', tk, e, Nat.le_trans (Nat.le_succ _) q⟩
    · have hb' : b ≠ l.dx ∧ b ≠ l.g := by simpa using hb
      have hlt := Heap.lt_size eb
      refine e.2 b o (fun m => ?_) (hk b o eb)
      simp only [List.mem_cons, List.not_mem_nil, or_false] at m
      rcases m with m | m | m | m
      · rw [m, hL] at hlt; exact Nat.lt_irrefl _ hlt
      · exact hb'.1 m
      · exact hb'.2 m
      · rw [m, hqs] at hlt
        rw [hL] at hLq
        exact Nat.lt_irrefl _ (Nat.lt_trans (Nat.lt_trans hLq (Nat.lt_succ_self _)) hlt)
  -- the loop
  refine raw_cons (for_fiter g rfl fun s₁₀ g₁₀ => ?_)
  refine loopO hT G g₁₀ hsz hat (fun tv s' p' ρ' g' hat' => ?_) (fun htk hr s' p' hat' R' T' C' V' e' => ?_)
  · exact h s' tv p' (out s' g'.e) g'.C g'.V hat'
  · refine wpAny_execs_cons (wpAny_Return_some (ev_lx R' T' (Ev.name rfl rfl) fun v s₁₁ t₁₁ rv => ?_))
    change Rd _ _ _ _ at rv
    cases rv with
    | str _ tv =>
      subst htk hr
      exact h s₁₁ tv p' (out s₁₁ (e'.trans (Ex.ofTo t₁₁))) (C'.to t₁₁.heap) (V'.to t₁₁.heap) hat'
end
end Mine
end
section
open PySem PySem.W PyProof.Rows PySem.Builtin PySem.Builtin.Str
namespace Mine
inductive Tks : List Nat → List (List Nat) → Prop
  | nil {cs} : Tk cs [] [] → Tks cs []
  | cons {cs tk r ts} : Tk cs tk r → tk ≠ [] → Tks r ts → Tks cs (tk :: ts)
noncomputable def tokD (ws : List (List Nat)) : List PyData := ws.map fun t => .str (sl t)
theorem rd_strs {N N' : Addr → Prop} {h h' : Heap} : ∀ {ws : List (List Nat)} {vs : List Value}, RdAll N h vs (tokD ws) → RdAll N' h' vs (tokD ws)
  | [], _, .nil => .nil
  | t :: r, _, .cons a b => .cons (by cases a; exact .str _ _) (rd_strs b)
noncomputable abbrev envW (t : Tok) (L : Addr) : Env := callEnv (fnX (S "_law_words") (S "_law_words") (dA (st 21)) (dB (st 21)) (dS (st 21)) [] .none .none .none (.str (S "law_to0073_01") t) none (.ref 196) .none) L 197
structure WS (w : World) (k : Nat) (A : Around) (l : Lx) (env : Env) (a : Addr) (s₀ : Shared) (done : List (List Nat)) (ρ : Vars) (p : Nat) (s : Shared) : Prop where
  R : Rm (k + 4) A s.toks
  T : Stt (lf w l env) [(a, tokD done)] ρ s.heap
  C : LexC w l s.heap
  V : LexV l p s.heap
  e : Ex [env.locals, l.dx, l.g, a] s₀ s
structure WC (l : Lx) (env : Env) (a : Addr) : Prop where
  cells : env.cells = []
  nl : env.locals ∉ l.all
  na : a ∉ l.all
  al : a ≠ env.locals
section
variable {w : World} {k : Nat} {A : Around} {E : Value → Shared → Prop} {l : Lx} {env : Env} {a : Addr} {s₀ : Shared} {done : List (List Nat)} {ρ : Vars} {p : Nat} {s : Shared}
theorem WS.less {ρ' : Vars} (g : WS w k A l env a s₀ done ρ p s) (h : Sub ρ' ρ) : WS w k A l env a s₀ done ρ' p s := { g with T := g.T.less h.mem }
theorem WS.to {s' : Shared} (g : WS w k A l env a s₀ done ρ p s) (t : To s s') : WS w k A l env a s₀ done ρ p s' :=
  ⟨g.R.to t, g.T.keeps t.heap, g.C.to t.heap, g.V.to t.heap, g.e.trans (Ex.ofTo t)⟩
theorem WS.own {ρ' : Vars} {done' : List (List Nat)} {s' : Shared} (G : WC l env a) (g : WS w k A l env a s₀ done ρ p s) (e : Ex [env.locals, a] s s') (T' : Stt (lf w l env) [(a, tokD done')] ρ' s'.heap) : WS w k A l env a s₀ done' ρ' p s' := by
  have hx : ∀ b ∈ [env.locals, a], b ∉ l.all ∧ l.hb.objs.size ≤ b := fun b hb => by
    rcases List.mem_cons.mp hb with rfl | hb
    · exact ⟨G.nl, g.T.above⟩
    · rw [List.mem_singleton.mp hb]; exact ⟨G.na, (g.T.own _ List.mem_cons_self).1⟩
  exact ⟨g.R.up e.le, T', g.C.keep e.2 fun b hb => ⟨.inr (.inr (hx b hb).1), (hx b hb).2⟩, g.V.keep e.2 fun b hb => (hx b hb).1,
    g.e.trans (e.mono fun b m => by rcases List.mem_cons.mp m with rfl | m; simp; rw [List.mem_singleton.mp m]; simp)⟩
theorem Stt.exw {h h' : Heap} {ex : List Addr} (T : Stt (lf w l env) [(a, tokD done)] ρ h) (hc : env.cells = []) (hf : (ρ.all fun p => flatD p.2) = true) (hk : ∀ b o, b ∉ ex → h.get? b = some o → h'.get? b = some o) (hx : ∀ b ∈ ex, l.hb.objs.size ≤ b ∧ b ≠ env.locals ∧ b ≠ a) : Stt (lf w l env) [(a, tokD done)] ρ h' := by
  have nl : env.locals ∉ ex := fun q => (hx _ q).2.1 rfl
  obtain ⟨m, hm⟩ := T.loc
  have hm : h.Ns env.locals m := hm
  refine ⟨T.cx, fun _ f => f.elim, fun b o e => hk b o (fun q => ?_) (T.keep b o e), T.en, ⟨m, hm.at' fun o e => hk _ o nl e⟩, T.above, T.cab, fun n c e => ?_, T.apart, fun p hp => ?_, fun p hp => ?_⟩
  · have := Heap.lt_size e; have h2 := (hx b q).1; exact Nat.lt_irrefl _ (Nat.lt_of_lt_of_le this h2)
  · have e : env.cells.lookup n = some c := e
    rw [hc] at e; cases e
  · obtain ⟨h1, vs, n, h2, h3⟩ := T.own p hp
    rw [List.mem_singleton.mp hp] at h1 h2 h3 ⊢
    exact ⟨h1, vs, n, hk _ _ (fun q => (hx _ q).2.2 rfl) h2, rd_strs h3⟩
  · obtain ⟨v, H, r⟩ := T.vars p hp
    refine ⟨v, ⟨?_⟩, flat_ok (List.all_eq_true.mp hf p hp) r⟩
    rcases H.how with ⟨a, m', b, c⟩ | ⟨a, c, b, _⟩
    · exact .inl ⟨a, m', b.at' fun o e => hk _ o nl e, c⟩
    · have b : env.cells.lookup p.1 = some c := b
      rw [hc] at b; cases b
theorem Mv.exw {s s' : Shared} {ds ds' : List PyData} (m : Mv (lf w l env) [(a, ds)] [(a, ds')] s s') (hc : env.cells = []) : Ex [env.locals, a] s s' := ⟨m.same, fun b o hb e => m.kept b o (fun q => by
    rcases q with q | ⟨n, q, _⟩ | q
    · exact hb (by rw [show b = env.locals from q]; simp)
    · have q : env.cells.lookup n = some b := q
      rw [hc] at q; cases q
    · simp only [List.map_cons, List.map_nil, List.mem_singleton] at q; exact hb (by rw [q]; simp)) e⟩
/-- word = lexer.get_token() -/
theorem token_stmt {cs tk r : List Nat} {p1 p2 p3 p4 p5 : Pos} (G : WC l env a) (hk : env.kindOf (S "word") = some .local) (g : WS w k A l env a s₀ done ρ p s) (hf : (ρ.all fun p => flatD p.2) = true) (hself : ρ.lookup (S "lexer") = some (.val (.ref l.x))) (hsz : l.text.cps.size ≤ 100000) (hat : At l.text p cs) (hT : Tk cs tk r)
    (hs : swapsWith (.Call (.Attribute (.Name (S "lexer") p2) (S "get_token") p3) [] [] p4) (some (.Name (S "word") p1)) p5.line env = pure false)
    (he : eval (.Call (.Attribute (.Name (S "lexer") p2) (S "get_token") p3) [] [] p4) env = (do
      let ov ← eval (.Name (S "lexer") p2) env
      standAt p3.atName
      let (f, first) ← holding [ov] (getMethod ov (S "get_token") (do return (← importBound (.Name (S "lexer") p2) env).getD true))
      callWith p4 f first (backTo p4 (starEach [] env)) (backToKw p4 (keywordEach [] env)))) :
    wpAny (mo w) A (execs [.Assign [.Name (S "word") p1] (.Call (.Attribute (.Name (S "lexer") p2) (S "get_token") p3) [] [] p4) p5] env) (fun f s' => f = .next ∧ ∃ p', WS w k A l env a s₀ done (Mine.put (S "word") (.dat (.str (sl tk))) ρ) p' s' ∧ At l.text p' r) E s := by
  refine raw_cons (raw_assign hs (methodCall_KW (h := ?_) (he := he)))
  refine val_lx g.R g.T hself rfl fun s₁ t₁ => ?_
  have g₁ := g.to t₁
  obtain ⟨h1, t1, h2, t2, h3, t3, h4, t4, tl, tw, n, od⟩ := g₁.V.od
  refine method_fn g₁.C.cx.kc (g₁.C.inst od) (kc_ga _) (kc_hook _) (kc_token _) (kc_fn63 _) rfl ?_
  refine Calls.callWith_function (o := o63_7 w.params) (fd := _) (evalArgs_nil3 ⟨⟨g₁.C.cx.kin 63 _ (kF_at 10 rfl) (by decide), rfl⟩, ?_⟩)
  refine wpAny_call (tok_code (k := k) g₁.R g₁.C g₁.V hsz hat hT fun s₂ tv p₂ e₂ C₂ V₂ hat₂ => ?_)
  have hx : ∀ b ∈ [l.dx, l.g], b ∈ l.all := fun b hb => by
    rcases List.mem_cons.mp hb with rfl | hb; simp [Lx.all]; rw [List.mem_singleton.mp hb]; simp [Lx.all]
  have T₂ := g₁.T.exw G.cells hf e₂.2 fun b hb => ⟨g.C.lo b (hx b hb), fun q => G.nl (q ▸ hx b hb), fun q => G.na (q ▸ hx b hb)⟩
  have g₂ : WS w k A l env a s₀ done ρ p₂ s₂ := ⟨g₁.R.up e₂.le, T₂, C₂, V₂, g₁.e.trans (e₂.mono fun b m => by rcases List.mem_cons.mp m with rfl | m; simp; rw [List.mem_singleton.mp m]; simp)⟩
  refine store_lx (d := .dat (.str (sl tk))) g₂.T (.inl hk) (.str _ _) fun s₃ T₃ m₃ => wpAny_execs_nil ⟨rfl, p₂, ?_, hat₂⟩
  exact WS.own G g₂ ((m₃.ex fun x hx => by rw [G.cells]; rfl).mono fun b m => by rw [List.mem_singleton.mp m]; simp) T₃
end
end Mine
end
section
open PySem PySem.W PyProof.Rows PySem.Builtin PySem.Builtin.Str
namespace Mine
noncomputable def ρw (l : Lx) (a : Addr) (tk : List Nat) : Vars := [(Str.ofString "word", .dat (.str (sl tk))), (Str.ofString "words", .val (.ref a)), (Str.ofString "lexer", .val (.ref l.x))]
section
variable {w : World} {A : Around} {E : Value → Shared → Prop} {s : Shared} {k : Nat}
theorem LexC.got {l : Lx} {h : Heap} {p : Nat} (C : LexC w l h) (V : LexV l p h) : ∀ a ∈ l.all, ∃ o, h.get? a = some o := fun a ha => by
  simp only [Lx.all, List.mem_cons, List.not_mem_nil, or_false] at ha
  rcases ha with rfl | rfl | rfl | rfl | rfl | rfl | rfl | rfl | rfl | rfl
  · exact ⟨_, C.ox⟩
  · obtain ⟨h1, t1, h2, t2, h3, t3, h4, t4, tl, tw, n, e⟩ := V.od; exact ⟨_, e⟩
  · exact ⟨_, C.oy⟩
  · obtain ⟨es, n, e, _⟩ := C.ody; exact ⟨_, e⟩
  · obtain ⟨n, e⟩ := C.opb; exact ⟨_, e⟩
  · obtain ⟨fo, q, doc, pm, ct, oc, vs, t, e, _⟩ := C.of; exact ⟨_, e⟩
  · obtain ⟨vs, n, e, _⟩ := V.og; exact ⟨_, e⟩
  · obtain ⟨t, o, e, _⟩ := C.oct; exact ⟨_, e⟩
  · obtain ⟨o, e, _⟩ := C.ocg; exact ⟨_, e⟩
  · obtain ⟨fo, q, doc, pm, ct, oc, vs, t, _, _, e, _⟩ := C.of; exact ⟨_, e⟩
theorem raw_thru {l : Lx} {env : Env} {W : Own} {ρ : Vars} {st : Stmt} {rest : List Stmt} {P : Own → Vars → Prop} {Q : Flow → Shared → Prop} (R : Rm k A s.toks) (T : Stt (lf w l env) W ρ s.heap) (h : Thru (lf w l env) k W ρ [st] P)
    (hq : ∀ W' ρ' s', P W' ρ' → Stt (lf w l env) W' ρ' s'.heap → Mv (lf w l env) W W' s s' → wpAny (mo w) A (execs rest env) Q E s') : wpAny (mo w) A (execs (st :: rest) env) Q E s := by
  rw [show st :: rest = [st] ++ rest from rfl, execs_append]
  exact wpAny_bind (h A E s _ R T fun W' ρ' s' p T' m => hq W' ρ' s' p T' m)
theorem words_call {l : Lx} {p : Nat} {cs : List Nat} {ws : List (List Nat)} {Q : Value → Shared → Prop} (R : Rm (k + 5) A s.toks) (C : LexC w l s.heap) (V : LexV l p s.heap) (hsz : l.text.cps.size ≤ 100000) (hat : At l.text p cs) (hT : Tks cs ws) (hlen : ws.length ≤ 1000) (hlw : ∀ t ∈ ws, t.length ≤ 1000)
    (h : ∀ s' a vs n p', Ex [l.dx, l.g] s s' → LexC w l s'.heap → LexV l p' s'.heap → At l.text p' [] → s.heap.get? a = none → IsL s'.heap a vs n → RdAll (fun _ => False) s'.heap vs.toList (tokD ws) → Q (.ref a) s') : wpAny (mo w) A (call (.ref 197) [.ref l.x]) Q E s := by
  refine wpAny_call (enter_lx (k := k + 4) (binds := [(S "lexer", .ref l.x)]) R C (kF_at 35 rfl) (by decide) rfl (kF_at 34 rfl) (by decide) rfl rfl rfl (by decide) (fun x hx => by rw [List.mem_singleton.mp hx]; rfl) (by show [S "lexer"].Nodup; decide) rfl rfl rfl fun h₁ L hL hk T => ?_)
  have al := C.alloc V
  have C₁ := C.to hk
  have V₁ := V.to hk
  have R₁ := fun env => (R.deeper env).up (Nat.le_succ s.toks)
  have alL : L ∉ l.all := fun q => by have := al _ q; rw [hL] at this; exact Nat.lt_irrefl _ this
  refine raw_thru (R₁ _) T (Thru.own (ds := []) .nil (by decide) (.inl rfl) rfl) ?_
  rintro W' ρ' s₂ ⟨a, hna, rfl, rfl⟩ T₂ m₂
  have hnew : h₁.get? a = none ∧ ¬ (lf w l (envW 2347 L)).T [] a := by
    rcases m₂.newer a (by simp) with q | q
    · simp at q
    · exact q
  have e₂ : Ex [L, a] { s with heap := h₁, toks := s.toks + 1 } s₂ := ⟨m₂.same, fun b o hb e => m₂.kept b o (fun q => by
    rcases q with q | ⟨n, q, _⟩ | q
    · exact hb (by rw [show b = L from q]; simp)
    · cases q
    · simp at q) e⟩
  have aL : a ≠ L := fun e => hnew.2 (.inl e)
  have aall : a ∉ l.all := fun m => by
    obtain ⟨o, e⟩ := C.got V a m
    rw [hk a o e] at hnew; exact nomatch hnew.1
  have G : WC l (envW 2347 L) a := ⟨rfl, alL, aall, aL⟩
  have hx₂ : ∀ b ∈ [L, a], b ∉ l.all ∧ l.hb.objs.size ≤ b := fun b hb => by
    rcases List.mem_cons.mp hb with rfl | hb
    · exact ⟨alL, hL ▸ C.size_le⟩
    · rw [List.mem_singleton.mp hb]; exact ⟨aall, (T₂.own _ List.mem_cons_self).1⟩
  have g₂ : WS w k (A.deeper (envW 2347 L)) l (envW 2347 L) a { s with heap := h₁, toks := s.toks + 1 } [] (Mine.put (S "words") (.val (.ref a)) [(S "lexer", .val (.ref l.x))]) p s₂ :=
    ⟨(R₁ _).up e₂.le, T₂, C₁.keep e₂.2 fun b hb => ⟨.inr (.inr (hx₂ b hb).1), (hx₂ b hb).2⟩, V₁.keep e₂.2 fun b hb => (hx₂ b hb).1, e₂.mono (ex' := [L, l.dx, l.g, a]) fun b m => by rcases List.mem_cons.mp m with rfl | m; simp; rw [List.mem_singleton.mp m]; simp⟩
  -- word = lexer.get_token()
  have start : ∃ tk r, Tk cs tk r ∧ ((tk = [] ∧ r = [] ∧ ws = []) ∨ (tk ≠ [] ∧ ∃ rest, Tks r rest ∧ ws = tk :: rest)) := by
    cases hT with
    | nil h0 => exact ⟨[], [], h0, .inl ⟨rfl, rfl, rfl⟩⟩
    | cons h1 h2 h3 => exact ⟨_, _, h1, .inr ⟨h2, _, h3, rfl⟩⟩
  obtain ⟨tk, r, hTk, hcase⟩ := start
  refine seq_stmt (token_stmt G rfl g₂ rfl rfl hsz hat hTk rfl rfl) ?_
  rintro s₃ ⟨p₃, g₃, hat₃⟩
  have g₃ : WS w k (A.deeper (envW 2347 L)) l (envW 2347 L) a { s with heap := h₁, toks := s.toks + 1 } [] (ρw l a tk) p₃ s₃ := g₃.less ⟨rfl, rfl, rfl, trivial⟩
  -- while word
  refine raw_cons (wpAny_While (codeAny_whileLoop (fun n s' => ∃ done tk r p', WS w k (A.deeper (envW 2347 L)) l (envW 2347 L) a { s with heap := h₁, toks := s.toks + 1 } done (ρw l a tk) p' s' ∧ At l.text p' r ∧ tk.length ≤ 1000 ∧ done.length ≤ 1000 ∧
    ((tk = [] ∧ r = [] ∧ ws = done ∧ n = 0) ∨ (tk ≠ [] ∧ ∃ rest, Tks r rest ∧ ws = done ++ tk :: rest ∧ n = rest.length + 1))) ?_ ws.length ⟨[], tk, r, p₃, g₃, hat₃, ?_, by simp, ?_⟩))
  rotate_left
  · rcases hcase with ⟨rfl, _, _⟩ | ⟨_, rest, _, e⟩
    · simp
    · exact hlw tk (by rw [e]; simp)
  · rcases hcase with ⟨a1, a2, a3⟩ | ⟨a1, rest, a2, a3⟩
    · exact .inl ⟨a1, a2, a3, by rw [a3]; rfl⟩
    · exact .inr ⟨a1, rest, a2, by rw [a3]; rfl, by rw [a3]; rfl⟩
  rintro n s' ⟨done, tk, r, p', g, hat', htl, hdl, hc⟩
  refine tst_lx g.R g.T (Tst.str (Ev.name rfl rfl) (by rw [sl_length]; omega) (fun _ => rfl)) fun s₄ t₄ => ?_
  have g₄ := g.to t₄
  rw [sl_length]
  rcases hc with ⟨rfl, rfl, hws, rfl⟩ | ⟨hne, rest, hrest, hws, rfl⟩
  · -- done
    rw [if_neg (by decide)]
    refine wpAny_execs_nil ?_
    subst hws
    dsimp only
    refine wpAny_execs_cons (wpAny_Return_some (val_lx g₄.R g₄.T rfl rfl fun s₅ t₅ => ?_))
    have g₅ := g₄.to t₅
    obtain ⟨_, vs, n, hl, hr⟩ := g₅.T.own _ List.mem_cons_self
    refine h s₅ a vs n p' ⟨?_, fun b o hb eb => ?_⟩ g₅.C g₅.V hat' ?_ hl (rd_strs hr)
    · obtain ⟨⟨h', tk, e, q⟩, _⟩ := g₅.e
      exact ⟨h', tk, e, Nat.le_trans (Nat.le_succ _) q⟩
    · have hb' : b ≠ l.dx ∧ b ≠ l.g := by simpa using hb
      refine g₅.e.2 b o (fun m => ?_) (hk b o eb)
      simp only [List.mem_cons, List.not_mem_nil, or_false] at m
      rcases m with m | m | m | m
      · have hlt := Heap.lt_size eb
        rw [m] at hlt
        have : (envW 2347 L).locals = L := rfl
        rw [this, hL] at hlt; exact Nat.lt_irrefl _ hlt
      · exact hb'.1 m
      · exact hb'.2 m
      · rw [m] at eb; rw [hk a o eb] at hnew; exact nomatch hnew.1
    · cases e : s.heap.get? a with
      | none => rfl
      | some o => rw [hk a o e] at hnew; exact nomatch hnew.1
  · -- one word more
    have hb : (((tk.length : Nat) : Int) != 0) = true := by
      rw [bne_iff_ne]
      intro e
      exact hne (List.length_eq_zero_iff.mp (by omega))
    rw [hb, if_pos rfl]
    refine raw_thru g₄.R g₄.T (Thru.append (d := .str (sl tk)) (List.mem_cons_of_mem _ List.mem_cons_self) rfl (Ev.name rfl rfl) (by simp) (by simp only [tokD, List.length_map]; omega) rfl rfl rfl rfl rfl) ?_
    rintro W' ρ' s₅ ⟨rfl, rfl⟩ T₅ m₅
    have hd : tokD done ++ [.str (sl tk)] = tokD (done ++ [tk]) := by simp [tokD]
    rw [hd] at T₅ m₅
    have g₅ := WS.own G g₄ (m₅.exw rfl) T₅
    have nxt : ∃ tk' r', Tk r tk' r' ∧ ((tk' = [] ∧ r' = [] ∧ rest = []) ∨ (tk' ≠ [] ∧ ∃ rest', Tks r' rest' ∧ rest = tk' :: rest')) := by
      cases hrest with
      | nil h0 => exact ⟨[], [], h0, .inl ⟨rfl, rfl, rfl⟩⟩
      | cons h1 h2 h3 => exact ⟨_, _, h1, .inr ⟨h2, _, h3, rfl⟩⟩
    obtain ⟨tk', r', hTk', hcase'⟩ := nxt
    refine wpAny_mono (token_stmt G rfl g₅ rfl rfl hsz hat' hTk' rfl rfl) ?_ (fun _ _ e => e)
    rintro f s₆ ⟨rfl, p₆, g₆, hat₆⟩
    refine ⟨rest.length, Nat.lt_succ_self _, done ++ [tk], tk', r', p₆, g₆.less ⟨rfl, rfl, rfl, trivial⟩, hat₆, ?_, ?_, ?_⟩
    · rcases hcase' with ⟨rfl, _, _⟩ | ⟨_, rest', _, e⟩
      · simp
      · exact hlw tk' (by rw [hws, e]; simp)
    · have := congrArg List.length hws
      simp only [List.length_append, List.length_cons] at this ⊢
      simp only [List.length_nil]
      omega
    · rcases hcase' with ⟨a1, a2, a3⟩ | ⟨a1, rest', a2, a3⟩
      · exact .inl ⟨a1, a2, by rw [hws, a3], by rw [a3]; rfl⟩
      · exact .inr ⟨a1, rest', a2, by rw [hws, a3]; simp, by rw [a3]; rfl⟩
end
end Mine
end
section
open PySem PySem.W PyProof.Rows PySem.Builtin PySem.Builtin.Str
namespace Mine
noncomputable def lx0 (hb : Heap) : Lx := ⟨hb, ⟨#[]⟩, 0, 0, 0, 0, 0, 0, 0, 0, 0, 0⟩
section
variable {w : World} {A : Around} {E : Value → Shared → Prop} {s : Shared} {k : Nat}
/-- entry into a def without cells, over a base heap -/
theorem enter0 {hb : Heap} {name qual : Str} {dV kV ct : Value} {an : Option Addr} {params : Arguments} {body : List Stmt} {scope : Scope} {pm doc : Value} {a c : Addr} {o oc : Obj} {cvs : Array Value} {ctk : Tok} {vs : List Value} {binds : List (Str × Value)} {Q : Value → Shared → Prop} (R : Rm (k + 1) A s.toks) (C : Cx w hb) (K : Kp hb s.heap) (hle : hb.objs.size ≤ s.heap.objs.size)
    (ho : (a, o) ∈ kF w.params) (hn : a ≠ 185) (hdata : o.data = .func (fnX name qual params body scope [] dV kV doc pm an (.ref c) ct)) (hc : (c, oc) ∈ kF w.params) (hn' : c ≠ 185) (hcd : oc.data = .fields cvs) (hcn : cvs[1]? = some (.str qual ctk))
    (hbind : bindArgs (fnX name qual params body scope [] dV kV doc pm an (.ref c) ct) ⟨vs, []⟩ = pure binds) (hcell : ∀ x ∈ scope.names, x.2 ≠ .cell) (hloc : ∀ x ∈ binds, scope.names.lookup x.1 = some .local) (hnd : (binds.reverse.map (·.1)).Nodup)
    (hco : scope.isCoroutine = false) (hgen : scope.isGenerator = false) (hk : scope.kind = .function)
    (h : ∀ h₁ L, L = s.heap.objs.size → Kp s.heap h₁ → Stt (lf w (lx0 hb) (callEnv (fnX name qual params body scope [] dV kV doc pm an (.ref c) ct) L a)) [] (binds.map fun p => (p.1, .val p.2)) h₁ →
      wpAny (mo w) (A.deeper (callEnv (fnX name qual params body scope [] dV kV doc pm an (.ref c) ct) L a)) (execs body (callEnv (fnX name qual params body scope [] dV kV doc pm an (.ref c) ct) L a)) (fun f s' => Q (match f with | .ret v => v | _ => .none) s') (fun _ _ => False) { s with heap := h₁, toks := s.toks + binds.length }) :
    codeAny (mo w) A (.call (.ref a) ⟨vs, []⟩) (fun r s' => match r with | .ok (.ret v) => Q v s' | .ok _ => False | .error e => E e s') s := by
  have Cs := C.keeps K
  refine (codeAny_call_def (fd := fnX name qual params body scope [] dV kV doc pm an (.ref c) ct) (body := body) (binds := binds) R.room (Cs.kin a o ho hn) hdata Cs.nolimit ⟨c, oc, cvs, ctk, rfl, Cs.kin c oc hc hn', hcd, hcn⟩ rfl (BindsTo.of_eq hbind) hcell hloc (fun h₁ hns hkp => ?_) hco hgen hk)
  refine wpAny_mono (h h₁ _ rfl hkp ?_) (fun _ _ x => x) (fun _ _ x => x.elim)
  refine Stt.lx (l := lx0 hb) C (fun b o e => hkp b o (K b o e)) hns hle ⟨rfl, rfl, hk⟩ (fun _ h => nomatch h) (fun _ _ h => nomatch h) .nil fun p hp => ?_
  obtain ⟨q, hq, rfl⟩ := List.mem_map.mp hp
  refine ⟨q.2, ⟨.inl ⟨hloc q hq, _, hns, ?_⟩⟩, rfl⟩
  have : ∀ (l : List (Str × Value)), (l.map (·.1)).Nodup → q ∈ l → l.lookup q.1 = some q.2 := by
    intro l; induction l with
    | nil => intro _ h; cases h
    | cons a r ih =>
      intro hn hm
      obtain ⟨h1, h2⟩ := List.nodup_cons.mp hn
      rw [List.lookup_cons]
      rcases List.mem_cons.mp hm with rfl | hm
      · simp
      · have : (q.1 == a.1) = false := by
          rw [beq_eq_false_iff_ne]; intro e; exact h1 (List.mem_map.mpr ⟨q, hm, e⟩)
        rw [this]; exact ih h2 hm
  exact this binds.reverse hnd (List.mem_reverse.mpr hq)
theorem putL_length (nm : Str) (hsh : Int) (key v : Value) : ∀ es : List DictEntry, (putL nm hsh key v es).length ≤ es.length + 1
  | [] => by simp [putL]
  | e :: r => by
    unfold putL
    split
    · simp
    · simp only [List.length_cons]; have := putL_length nm hsh key v r; omega
/-- x.nm = v, into its dict -/
theorem set_d {x dx : Addr} {es : List DictEntry} {n : Nat} {nm : Str} {v : Value} {Q : Unit → Shared → Prop} (X : (kC w.params).In s.heap) (hx : s.heap.get? x = some (instObj 73 dx)) (e : s.heap.get? dx = some (dictOf es n))
    (ht : takerIn (kC w.params) 73 nm = some none) (hany : (!es.any (·.key.isStr nm) && es.any (·.refKey)) = false) (hz : es.length ≤ 900)
    (h : ∀ s' hsh tk, Ex [dx] s s' → s'.heap.get? dx = some (dictOf (putL nm hsh (.str nm tk) v es) (putN nm es n)) → Q () s') : wpAny (mo w) A (setAttr (.ref x) nm v) Q E s := by
  have I : InstAt s.heap x (instObj 73 dx) 73 (some (dictOf es n)) := ⟨hx, rfl, rfl, e⟩
  refine set_plain X I (kc_sa _) ?_
  refine osa_open (s := { s with toks := s.toks + 1 }) X I (kc_plain _) ht fun b => ?_
  obtain ⟨cd, hc, hd'⟩ := any_some (kc_dict w.params)
  refine wpAny_bind (wpAny_pure (wpAny_bind (wpAny_bind (wpAny_loadPart hx (wpAny_bind (looks_clsIn X hc _ _ _ _ (fun _ _ e => e) ?_))))))
  rw [hd']
  refine wpAny_pure (a := some dx) (wpAny_bind (wpAny_pure (wpAny_bind ?_)))
  unfold nsSet
  refine wpAny_bind (wpAny_bind (wpAny_askSetting (wpAny_pure (wpAny_bind (wpAny_mkText (wpAny_bind (wpAny_loadPart e ?_)))))))
  dsimp only
  rw [aRefKeyMayBeTheName_at, List.any_toArray, List.any_toArray, hany]
  refine wpAny_updatePart e ?_
  have e' : (s.heap.update dx (Obj.putName nm (PyData.keyHash w.params nm) (.str nm (s.toks + 1)) v)).get? dx = some (dictOf (putL nm (PyData.keyHash w.params nm) (.str nm (s.toks + 1)) v es) (putN nm es n)) := by
    rw [Heap.get?_update_self _ e (by rw [putName_dict]; rfl), putName_dict]
  refine wpAny_bind (wpAny_lookBehind e' (by exact pastItsLine_dict (by rw [List.size_toArray, sizeLine_eq]; have := putL_length nm (PyData.keyHash w.params nm) (.str nm (s.toks + 1)) v es; omega)) ?_)
  exact wpAny_pure (h _ _ _ ⟨⟨_, _, rfl, by show s.toks ≤ s.toks + 1 + 1; omega⟩, fun b o hb e2 => (Heap.get?_update_other _ _ (fun q : dx = b => hb (by rw [q]; simp))).trans e2⟩ e')
theorem nil_list {env : Env} {pos : Pos} {Q : Value → Shared → Prop} (h : Q (.ref s.heap.objs.size) { s with heap := s.heap.push { cls := .type "list", data := .seq #[] } }) : wpAny (mo w) A (eval (.List [] pos) env) Q E s :=
  List_ (Calls.spliced_nil (wpAny_newObj_type h (by size_fits)))
noncomputable abbrev envInit (t : Tok) (L : Addr) : Env := callEnv (fnX (dN (sc 6 0)) (S "_netrclex.__init__") (dA (sc 6 0)) (dB (sc 6 0)) (dS (sc 6 0)) [] .none .none .none (.str (S "cpy313.netrc") t) none (.ref 48) .none) L 49
theorem init_code {hb : Heap} {x dx : Addr} {v : Value} {Q : Value → Shared → Prop} (R : Rm (k + 1) A s.toks) (Cb : Cx w hb) (K : Kp hb s.heap) (hle : hb.objs.size ≤ s.heap.objs.size) (hx : s.heap.get? x = some (instObj 73 dx)) (hd : s.heap.get? dx = some emptyDict) (hdb : hb.objs.size ≤ dx) (hxd : x ≠ dx)
    (h : ∀ s' h1 t1 h2 t2 h3 t3 h4 t4 tl tw pb n m, Ex [dx] s s' → s'.heap.get? dx = some (dictOf [⟨h1, .str "lineno" t1, .int 1 tl⟩, ⟨h2, .str "instream" t2, v⟩, ⟨h3, .str "whitespace" t3, .str wsS tw⟩, ⟨h4, .str "pushback" t4, .ref pb⟩] n) → IsL s'.heap pb #[] m → (s.heap.objs.size : Nat) < pb → Q .none s') :
    codeAny (mo w) A (.call (.ref 49) ⟨[.ref x, v], []⟩) (fun r s' => match r with | .ok (.ret v) => Q v s' | .ok _ => False | .error e => E e s') s := by
  refine enter0 (k := k) (binds := [(S "self", .ref x), (S "fp", v)]) R Cb K hle (kF_at 6 rfl) (by decide) rfl (kF_at 5 rfl) (by decide) rfl rfl rfl (by decide) (fun y hy => by rcases List.mem_cons.mp hy with rfl | hy; rfl; rw [List.mem_singleton.mp hy]; rfl) (by show [S "fp", S "self"].Nodup; decide) rfl rfl rfl fun h₁ L hL hk T => ?_
  have R₁ := fun env => (R.deeper env).up (show s.toks ≤ s.toks + 2 by omega)
  -- self.lineno = 1
  refine raw_cons (plainObj_wpAny_Assign_Attribute (ev_lx (R₁ _) T Ev.int fun v₂ s₂ t₂ r₂ => ?_) (by rfl))
  change Rd _ _ _ _ at r₂
  cases r₂ with
  | int _ tl =>
  have T₂ := T.keeps t₂.heap
  refine val_lx ((R₁ _).to t₂) T₂ rfl rfl fun s₃ t₃ => ?_
  have T₃ := T₂.keeps t₃.heap
  have X₃ := (Cb.keeps T₃.keep).kc
  refine set_d (es := []) X₃ (t₃.heap _ _ (t₂.heap _ _ (hk _ _ hx))) (t₃.heap _ _ (t₂.heap _ _ (hk _ _ hd))) (kc_t1 _) rfl (by decide) fun s₄ h1 t1 e₄ d₄ => ?_
  have d₄ : s₄.heap.get? dx = some (dictOf [⟨h1, .str "lineno" t1, .int 1 tl⟩] 1) := d₄
  have ltd : (dx : Nat) < L := by rw [hL]; exact Heap.lt_size hd
  have hxs : ∀ b ∈ [dx], hb.objs.size ≤ b ∧ b ≠ L := fun b m => by rw [List.mem_singleton.mp m]; exact ⟨hdb, fun e => by rw [e] at ltd; exact Nat.lt_irrefl _ ltd⟩
  have xk : ∀ {a b : Shared}, Ex [dx] a b → a.heap.get? x = some (instObj 73 dx) → b.heap.get? x = some (instObj 73 dx) := fun e h => e.2 _ _ (fun m => hxd (List.mem_singleton.mp m)) h
  have x₃ := t₃.heap _ _ (t₂.heap _ _ (hk _ _ hx))
  have T₄ := T₃.exl rfl rfl e₄.2 hxs
  have x₄ := xk e₄ x₃
  have R₄ := fun env => (((R₁ env).to t₂).to t₃).up e₄.le
  -- self.instream = fp
  refine raw_cons (plainObj_wpAny_Assign_Attribute (val_lx (R₄ _) T₄ rfl rfl fun s₅ t₅ => ?_) (by rfl))
  have T₅ := T₄.keeps t₅.heap
  refine val_lx ((R₄ _).to t₅) T₅ rfl rfl fun s₆ t₆ => ?_
  have T₆ := T₅.keeps t₆.heap
  refine set_d (Cb.keeps T₆.keep).kc (t₆.heap _ _ (t₅.heap _ _ x₄)) (t₆.heap _ _ (t₅.heap _ _ d₄)) (kc_t2 _) rfl (by simp) fun s₇ h2 t2 e₇ d₇ => ?_
  have d₇ : s₇.heap.get? dx = some (dictOf [⟨h1, .str "lineno" t1, .int 1 tl⟩, ⟨h2, .str "instream" t2, v⟩] 2) := d₇
  have T₇ := T₆.exl rfl rfl e₇.2 hxs
  have x₇ := xk e₇ (t₆.heap _ _ (t₅.heap _ _ x₄))
  have R₇ := fun env => (((R₄ env).to t₅).to t₆).up e₇.le
  -- self.whitespace = '..'
  refine raw_cons (plainObj_wpAny_Assign_Attribute (ev_lx (R₇ _) T₇ Ev.str fun v₈ s₈ t₈ r₈ => ?_) (by rfl))
  change Rd _ _ _ _ at r₈
  cases r₈ with
  | str _ tw =>
  have T₈ := T₇.keeps t₈.heap
  refine val_lx ((R₇ _).to t₈) T₈ rfl rfl fun s₉ t₉ => ?_
  have T₉ := T₈.keeps t₉.heap
  refine set_d (Cb.keeps T₉.keep).kc (t₉.heap _ _ (t₈.heap _ _ x₇)) (t₉.heap _ _ (t₈.heap _ _ d₇)) (kc_t3 _) rfl (by simp) fun s₁₀ h3 t3 e₁₀ d₁₀ => ?_
  have d₁₀ : s₁₀.heap.get? dx = some (dictOf [⟨h1, .str "lineno" t1, .int 1 tl⟩, ⟨h2, .str "instream" t2, v⟩, ⟨h3, .str "whitespace" t3, .str wsS tw⟩] 3) := d₁₀
  have T₁₀ := T₉.exl rfl rfl e₁₀.2 hxs
  have x₁₀ := xk e₁₀ (t₉.heap _ _ (t₈.heap _ _ x₇))
  have R₁₀ := fun env => (((R₇ env).to t₈).to t₉).up e₁₀.le
  -- self.pushback = []
  refine raw_cons (plainObj_wpAny_Assign_Attribute (nil_list ?_) (by rfl))
  obtain ⟨s₁₁, hs₁₁⟩ : ∃ s₁₁ : Shared, s₁₁ = ({ s₁₀ with heap := s₁₀.heap.push { cls := .type "list", data := .seq #[] } } : Shared) := ⟨_, rfl⟩
  refine at_state (s' := s₁₁) hs₁₁.symm ?_
  have t₁₁ : To s₁₀ s₁₁ := by rw [hs₁₁]; exact To.push _ _
  have pb₁₁ : IsL s₁₁.heap s₁₀.heap.objs.size #[] 0 := by rw [hs₁₁]; exact Heap.get?_push_size _ rfl
  have T₁₁ := T₁₀.keeps t₁₁.heap
  refine val_lx ((R₁₀ _).to t₁₁) T₁₁ rfl rfl fun s₁₂ t₁₂ => ?_
  have T₁₂ := T₁₁.keeps t₁₂.heap
  have x₁₂ := t₁₂.heap _ _ (t₁₁.heap _ _ x₁₀)
  have d₁₂ := t₁₂.heap _ _ (t₁₁.heap _ _ d₁₀)
  refine set_d (Cb.keeps T₁₂.keep).kc x₁₂ d₁₂ (kc_t4 _) rfl (by simp) fun s₁₃ h4 t4 e₁₃ d₁₃ => ?_
  have d₁₃ : s₁₃.heap.get? dx = some (dictOf [⟨h1, .str "lineno" t1, .int 1 tl⟩, ⟨h2, .str "instream" t2, v⟩, ⟨h3, .str "whitespace" t3, .str wsS tw⟩, ⟨h4, .str "pushback" t4, .ref s₁₀.heap.objs.size⟩] 4) := d₁₃
  have d₁₀lt : (dx : Nat) < s₁₀.heap.objs.size := Heap.lt_size d₁₀
  have e1 : Ex [dx] { s with heap := h₁, toks := s.toks + 2 } s₁₀ := (((((((Ex.ofTo t₂).trans (Ex.ofTo t₃)).trans e₄).trans (Ex.ofTo t₅)).trans (Ex.ofTo t₆)).trans e₇).trans (Ex.ofTo t₈)).trans (Ex.ofTo t₉) |>.trans e₁₀
  have e2 : Ex [dx] { s with heap := h₁, toks := s.toks + 2 } s₁₃ := ((e1.trans (Ex.ofTo t₁₁)).trans (Ex.ofTo t₁₂)).trans e₁₃
  refine wpAny_execs_nil (h s₁₃ h1 t1 h2 t2 h3 t3 h4 t4 tl tw _ _ 0 ⟨?_, fun b o hb eb => e2.2 b o hb (hk b o eb)⟩ d₁₃ (e₁₃.2 _ _ (fun m => ?_) (t₁₂.heap _ _ pb₁₁)) ?_)
  · obtain ⟨⟨h', tk, e, q⟩, _⟩ := e2
    exact ⟨h', tk, e, Nat.le_trans (by show s.toks ≤ s.toks + 2; omega) q⟩
  · rw [← List.mem_singleton.mp m] at d₁₀lt; exact Nat.lt_irrefl _ d₁₀lt
  · obtain ⟨m, hm⟩ := T₁₀.loc
    have := hm.lt
    rw [← hL]; exact this
end
end Mine
end
section
open PySem PySem.W PyProof.Rows PySem.Builtin PySem.Builtin.Str
namespace Mine
theorem Rm.under {k : Nat} {A : Around} {t : Nat} {c : Code} (R : Rm (k + 1) A t) (hw : c.weight ≤ 1) (hu : c.cUnits ≤ 8) : Rm k (A.under c) t :=
  ⟨R.handled, by have := R.depth; show A.depth + c.weight + k < 900; omega, by have := R.units; show A.units + c.cUnits + 8 * k < 9000; omega, R.pos⟩
section
variable {w : World} {A : Around} {E : Value → Shared → Prop} {s : Shared} {k : Nat}
theorem tc_weight (v : Value) : (Code.builtin "type.__call__" ⟨[.ref 73, v], []⟩).weight = 1 := by rfl
theorem tc_units (v : Value) : (Code.builtin "type.__call__" ⟨[.ref 73, v], []⟩).cUnits = 1 := by rfl
theorem make_call {hb : Heap} {v : Value} {Q : Value → Shared → Prop} (R : Rm (k + 2) A s.toks) (Cb : Cx w hb) (K : Kp hb s.heap) (hle : hb.objs.size ≤ s.heap.objs.size)
    (h : ∀ s' x dx h1 t1 h2 t2 h3 t3 h4 t4 tl tw pb n m, To s s' → (s.heap.objs.size : Nat) ≤ x → (s.heap.objs.size : Nat) ≤ dx → (s.heap.objs.size : Nat) ≤ pb → x ≠ dx → x ≠ pb → dx ≠ pb → s'.heap.get? x = some (instObj 73 dx) →
      s'.heap.get? dx = some (dictOf [⟨h1, .str "lineno" t1, .int 1 tl⟩, ⟨h2, .str "instream" t2, v⟩, ⟨h3, .str "whitespace" t3, .str wsS tw⟩, ⟨h4, .str "pushback" t4, .ref pb⟩] n) → IsL s'.heap pb #[] m → Q (.ref x) s') :
    wpAny (mo w) A (call (.ref 73) [v]) Q E s := by
  have X := (Cb.keeps K).kc
  refine wpAny_call ?_
  obtain ⟨hh, g, d, t, os⟩ := s
  dsimp only at X R K hle h
  refine make_core (makes_of X (kc_makes _)) (looks_findIn X (kc_init _)) (fun self => bind_fn X self (kc_fn49 _)) (.inl rfl) ?_
  have hdx : (hh.push emptyDict).get? hh.objs.size = some emptyDict := Heap.get?_push_size _ rfl
  have hdx2 : ((hh.push emptyDict).push (instObj 73 hh.objs.size)).get? hh.objs.size = some emptyDict := Heap.get?_push_of_some _ hdx
  have hx2 : ((hh.push emptyDict).push (instObj 73 hh.objs.size)).get? (hh.objs.size + 1) = some (instObj 73 hh.objs.size) := by heap_get
  have k2 : Kp hh ((hh.push emptyDict).push (instObj 73 hh.objs.size)) := fun b o e => Heap.get?_push_of_some _ (Heap.get?_push_of_some _ e)
  have hne : (hh.objs.size + 1 : Nat) ≠ hh.objs.size := Nat.succ_ne_self _
  refine codeAny_mono (init_code (k := k) (E := fun e s' => E e s') (Q := fun v s' => v = .none ∧ Q (.ref (hh.objs.size + 1)) s') (s := ⟨(hh.push emptyDict).push (instObj 73 hh.objs.size), g, d, t, os⟩) (R.under (Nat.le_of_eq (tc_weight v)) (Nat.le_trans (Nat.le_of_eq (tc_units v)) (by decide))) Cb (fun b o e => k2 b o (K b o e)) (by simp only [Heap.size_push]; omega) hx2 hdx2 hle hne ?_) ?_
  · intro s' h1 t1 h2 t2 h3 t3 h4 t4 tl tw pb n m e hd hpb hnew
    refine ⟨rfl, h s' (hh.objs.size + 1) hh.objs.size h1 t1 h2 t2 h3 t3 h4 t4 tl tw pb n m ?_ (Nat.le_succ _) (Nat.le_refl _) (by simp only [Heap.size_push] at hnew; omega) hne (by simp only [Heap.size_push] at hnew; omega) (by simp only [Heap.size_push] at hnew; omega) (e.2 _ _ (fun m => hne (List.mem_singleton.mp m)) hx2) hd hpb⟩
    obtain ⟨⟨h', tk, es, q⟩, kk⟩ := e
    refine ⟨h', tk, es, fun b o eb => ?_, q⟩
    have := kk b o (fun m => by have := Heap.lt_size eb; rw [List.mem_singleton.mp m] at this; exact Nat.lt_irrefl _ this) (k2 b o eb)
    rw [es] at this; exact this
  · intro r s' hr
    rcases r with e | f
    · exact hr
    · cases f <;> first | exact hr | exact hr.elim
end
end Mine
end
section
open PySem PySem.W PyProof.Rows PySem.Builtin PySem.Builtin.Str
namespace Mine
theorem nodup10 (x dx y dy pb f g ct cg kd : Nat) (h1 : ct < cg) (h2 : cg < dy) (h3 : cg < y) (h4 : y ≠ dy) (h5 : dy < g) (h6 : y < g) (h7 : g < kd) (h8 : kd < f) (h9 : f < dx) (h10 : f < x) (h11 : f < pb) (h12 : x ≠ dx) (h13 : x ≠ pb) (h14 : dx ≠ pb) :
    [x, dx, y, dy, pb, f, g, ct, cg, kd].Nodup := by
  simp only [List.nodup_cons, List.mem_cons, List.not_mem_nil, or_false, not_or, List.nodup_nil, not_false_eq_true, and_true]
  have a3 := Nat.lt_trans h7 h8
  have a1 := Nat.lt_trans h6 a3
  have a2 := Nat.lt_trans h5 a3
  have a4 := Nat.lt_trans h2 a2
  have a5 := Nat.lt_trans h1 a4
  have up : ∀ z, f < z → z ≠ y ∧ z ≠ dy ∧ z ≠ f ∧ z ≠ g ∧ z ≠ ct ∧ z ≠ cg ∧ z ≠ kd := fun z h => ⟨Nat.ne_of_gt (Nat.lt_trans a1 h), Nat.ne_of_gt (Nat.lt_trans a2 h), Nat.ne_of_gt h, Nat.ne_of_gt (Nat.lt_trans a3 h), Nat.ne_of_gt (Nat.lt_trans a5 h), Nat.ne_of_gt (Nat.lt_trans a4 h), Nat.ne_of_gt (Nat.lt_trans h8 h)⟩
  obtain ⟨x1, x2, x3, x4⟩ := up x h10
  obtain ⟨d1, d2, d3, d4⟩ := up dx h9
  obtain ⟨p1, p2, p3⟩ := up pb h11
  have b1 := Nat.lt_trans h5 h7
  exact ⟨⟨h12, x1, x2, h13, x3, x4⟩, ⟨d1, d2, h14, d3, d4⟩, ⟨h4, Ne.symm p1, Nat.ne_of_lt a1, Nat.ne_of_lt h6, Nat.ne_of_gt (Nat.lt_trans h1 h3), Nat.ne_of_gt h3, Nat.ne_of_lt (Nat.lt_trans h6 h7)⟩,
    ⟨Ne.symm p2, Nat.ne_of_lt a2, Nat.ne_of_lt h5, Nat.ne_of_gt (Nat.lt_trans h1 h2), Nat.ne_of_gt h2, Nat.ne_of_lt b1⟩, p3, ⟨Nat.ne_of_gt a3, Nat.ne_of_gt a5, Nat.ne_of_gt a4, Nat.ne_of_gt h8⟩, ⟨Nat.ne_of_gt (Nat.lt_trans h1 (Nat.lt_trans h2 h5)), Nat.ne_of_gt (Nat.lt_trans h2 h5), Nat.ne_of_lt h7⟩, ⟨Nat.ne_of_lt h1, Nat.ne_of_lt (Nat.lt_trans h1 (Nat.lt_trans h2 b1))⟩, Nat.ne_of_lt (Nat.lt_trans h2 b1)⟩
theorem lnA {N S y dy : Nat} (a : 185 < N) (b : N + 1 + 1 < S) (c : S ≤ y) (d : S ≤ dy) : (y ≠ N ∧ y ≠ N + 1 + 1 ∧ y ≠ 185 ∧ N + 1 + 1 < y) ∧ (dy ≠ N ∧ dy ≠ N + 1 + 1 ∧ dy ≠ 185 ∧ N + 1 + 1 < dy) ∧ (185 ≠ N ∧ 185 ≠ N + 1 + 1) ∧ (4 ≠ N ∧ 4 ≠ N + 1 + 1) ∧ (N + 1 ≠ 185 ∧ N + 1 + 1 ≠ 185) ∧ N + 1 ≠ N ∧ N + 1 ≠ N + 1 + 1 ∧ N + 1 + 1 ≠ N := by
  have n1 := Nat.lt_succ_self N
  have n2 := Nat.lt_trans n1 (Nat.lt_succ_self (N + 1))
  have a1 := Nat.lt_trans a n1
  have a2 := Nat.lt_trans a n2
  have a4 : 4 < N := Nat.lt_trans (by decide) a
  have up : ∀ z, S ≤ z → z ≠ N ∧ z ≠ N + 1 + 1 ∧ z ≠ 185 ∧ N + 1 + 1 < z := fun z h =>
    have q := Nat.lt_of_lt_of_le b h
    ⟨Nat.ne_of_gt (Nat.lt_trans n2 q), Nat.ne_of_gt q, Nat.ne_of_gt (Nat.lt_trans a2 q), q⟩
  exact ⟨up y c, up dy d, ⟨Nat.ne_of_lt a, Nat.ne_of_lt a2⟩, ⟨Nat.ne_of_lt a4, Nat.ne_of_lt (Nat.lt_trans a4 n2)⟩, ⟨Nat.ne_of_gt a1, Nat.ne_of_gt a2⟩, Nat.ne_of_gt n1, Nat.ne_of_lt (Nat.lt_succ_self _), Nat.ne_of_gt n2⟩
theorem lnB {N dy g c f : Nat} (a : 185 < N) (b : N + 1 + 1 < dy) (h : dy < g) (h2 : g < c) (h3 : c < f) : (g ≠ N ∧ g ≠ N + 1 + 1 ∧ g ≠ 185 ∧ g ≠ dy) ∧ (c ≠ N ∧ c ≠ dy) ∧ (f ≠ N ∧ f ≠ dy ∧ N ≤ f) ∧ (185 ≠ dy ∧ N + 1 ≠ dy ∧ N + 1 + 1 ≠ dy) := by
  have n1 := Nat.lt_succ_self N
  have n2 := Nat.lt_trans n1 (Nat.lt_succ_self (N + 1))
  have d1 := Nat.lt_trans n2 b
  have g1 := Nat.lt_trans d1 h
  have g2 := Nat.lt_trans h h2
  have g3 := Nat.lt_trans g2 h3
  exact ⟨⟨Nat.ne_of_gt g1, Nat.ne_of_gt (Nat.lt_trans b h), Nat.ne_of_gt (Nat.lt_trans a g1), Nat.ne_of_gt h⟩, ⟨Nat.ne_of_gt (Nat.lt_trans d1 g2), Nat.ne_of_gt g2⟩, ⟨Nat.ne_of_gt (Nat.lt_trans d1 g3), Nat.ne_of_gt g3, Nat.le_of_lt (Nat.lt_trans d1 g3)⟩, Nat.ne_of_lt (Nat.lt_trans a d1), Nat.ne_of_lt (Nat.lt_trans (Nat.lt_succ_self (N + 1)) b), Nat.ne_of_lt b⟩
theorem lnC {N y dy g c f S x dx pb : Nat} (a : 185 < N) (b : N + 1 + 1 < y) (b' : N + 1 + 1 < dy) (h : dy < g) (h2 : g < c) (h3 : c < f) (h4 : f < S) (h5 : S ≤ x) (h6 : S ≤ dx) (h7 : S ≤ pb) : (f < x ∧ f < dx ∧ f < pb) ∧ N ≤ x ∧ N ≤ dx ∧ N ≤ y ∧ N ≤ dy ∧ N ≤ pb ∧ N ≤ f ∧ N ≤ g ∧ N ≤ c := by
  have n2 := Nat.lt_trans (Nat.lt_succ_self N) (Nat.lt_succ_self (N + 1))
  have d := Nat.le_of_lt (Nat.lt_trans n2 b')
  have g1 := Nat.le_trans d (Nat.le_of_lt h)
  have c1 := Nat.le_trans g1 (Nat.le_of_lt h2)
  have f1 := Nat.le_trans c1 (Nat.le_of_lt h3)
  have s1 := Nat.le_trans f1 (Nat.le_of_lt h4)
  exact ⟨⟨Nat.lt_of_lt_of_le h4 h5, Nat.lt_of_lt_of_le h4 h6, Nat.lt_of_lt_of_le h4 h7⟩, Nat.le_trans s1 h5, Nat.le_trans s1 h6, Nat.le_of_lt (Nat.lt_trans n2 b), d, Nat.le_trans s1 h7, f1, g1, c1⟩
theorem all10 {N x dx y dy pb f g ct cg kd : Nat} (h : N ≤ x ∧ N ≤ dx ∧ N ≤ y ∧ N ≤ dy ∧ N ≤ pb ∧ N ≤ f ∧ N ≤ g ∧ N ≤ kd) (hc : N ≤ ct) (hd : N ≤ cg) : ∀ a ∈ [x, dx, y, dy, pb, f, g, ct, cg, kd], N ≤ a := by
  obtain ⟨h1, h2, h3, h4, h5, h6, h7, h8⟩ := h
  intro a ha
  simp only [List.mem_cons, List.not_mem_nil, or_false] at ha
  rcases ha with rfl | rfl | rfl | rfl | rfl | rfl | rfl | rfl | rfl | rfl <;> assumption
theorem kc_keep (P : Params) : keepIn (kC P) (.ref 73) = true := by kernel_rfl
noncomputable abbrev envLex (L : Addr) : Env := envOfC (S "_law_lexer") (dS (st 20)) L 190 (.ref 189)
noncomputable def Bm (h : Heap) : Prop := ∃ ob, h.get? 4 = some ob ∧ ob.cls = .type "module" ∧ ob.dict = some builtinsNs ∧ ob.data = .plain
theorem Cx.hide {w : World} {h : Heap} (C : Cx w h) : Cx w (h.hide 185) := by
  refine ⟨fun a o m n => (Heap.hide_ne h n).trans (C.kin a o m n), ?_, ?_⟩
  · obtain ⟨mb, a, b⟩ := C.mb
    exact ⟨mb, a.at' fun o e => (Heap.hide_ne h (by decide)).trans e, b⟩
  · obtain ⟨m, a, b⟩ := C.nolimit
    exact ⟨m, a.at' fun o e => (Heap.hide_ne h (by decide)).trans e, b⟩
section
variable {w : World} {A : Around} {E : Value → Shared → Prop} {s : Shared} {k : Nat}
theorem Stt.ex185 {l : Lx} {env : Env} {ρ : Vars} {h h' : Heap} (T : Stt (lf w l env) [] ρ h) (hf : (ρ.all fun p => flatD p.2) = true) (hk : ∀ b o, b ≠ 185 → h.get? b = some o → h'.get? b = some o) (h0 : l.hb.get? 185 = none) (hl : env.locals ≠ 185) (hc : ∀ n c, env.cells.lookup n = some c → c ≠ 185) : Stt (lf w l env) [] ρ h' := by
  obtain ⟨m, hm⟩ := T.loc
  have hm : h.Ns env.locals m := hm
  refine ⟨T.cx, fun _ f => f.elim, fun b o e => hk b o (fun q => ?_) (T.keep b o e), T.en, ⟨m, hm.at' fun o e => hk _ o hl e⟩, T.above, T.cab, fun n c e => ?_, T.apart, (fun _ h => nomatch h), fun p hp => ?_⟩
  · have e : l.hb.get? b = some o := e
    rw [q, h0] at e; cases e
  · obtain ⟨v, o, e1, e2⟩ := T.cel n c e
    exact ⟨v, o, hk _ _ (hc n c e) e1, e2⟩
  · obtain ⟨v, H, r⟩ := T.vars p hp
    refine ⟨v, ⟨?_⟩, flat_ok (List.all_eq_true.mp hf p hp) r⟩
    rcases H.how with ⟨a, m', b, c⟩ | ⟨a, c, b, o, e1, e2⟩
    · exact .inl ⟨a, m', b.at' fun o e => hk _ o hl e, c⟩
    · exact .inr ⟨a, c, b, o, hk _ _ (hc _ _ b) e1, e2⟩
theorem Stt.exc {l : Lx} {env : Env} {ρ : Vars} {h h' : Heap} {ex : List Addr} (T : Stt (lf w l env) [] ρ h) (hf : (ρ.all fun p => flatD p.2) = true) (hk : ∀ b o, b ∉ ex → h.get? b = some o → h'.get? b = some o) (hx : ∀ b ∈ ex, l.hb.objs.size ≤ b ∧ b ≠ env.locals ∧ ∀ n c, env.cells.lookup n = some c → c ≠ b) : Stt (lf w l env) [] ρ h' := by
  have hl : env.locals ∉ ex := fun q => (hx _ q).2.1 rfl
  have hc : ∀ n c, env.cells.lookup n = some c → c ∉ ex := fun n c e q => (hx _ q).2.2 n c e rfl
  obtain ⟨m, hm⟩ := T.loc
  have hm : h.Ns env.locals m := hm
  refine ⟨T.cx, fun _ f => f.elim, fun b o e => hk b o (fun q => ?_) (T.keep b o e), T.en, ⟨m, hm.at' fun o e => hk _ o hl e⟩, T.above, T.cab, fun n c e => ?_, T.apart, (fun _ h => nomatch h), fun p hp => ?_⟩
  · have := Heap.lt_size e; have h2 := (hx b q).1; exact Nat.lt_irrefl _ (Nat.lt_of_lt_of_le this h2)
  · obtain ⟨v, o, e1, e2⟩ := T.cel n c e
    exact ⟨v, o, hk _ _ (hc n c e) e1, e2⟩
  · obtain ⟨v, H, r⟩ := T.vars p hp
    refine ⟨v, ⟨?_⟩, flat_ok (List.all_eq_true.mp hf p hp) r⟩
    rcases H.how with ⟨a, m', b, c⟩ | ⟨a, c, b, o, e1, e2⟩
    · exact .inl ⟨a, m', b.at' fun o e => hk _ o hl e, c⟩
    · exact .inr ⟨a, c, b, o, hk _ _ (hc _ _ b) e1, e2⟩
theorem nm1 {b c : Nat} (h : b ≠ c) : (b : Addr) ∉ [(c : Addr)] := fun m => h (List.mem_singleton.mp m)
theorem nm2 {b c d : Nat} (h : b ≠ c) (h' : b ≠ d) : (b : Addr) ∉ [(c : Addr), (d : Addr)] := fun m => by
  rcases List.mem_cons.mp m with m | m
  · exact h m
  · exact h' (List.mem_singleton.mp m)
theorem cls_call1 {env : Env} {pos : Pos} {e : Expr} {h₀ : Heap} {Q : Value → Shared → Prop} (X : (kC w.params).In h₀) (he : starEach [e] env = [(false, eval e env)])
    (h : wpAny (mo w) A (eval e env) (fun v s₁ => (kC w.params).In s₁.heap ∧ wpAny (mo w) A (call (.ref 73) [v]) Q E s₁) E s) : wpAny (mo w) A (callWith pos (.ref 73) [] (backTo pos (starEach [e] env)) (backToKw pos (keywordEach [] env))) Q E s := by
  refine callWith_KW (K := kC w.params) (e := e) (rest := []) (kws := []) X (kc_keep _) rfl ?_ (by rw [he]; rfl) (by rw [he]; rfl)
  rw [he]
  exact Calls.spliced_cons (wpAny_mono h (fun v s₁ x => Calls.spliced_nil (wpAny_pure ⟨x.1, x.2⟩)) fun _ _ e => e)
theorem lexer_call {text : Str} {tt : Tok} {Q : Value → Shared → Prop} (R : Rm (k + 3) A s.toks) (C : Cx w s.heap) (B : Bm s.heap) (h185 : s.heap.get? 185 = some (o185_32 w.params))
    (h : ∀ s' l, l.text = text → l.hb = s.heap.hide 185 → Ex [185] s s' → LexC w l s'.heap → LexV l 0 s'.heap → (∀ a ∈ l.all, (s.heap.objs.size : Nat) ≤ a) → (∃ more, s'.heap.get? 185 = some (tabObj more)) → Q (.ref l.x) s') : wpAny (mo w) A (call (.ref 190) [.str text tt]) Q E s := by
  have hrec : s.heap.CodeRec (.ref 189) (S "_law_lexer") := ⟨189, o189_32 w.params, _, _, rfl, C.kin 189 _ (kF_at 32 rfl) (by decide), rfl, rfl⟩
  refine wpAny_call (call_cellsT (name := S "_law_lexer") (params := dA (st 20)) (body := dB (st 20)) (scope := dS (st 20)) (pm := .str (S "law_to0073_01") 2347) (cd := .ref 189) (doc := .none) (binds := [(S "text", .str text tt)]) R.room (C.kin 190 _ (kF_at 33 rfl) (by decide)) rfl C.nolimit hrec rfl
    (fun x hx => by rw [List.mem_singleton.mp hx]; exact .inr ⟨rfl, rfl⟩) (fun h₁ tk htk F L => ?_) rfl rfl rfl)
  generalize hL : s.heap.objs.size = N at F L
  have Cb : Cx w (s.heap.hide 185) := C.hide
  have hhb : (s.heap.hide 185).objs.size = N := by rw [Heap.hide_size, hL]
  have T : Stt (lf w (lx0 (s.heap.hide 185)) (envLex N)) [] [(S "text", .dat (.str text))] h₁ := by
    refine Stt.lx (l := lx0 (s.heap.hide 185)) Cb (fun b o e => F.keep b o (Heap.of_hide e)) F.ns (Nat.le_of_eq hhb) ⟨rfl, rfl, rfl⟩ ?_ ?_ ?_ ?_
    · intro p hp
      have hp' : p = (S "gone", N + 1 + 1) ∨ p = (S "text", N + 1) := by
        have : p ∈ [(S "gone", N + 1 + 1), (S "text", N + 1)] := hp
        simpa using this
      rcases hp' with rfl | rfl
      · show (s.heap.hide 185).objs.size ≤ N + 1 + 1; rw [hhb]; exact Nat.le_succ_of_le (Nat.le_succ _)
      · show (s.heap.hide 185).objs.size ≤ N + 1; rw [hhb]; exact Nat.le_succ _
    · intro n c e; exact ⟨_, L.cell n c e⟩
    · exact L.apart
    · intro p hp
      rw [List.mem_singleton.mp hp]
      exact ⟨.str text tt, ⟨.inr ⟨rfl, N + 1, rfl, L.cell (S "text") (N + 1) rfl⟩⟩, .str _ _⟩
  have hgone : h₁.IsCell (N + 1 + 1) none := L.cell (S "gone") (N + 1 + 1) rfl
  have htext : h₁.IsCell (N + 1) (some (.str text tt)) := L.cell (S "text") (N + 1) rfl
  have R₁ : Rm (k + 2) (A.deeper (envLex N)) tk := (R.deeper _).up htk
  have h185₁ : h₁.get? 185 = some (o185_32 w.params) := F.keep _ _ h185
  -- stream = _netrclex(None)
  refine raw_cons (raw_assign (by rfl) (wpAny_Call_NameR (ev_lx R₁ T (Ev.glob rfl rfl rfl) fun v₂ s₂ t₂ r₂ => ?_)))
  obtain rfl : v₂ = .ref 73 := r₂
  have T₂ := T.keeps t₂.heap
  have R₂ := R₁.to t₂
  have C₂ : Cx w s₂.heap := Cb.keeps T₂.keep
  refine cls_call1 C₂.kc rfl (Constant_none (k := 0) (pos := ⟨150, 23, 150, 27⟩) ⟨C₂.kc, ?_⟩)
  have cg₂ : s₂.heap.IsCell (N + 1 + 1) none := hgone.keeps t₂.heap
  have hle₂ : (s.heap.hide 185).objs.size ≤ s₂.heap.objs.size := by
    obtain ⟨o, e, _⟩ := cg₂
    have := Heap.lt_size e
    rw [hhb]; exact Nat.le_of_lt (Nat.lt_trans (Nat.lt_trans (Nat.lt_succ_self _) (Nat.lt_succ_self _)) this)
  refine make_call (k := k) R₂ Cb T₂.keep hle₂ fun s₃ y dy h1 t1 h2 tt2 h3 t3 h4 t4 tl tw pb₀ n m t₃ ly ldy lpb nyd _ _ oy ody _ => ?_
  have T₃ := T₂.keeps t₃.heap
  refine store_lx (d := .val (.ref y)) T₃ (.inl rfl) rfl fun s₄ T₄ m₄ => ?_
  have e₄ : Ex [N] s₃ s₄ := m₄.ex fun x hx => by rw [List.mem_singleton.mp hx]; rfl
  have R₄ := (R₂.to t₃).up e₄.le
  have cgt : (N + 1 + 1 : Nat) < s₂.heap.objs.size := by obtain ⟨o, e, _⟩ := cg₂; exact Heap.lt_size e
  have n185 : (185 : Nat) < N := by rw [← hL]; exact Heap.lt_size h185
  obtain ⟨⟨yN, yC, yP, yL⟩, ⟨dN, dC, dP, dL⟩, ⟨pN, pC⟩, ⟨qN, qC⟩, ⟨tP, cP⟩, tN, tC, cN⟩ := lnA n185 cgt ly ldy
  have oy₄ := e₄.2 _ _ (nm1 yN) oy
  have ody₄ := e₄.2 _ _ (nm1 dN) ody
  -- gone = []
  refine raw_cons (raw_assign (by rfl) (nil_list ?_))
  obtain ⟨s₅, hs₅⟩ : ∃ s₅ : Shared, s₅ = ({ s₄ with heap := s₄.heap.push { cls := .type "list", data := .seq #[] } } : Shared) := ⟨_, rfl⟩
  refine at_state (s' := s₅) hs₅.symm ?_
  have t₅ : To s₄ s₅ := by rw [hs₅]; exact To.push _ _
  have hg₅ : IsL s₅.heap s₄.heap.objs.size #[] 0 := by rw [hs₅]; exact Heap.get?_push_size _ rfl
  have ltg : (dy : Nat) < s₄.heap.objs.size := Heap.lt_size ody₄
  have ltg' : (y : Nat) < s₄.heap.objs.size := Heap.lt_size oy₄
  generalize hgg : s₄.heap.objs.size = g at hg₅ ltg ltg'
  have T₅ := T₄.keeps t₅.heap
  refine store_lx (d := .val (.ref g)) T₅ (.inr ⟨rfl, 1, rfl⟩) rfl fun s₆ T₆ m₆ => ?_
  have e₆ : Ex [N, N + 1 + 1] s₅ s₆ := ⟨m₆.same, fun b o hb e => m₆.kept b o (fun q => by
    rcases q with q | ⟨x, hx, q, _⟩
    · exact hb (by rw [show b = N from q]; simp)
    · rw [List.mem_singleton.mp hx] at q
      have q : some (N + 1 + 1) = some b := q
      exact hb (by rw [← Option.some.inj q]; simp)) e⟩
  have cg₆ : s₆.heap.IsCell (N + 1 + 1) (some (.ref g)) := by
    obtain ⟨v, H, r⟩ := T₆.vars _ List.mem_cons_self
    obtain rfl : v = .ref g := r
    rcases H.how with ⟨a, _⟩ | ⟨_, c, b, e⟩
    · cases a
    · have b : some (N + 1 + 1) = some c := b
      rw [Option.some.inj b]; exact e
  have R₆ := (R₄.to t₅).up e₆.le
  have x₆ : ∀ {b : Nat} {o : Obj}, b ≠ N → b ≠ N + 1 + 1 → s₄.heap.get? b = some o → s₆.heap.get? b = some o := fun h h' e => e₆.2 _ _ (nm2 h h') (t₅.heap _ _ e)
  have oy₆ := x₆ yN yC oy₄
  have ody₆ := x₆ dN dC ody₄
  have g₆ : IsL s₆.heap g #[] 0 := e₆.2 _ _ (nm2 (Nat.ne_of_gt (Nat.lt_trans (Nat.lt_trans (Nat.lt_trans (Nat.lt_succ_self _) (Nat.lt_succ_self _)) dL) ltg)) (Nat.ne_of_gt (Nat.lt_trans dL ltg))) hg₅
  have old₆ : ∀ {b : Nat} {o : Obj}, b ≠ N → b ≠ N + 1 + 1 → h₁.get? b = some o → s₆.heap.get? b = some o := fun h h' e => x₆ h h' (e₄.2 _ _ (nm1 h) (t₃.heap _ _ (t₂.heap _ _ e)))
  have ct₆ : s₆.heap.IsCell (N + 1) (some (.str text tt)) := by obtain ⟨o, e, d⟩ := htext; exact ⟨o, old₆ tN tC e, d⟩
  have h185₆ : s₆.heap.get? 185 = some (tabObj #[]) := old₆ pN pC h185₁
  have C₆ : Cx w s₆.heap := Cb.keeps T₆.keep
  have bm₆ : ∃ ob, s₆.heap.get? 4 = some ob ∧ ob.cls = .type "module" ∧ ob.dict = some builtinsNs ∧ ob.data = .plain := by
    obtain ⟨ob, b1, b2⟩ := B
    exact ⟨ob, old₆ qN qC (F.keep _ _ b1), b2⟩
  obtain ⟨ob, b1, b2, b3, b4⟩ := bm₆
  have hd₆ : CodeHd s₆.heap 189 185 := ⟨o189_32 w.params, _, _, _, _, _, _, _, _, C₆.kin 189 _ (kF_at 32 rfl) (by decide), rfl, rfl, rfl, rfl, rfl, rfl, rfl, rfl, by decide⟩
  -- def _law_piece
  refine raw_cons (nestDef_K rfl rfl rfl (wpAny_with_toks (n := s₆.toks) (Nat.le_refl _) (makeFunction_K (mg := gmap w.params) (c := 189) (P := 185) (ps := #[]) (clos := [(S "text", N + 1), (S "gone", N + 1 + 1)]) rfl rfl C₆.main rfl hd₆ h185₆ trivial rfl (by decide) ⟨4, ob, rfl, by decide, by decide, by decide, b1, b2, b3, b4⟩ fun c' ctv doc h' tk' hx hge hlt hrec' htab => ?_)))
  intro htk'
  obtain ⟨cc, oc, cvs, ctk, ecc, hoc, hcd, hcv⟩ := hrec'
  obtain rfl : c' = cc := by cases ecc; rfl
  have ltg₆ : (g : Nat) < s₆.heap.objs.size := Heap.lt_size g₆
  obtain ⟨s₇, hs₇⟩ : ∃ s₇ : Shared, s₇ = ({ s₆ with heap := h'.push (fnMade (S "_law_piece") (qualnameIn (envLex N) (S "_law_piece") (S "_law_piece")) (dA pcSt) (dB pcSt) (dS pcSt) [(S "text", N + 1), (S "gone", N + 1 + 1)] doc ((gmap w.params "__name__").getD .none) c' ctv), toks := tk' } : Shared) := ⟨_, rfl⟩
  refine at_state (s' := s₇) hs₇.symm ?_
  have hf₇ : s₇.heap.get? h'.objs.size = some (fnMade (S "_law_piece") (qualnameIn (envLex N) (S "_law_piece") (S "_law_piece")) (dA pcSt) (dB pcSt) (dS pcSt) [(S "text", N + 1), (S "gone", N + 1 + 1)] doc ((gmap w.params "__name__").getD .none) c' ctv) := by rw [hs₇]; exact Heap.get?_push_size _ rfl
  have e₇ : Ex [185] s₆ s₇ := by
    rw [hs₇]
    exact ⟨⟨_, _, rfl, htk'⟩, fun b o hb e => Heap.get?_push_of_some _ (hx b o (fun q => hb (by rw [q]; simp)) e)⟩
  have hoc₇ : s₇.heap.get? c' = some oc := by rw [hs₇]; exact Heap.get?_push_of_some _ hoc
  have tab₇ : ∃ more, s₇.heap.get? 185 = some (tabObj more) := ⟨_, by rw [hs₇]; exact Heap.get?_push_of_some _ htab⟩
  generalize hff : h'.objs.size = f at hf₇ hlt
  have ltc : (g : Nat) < c' := Nat.lt_of_lt_of_le ltg₆ hge
  have hhid : (s.heap.hide 185).get? 185 = none := Heap.hide_self ..
  have T₇ := T₆.ex185 rfl (fun b o hb e => e₇.2 b o (fun m => hb (List.mem_singleton.mp m)) e) hhid (fun q => by have q : N = 185 := q; exact pN q.symm) (fun n c e => by
    intro q
    rcases List.mem_cons.mp (mem_of_lookup (show List.lookup n [(S "gone", N + 1 + 1), (S "text", N + 1)] = some c from e)) with m | m
    · cases m; have q : N + 1 + 1 = 185 := q; exact cP q
    · cases List.mem_singleton.mp m; have q : N + 1 = 185 := q; exact tP q)
  obtain ⟨⟨gN, _, gP, gd⟩, ⟨kN, kd⟩, ⟨fN, fd, fL⟩, pd, td, cd⟩ := lnB n185 dL ltg ltc hlt
  have oy₇ := e₇.2 _ _ (nm1 yP) oy₆
  have ody₇ := e₇.2 _ _ (nm1 dP) ody₆
  have g₇ : IsL s₇.heap g #[] 0 := e₇.2 _ _ (nm1 gP) g₆
  have ct₇ : s₇.heap.IsCell (N + 1) (some (.str text tt)) := by obtain ⟨o, e, d⟩ := ct₆; exact ⟨o, e₇.2 _ _ (nm1 tP) e, d⟩
  have cg₇ : s₇.heap.IsCell (N + 1 + 1) (some (.ref g)) := by obtain ⟨o, e, d⟩ := cg₆; exact ⟨o, e₇.2 _ _ (nm1 cP) e, d⟩
  have R₇ := R₆.up e₇.le
  refine store_lx (d := .val (.ref f)) T₇ (.inl rfl) rfl fun s₈ T₈ m₈ => ?_
  have e₈ : Ex [N] s₇ s₈ := m₈.ex fun x hx => by rw [List.mem_singleton.mp hx]; rfl
  have R₈ := R₇.up e₈.le
  have oy₈ := e₈.2 _ _ (nm1 yN) oy₇
  have ody₈ := e₈.2 _ _ (nm1 dN) ody₇
  -- stream.read = _law_piece
  refine raw_cons (plainObj_wpAny_Assign_Attribute (val_lx R₈ T₈ rfl rfl fun s₉ t₉ => ?_) (by rfl))
  have T₉ := T₈.keeps t₉.heap
  refine val_lx (R₈.to t₉) T₉ rfl rfl fun s₁₀ t₁₀ => ?_
  have T₁₀ := T₉.keeps t₁₀.heap
  have k₁₀ : Kp s₈.heap s₁₀.heap := fun b o e => t₁₀.heap _ _ (t₉.heap _ _ e)
  refine set_d (Cb.keeps T₁₀.keep).kc (k₁₀ _ _ oy₈) (k₁₀ _ _ ody₈) (kc_t5 _) rfl (by simp) fun s₁₁ h5 t5 e₁₁ d₁₁ => ?_
  have d₁₁ : s₁₁.heap.get? dy = some (dictOf [⟨h1, .str "lineno" t1, .int 1 tl⟩, ⟨h2, .str "instream" tt2, .none⟩, ⟨h3, .str "whitespace" t3, .str wsS tw⟩, ⟨h4, .str "pushback" t4, .ref pb₀⟩, ⟨h5, .str "read" t5, .ref f⟩] (n + 1)) := d₁₁
  have T₁₁ := T₁₀.exc rfl e₁₁.2 (fun b hb => by
    rw [List.mem_singleton.mp hb]
    refine ⟨?_, (fun q => dN q), fun n c e => ?_⟩
    · show (s.heap.hide 185).objs.size ≤ dy
      rw [hhb]; exact Nat.le_of_lt (Nat.lt_trans (Nat.lt_trans (Nat.lt_succ_self _) (Nat.lt_succ_self _)) dL)
    · rcases List.mem_cons.mp (mem_of_lookup (show List.lookup n [(S "gone", N + 1 + 1), (S "text", N + 1)] = some c from e)) with m | m
      · cases m; intro q; have q : N + 1 + 1 = dy := q; exact cd q
      · cases List.mem_singleton.mp m; intro q; have q : N + 1 = dy := q; exact td q)
  have R₁₁ := ((R₈.to t₉).to t₁₀).up e₁₁.le
  -- return _netrclex(stream)
  refine wpAny_execs_cons (wpAny_Return_some (wpAny_Call_NameR (ev_lx R₁₁ T₁₁ (Ev.glob rfl rfl rfl) fun v₁₂ s₁₂ t₁₂ r₁₂ => ?_)))
  obtain rfl : v₁₂ = .ref 73 := r₁₂
  have T₁₂ := T₁₁.keeps t₁₂.heap
  refine cls_call1 (Cb.keeps T₁₂.keep).kc rfl (val_lx (R₁₁.to t₁₂) T₁₂ rfl rfl fun s₁₃ t₁₃ => ⟨(Cb.keeps (T₁₂.keeps t₁₃.heap).keep).kc, ?_⟩)
  have T₁₃ := T₁₂.keeps t₁₃.heap
  have k₁₃ : Kp s₁₁.heap s₁₃.heap := fun b o e => t₁₃.heap _ _ (t₁₂.heap _ _ e)
  -- what stands ahead of the lexer's own making
  have keep₁₃ : ∀ {b : Nat} {o : Obj}, b ≠ N → b ≠ dy → s₇.heap.get? b = some o → s₁₃.heap.get? b = some o := fun h h' e => k₁₃ _ _ (e₁₁.2 _ _ (nm1 h') (k₁₀ _ _ (e₈.2 _ _ (nm1 h) e)))
  have f₁₃ := keep₁₃ (b := f) fN fd hf₇
  have ltf : (f : Nat) < s₁₃.heap.objs.size := Heap.lt_size f₁₃
  have hle₁₃ : (s.heap.hide 185).objs.size ≤ s₁₃.heap.objs.size := by rw [hhb]; exact Nat.le_trans fL (Nat.le_of_lt ltf)
  refine make_call (k := k) ((R₁₁.to t₁₂).to t₁₃) Cb T₁₃.keep hle₁₃ fun s₁₄ x dx h1' t1' h2' t2' h3' t3' h4' t4' tl' tw' pb n' m' t₁₄ lx ldx lpb nxd nxp ndp ox odx opb => ?_
  have al14 : ∀ {b : Nat} {o : Obj}, b ≠ N → b ≠ dy → s₇.heap.get? b = some o → s₁₄.heap.get? b = some o := fun h h' e => t₁₄.heap _ _ (keep₁₃ h h' e)
  have LC := lnC n185 yL dL ltg ltc hlt ltf lx ldx lpb
  have A10 := all10 (ct := N + 1) (cg := N + 1 + 1) LC.2 (Nat.le_succ _) (Nat.le_trans (Nat.le_succ _) (Nat.le_succ _))
  refine h s₁₄ ⟨s.heap.hide 185, text, x, dx, y, dy, pb, f, g, N + 1, N + 1 + 1, c'⟩ rfl rfl ?_ ?_ ?_ ?_ (let ⟨more, e⟩ := tab₇; ⟨more, al14 (b := 185) pN pd e⟩)
  · have m1 : ∀ b ∈ [N], b ∈ [N, N + 1 + 1, 185, dy] := fun b m => by rw [List.mem_singleton.mp m]; simp
    have ee : Ex [N, N + 1 + 1, 185, dy] { s with heap := h₁, toks := tk } s₁₄ :=
      (((((((((((Ex.ofTo t₂).trans (Ex.ofTo t₃)).trans (e₄.mono m1)).trans (Ex.ofTo t₅)).trans (e₆.mono (fun b m => by rcases List.mem_cons.mp m with rfl | m; simp; rw [List.mem_singleton.mp m]; simp))).trans (e₇.mono (fun b m => by rw [List.mem_singleton.mp m]; simp))).trans (e₈.mono m1)).trans (Ex.ofTo t₉)).trans (Ex.ofTo t₁₀)).trans (e₁₁.mono (fun b m => by rw [List.mem_singleton.mp m]; simp))).trans (Ex.ofTo t₁₂)).trans (Ex.ofTo t₁₃) |>.trans (Ex.ofTo t₁₄)
    refine ⟨?_, fun b o hb eb => ee.2 b o (fun m => ?_) (F.keep _ _ eb)⟩
    · obtain ⟨⟨hh, tk2, e, q⟩, _⟩ := ee
      exact ⟨hh, tk2, e, Nat.le_trans htk q⟩
    · have ltb : (b : Nat) < N := by rw [← hL]; exact Heap.lt_size eb
      simp only [List.mem_cons, List.not_mem_nil, or_false] at m
      rcases m with m | m | m | m
      · rw [m] at ltb; exact Nat.lt_irrefl _ ltb
      · rw [m] at ltb; have ltb : (N + 1 + 1 : Nat) < N := ltb; exact absurd (Nat.lt_trans (Nat.lt_trans (Nat.lt_succ_self _) (Nat.lt_succ_self _)) ltb) (Nat.lt_irrefl _)
      · exact hb (by rw [m]; simp)
      · rw [m] at ltb; have ltb : (dy : Nat) < N := ltb; exact absurd (Nat.lt_trans (Nat.lt_trans (Nat.lt_trans (Nat.lt_succ_self _) (Nat.lt_succ_self _)) dL) ltb) (Nat.lt_irrefl _)
  · refine ⟨Cb, (T₁₃.keeps t₁₄.heap).keep, fun a ha => ?_, ox, t₁₄.heap _ _ (k₁₃ _ _ (e₁₁.2 _ _ (nm1 nyd) (k₁₀ _ _ oy₈))), ⟨_, _, t₁₄.heap _ _ (k₁₃ _ _ d₁₁), rfl⟩, ⟨m', opb⟩,
      ⟨_, _, doc, _, ctv, oc, cvs, ctk, al14 (b := f) fN fd hf₇, rfl, al14 (b := c') kN kd hoc₇, hcd, hcv⟩, ?_, ?_, nodup10 x dx y dy pb f g (N + 1) (N + 1 + 1) c' (Nat.lt_succ_self _) dL yL nyd ltg ltg' ltc hlt LC.1.2.1 LC.1.1 LC.1.2.2 nxd nxp ndp⟩
    · show (s.heap.hide 185).objs.size ≤ a
      rw [hhb]; exact A10 a ha
    · obtain ⟨o, e, d⟩ := ct₇; exact ⟨tt, o, al14 (b := N + 1) tN td e, d⟩
    · obtain ⟨o, e, d⟩ := cg₇; exact ⟨o, al14 (b := N + 1 + 1) cN cd e, d⟩
  · refine ⟨Nat.zero_le _, ⟨h1', t1', h2', t2', h3', t3', h4', t4', tl', tw', n', ?_⟩, #[], 0, al14 (b := g) gN gd g₇, rfl⟩
    have : lnOf text 0 = 1 := by simp [lnOf]
    rw [show lnOf (Lx.mk (s.heap.hide 185) text x dx y dy pb f g (N + 1) (N + 1 + 1) c').text 0 = 1 from this]
    exact odx
  · intro a ha
    rw [hL]; exact A10 a ha
end
end Mine
end
section
open PySem PySem.W PyProof.Rows PySem.Builtin PySem.Builtin.Str
namespace Mine
section
variable {w : World} {A : Around} {R : GenEnd} {Y : Protocol} {n : Nat} {s₀ : Shared} {c : Code} {fs : List Frame} {s : Shared} {env : Env}
  {K : Flow → Sem Fin} {H : Value → Sem Fin}
theorem seg_If {test : Expr} {body orelse : List Stmt} {pos : Pos} (h : wpAny (mo w) (A.over c fs) (isTrue test env (eval test env)) (fun b s' => Seg (mo w) A R Y n s₀ c ((execs (if b then body else orelse) env).wrap K H id id) fs s') (fun x s' => Seg (mo w) A R Y n s₀ c (H x) fs s') s) :
    Seg (mo w) A R Y n s₀ c ((exec (.If test body orelse pos) env).wrap K H id id) fs s := by
  rw [exec_If]
  show Seg (mo w) A R Y n s₀ c (.at pos fun _ => (isTrue test env (eval test env) >>= fun b => if b = true then execs body env else execs orelse env).wrap K H id id) fs s
  refine seg_at ?_
  rw [Sem.bind_eq_wrap', Sem.wrap_wrap]
  refine seg_wrap (wpAny_mono h (fun b s' hb => ?_) fun _ _ x => x)
  cases b <;> exact hb
/-- the frame that a loop in a body leaves behind -/
noncomputable abbrev retOf (env : Env) (K : Flow → Sem Fin) (H : Value → Sem Fin) (c : Code) (p : Pos) : Frame :=
  .ret (fun r => ((match r with | .ok f => (.pure f : Sem Flow) | .error e => .raise e).onRaise fun (x : Value) => do
        if (← field x 1) == Value.none then unsupported "frame.own-activation:exception-without-traceback"
        setFlight x env.frame).wrap K H id id) none false [] c p []
theorem seg_For {target : Expr} {nx : Str} {np : Pos} {body orelse : List Stmt} {pos : Pos} (h : wpAny (mo w) (A.over c fs) (eval (.Name nx np) env) (fun x s₁ => wpAny (mo w) (A.over c fs) (pyIter x) (fun it s₂ =>
      ∀ p, Seg (mo w) A R Y n s₀ (.forLoop target it body orelse env) ((mo w).den (.forLoop target it body orelse env)) (retOf env K H c p :: fs) s₂)
      (fun x s' => Seg (mo w) A R Y n s₀ c (H x) fs s') s₁) (fun x s' => Seg (mo w) A R Y n s₀ c (H x) fs s') s) :
    Seg (mo w) A R Y n s₀ c ((exec (.For target (.Name nx np) body orelse pos) env).wrap K H id id) fs s := by
  rw [exec_For]
  show Seg (mo w) A R Y n s₀ c (.at pos fun _ => (eval (.Name nx np) env >>= fun x => (standAt (Expr.Name nx np).pos >>= fun _ => (holding [x] (pyIter x) >>= fun it => runOwn (.forLoop target it body orelse env) env))).wrap K H id id) fs s
  refine seg_at ?_
  rw [Sem.bind_eq_wrap', Sem.wrap_wrap]
  refine seg_wrap (wpAny_mono h (fun x s' hx => ?_) fun _ _ x => x)
  show Seg (mo w) A R Y n s₀ c (.at _ fun _ => (holding [x] (pyIter x) >>= fun it => runOwn (.forLoop target it body orelse env) env).wrap K H id id) fs s'
  refine seg_at ?_
  rw [Sem.bind_eq_wrap', Sem.wrap_wrap]
  refine seg_wrap (wpAny_holding (wpAny_mono hx (fun it s₂ h₂ => ?_) fun _ _ x => x))
  exact seg_call h₂
noncomputable abbrev kBody (target it : Expr → Value → Code) : Nat := 0
/-- what a turn of the for loop hands on -/
noncomputable abbrev kFor (target : Expr) (it : Value) (body orelse : List Stmt) (env : Env) : Flow → Sem Fin := fun f => match f with
  | .next | .cont => .pure (.again (.forLoop target it body orelse env))
  | .brk => .pure (.done .next)
  | .ret v => .pure (.done (.ret v))
noncomputable abbrev hNote (env : Env) : Value → Sem Fin := fun e => (do noteFrame e env; theTreesLotGoes e : Sem Unit).wrap (fun _ => .raise e) .raise id id
theorem seg_forLoop {x : Str} {xp : Pos} {it : Value} {body orelse : List Stmt}
    (h : wpAny (mo w) (A.over (.forLoop (.Name x xp) it body orelse env) fs) (pyNext it) (fun o s₁ => ∃ v, o = some v ∧ wpAny (mo w) (A.over (.forLoop (.Name x xp) it body orelse env) fs) (storeName env x v) (fun _ s₂ =>
        Seg (mo w) A R Y n s₀ (.forLoop (.Name x xp) it body orelse env) ((execs body env).wrap (kFor (.Name x xp) it body orelse env) (hNote env) id id) fs s₂) (fun _ _ => False) s₁) (fun _ _ => False) s) :
    Seg (mo w) A R Y n s₀ (.forLoop (.Name x xp) it body orelse env) ((mo w).den (.forLoop (.Name x xp) it body orelse env)) fs s := by
  show Seg _ A R Y n s₀ _ ((forTurn (.Name x xp) it body orelse env).onRaise (fun x => do noteFrame x env; theTreesLotGoes x)) fs s
  unfold forTurn
  rw [Sem.onRaise_eq_wrap]
  rw [Sem.bind_eq_wrap', Sem.wrap_wrap]
  refine seg_wrap (wpAny_standAt ?_)
  rw [Sem.bind_eq_wrap', Sem.wrap_wrap]
  refine seg_wrap (wpAny_onRaise (wpAny_mono h (fun o s₁ h₁ => ?_) fun _ _ f => f.elim))
  obtain ⟨v, rfl, h₁⟩ := h₁
  dsimp only
  rw [Sem.bind_eq_wrap', Sem.wrap_wrap]
  refine seg_wrap (wpAny_pure ?_)
  rw [Sem.bind_eq_wrap', Sem.wrap_wrap]
  refine seg_wrap (wpAny_assign_Name (wpAny_mono h₁ (fun _ s₂ h₂ => ?_) fun _ _ f => f.elim))
  rw [Sem.bind_eq_wrap', Sem.wrap_wrap]
  refine (congrArg (fun t => Seg (mo w) A R Y n s₀ (.forLoop (.Name x xp) it body orelse env) t fs s₂) ?_).mpr h₂
  refine Sem.wrap_congr _ _ _ (fun f => ?_) (fun e => ?_)
  · cases f <;> rfl
  · exact Sem.bind_eq_wrap _ _
end
end Mine
end
section
open PySem PySem.W PyProof.Rows PySem.Builtin PySem.Builtin.Str
namespace Mine
theorem Ev.globI {X : Fx} {k : Nat} {W : Own} {ρ : Vars} {x : Str} {pos : Pos} {i : Int} {t : Tok} (hk : X.env.kindOf x = some .globalImplicit) (hg : gmap X.w.params x = some (.int i t)) (hd : (x == ("__debug__" : Str)) = false) : Ev X k W ρ (.Name x pos) (.dat (.int i)) := fun A E s Q R T h =>
  (Ev.glob hk hg hd : Ev X k W ρ (.Name x pos) (.val (.int i t))) A E s Q R T fun v s' t' r => by
    obtain rfl : v = .int i t := r
    exact h _ _ t' (.int _ _)
noncomputable abbrev envG (L : Addr) : Env := callEnv (fnX (S "_grouping_intervals") (S "_grouping_intervals") (dA (st 4)) (dB (st 4)) (dS (st 4)) [] .none .none .none (.str (S "cpy313.locale") 194) none (.ref 34) .none) L 35
noncomputable def gFor : List Stmt := forBody (nth (dB (st 4)) 1)
noncomputable def gWhile : List Stmt := match nth (ifBody (nth gFor 1)) 1 with | .While _ b _ _ => b | _ => []
theorem Rm.over {k : Nat} {A : Around} {t : Nat} {c : Code} {fs : List Frame} (R : Rm (k + 4) A t) (hm : (marksOver fs (A.handled, A.handled)).1 = A.handled) (hd : frameCount (fs.map Frame.where_) + c.weight ≤ 4) (hu : unitsOf (fs.map Frame.where_) + c.cUnits ≤ 32) : Rm k (A.over c fs) t :=
  ⟨by show (marksOver fs (A.handled, A.handled)).1 = none; rw [hm]; exact R.handled, by have := R.depth; show A.depth + frameCount (fs.map Frame.where_) + c.weight + k < 900; omega, by have := R.units; show A.units + unitsOf (fs.map Frame.where_) + c.cUnits + 8 * k < 9000; omega, R.pos⟩
/-- what the generator keeps of the others' -/
noncomputable def EG (gl lim : Nat) (s s' : Shared) : Prop := (∃ h' tk, s' = { s with heap := h', toks := tk } ∧ s.toks ≤ tk) ∧ ∀ (b : Nat) o, b ≠ gl → b < lim → s.heap.get? b = some o → s'.heap.get? b = some o
theorem EG.refl (gl lim : Nat) (s : Shared) : EG gl lim s s := ⟨⟨s.heap, s.toks, by cases s; rfl, Nat.le_refl _⟩, fun _ _ _ _ e => e⟩
theorem EG.trans {gl lim : Nat} {s s₁ s₂ : Shared} (a : EG gl lim s s₁) (b : EG gl lim s₁ s₂) : EG gl lim s s₂ := by
  obtain ⟨⟨h, t, rfl, q⟩, k⟩ := a; obtain ⟨⟨h', t', rfl, q'⟩, k'⟩ := b
  exact ⟨⟨h', t', rfl, Nat.le_trans q q'⟩, fun c o h1 h2 e => k' c o h1 h2 (k c o h1 h2 e)⟩
theorem EG.ofTo {gl lim : Nat} {s s' : Shared} (t : To s s') : EG gl lim s s' := by obtain ⟨h, tk, rfl, k, q⟩ := t; exact ⟨⟨h, tk, rfl, q⟩, fun c o _ _ e => k c o e⟩
theorem EG.le {gl lim : Nat} {s s' : Shared} (a : EG gl lim s s') : s.toks ≤ s'.toks := by obtain ⟨⟨h, t, rfl, q⟩, k⟩ := a; exact q
/-- what the others keep of the generator's -/
noncomputable def GK (gl lim : Nat) (hb : Heap) (s s' : Shared) : Prop := (∀ (b : Nat) o, (b = gl ∨ lim ≤ b) → s.heap.get? b = some o → s'.heap.get? b = some o) ∧ Kp hb s'.heap ∧ s.toks ≤ s'.toks ∧ ∃ o, s'.heap.get? (lim - 1) = some o
/-- what a pull gives: j pulls are left behind it -/
noncomputable def Yp (ys : List Int) (gl lim : Nat) (hb : Heap) : Protocol := fun j s₀ v s kap => (∃ t, v = .int (ys.getD (2 - j) 0) t) ∧ 2 - j < ys.length ∧ EG gl lim s₀ s ∧ (j ≠ 0 → ∀ s'', GK gl lim hb s s'' → kap (.send .none) s'')
noncomputable def Rp (ys : List Int) (gl lim : Nat) : GenEnd := fun n s₀ r s₁ => r = .ok (.ret .none) ∧ ys.length + n = 3 ∧ EG gl lim s₀ s₁
/-- the generator between its statements -/
structure GF (w : World) (A : Around) (hb : Heap) (gl lim rw_ it : Nat) (vs : List Value) (ρ : Vars) (i : Nat) (s : Shared) : Prop where
  R : Rm 8 A s.toks
  T : Stt (lf w (lx0 hb) (envG gl)) [] ρ s.heap
  it_ : s.heap.IsListIter it rw_ i
  l : s.heap.IsList rw_ vs.toArray
  hl : lim ≤ it
  hrw : (rw_ : Nat) < lim
  hgl : gl < lim
  hrg : rw_ ≠ gl
  hbl : hb.objs.size ≤ lim
noncomputable def ρg (rw_ : Nat) (last : D) : Vars := [(Str.ofString "last_interval", last), (Str.ofString "grouping", .val (.ref rw_))]
noncomputable def ρi (rw_ : Nat) (last : D) (x : Int) : Vars := (Str.ofString "interval", .dat (.int x)) :: ρg rw_ last
section
variable {w : World} {A : Around} {hb : Heap} {gl lim rw_ it : Nat} {vs : List Value} {ρ : Vars} {i : Nat} {s s₀ : Shared}
theorem GF.less {ρ' : Vars} (g : GF w A hb gl lim rw_ it vs ρ i s) (h : Sub ρ' ρ) : GF w A hb gl lim rw_ it vs ρ' i s := { g with T := g.T.less h.mem }
theorem GF.to {s' : Shared} (g : GF w A hb gl lim rw_ it vs ρ i s) (t : To s s') : GF w A hb gl lim rw_ it vs ρ i s' :=
  ⟨g.R.to t, g.T.keeps t.heap, g.it_.at fun o e => t.heap _ _ e, g.l.at fun o e => t.heap _ _ e, g.hl, g.hrw, g.hgl, g.hrg, g.hbl⟩
theorem GF.gk {s' : Shared} (g : GF w A hb gl lim rw_ it vs ρ i s) (hf : (ρ.all fun p => flatD p.2) = true) (k : GK gl lim hb s s') (hl' : s'.heap.IsList rw_ vs.toArray) : GF w A hb gl lim rw_ it vs ρ i s' := by
  refine ⟨g.R.up k.2.2.1, ?_, g.it_.at fun o e => k.1 _ _ (.inr g.hl) e, hl', g.hl, g.hrw, g.hgl, g.hrg, g.hbl⟩
  obtain ⟨m, hm⟩ := g.T.loc
  have hm : s.heap.Ns gl m := hm
  refine ⟨g.T.cx, fun _ f => f.elim, k.2.1, g.T.en, ⟨m, hm.at' fun o e => k.1 _ _ (.inl rfl) e⟩, g.T.above, g.T.cab, (fun n c e => nomatch e), g.T.apart, (fun _ h => nomatch h), fun p hp => ?_⟩
  obtain ⟨v, H, r⟩ := g.T.vars p hp
  refine ⟨v, ⟨?_⟩, flat_ok (List.all_eq_true.mp hf p hp) r⟩
  rcases H.how with ⟨a, m', b, c⟩ | ⟨a, c, b, _⟩
  · exact .inl ⟨a, m', b.at' fun o e => k.1 _ _ (.inl rfl) e, c⟩
  · cases b
theorem GF.store {s' : Shared} {ρ' : Vars} {xs : List Str} (g : GF w A hb gl lim rw_ it vs ρ i s) (m : Sv (lf w (lx0 hb) (envG gl)) xs s s') (T' : Stt (lf w (lx0 hb) (envG gl)) [] ρ' s'.heap) : GF w A hb gl lim rw_ it vs ρ' i s' ∧ EG gl lim s s' := by
  have e := m.ex fun x hx => rfl
  have ne1 : it ≠ gl := fun q => by have := g.hl; have := g.hgl; omega
  exact ⟨⟨g.R.up e.le, T', g.it_.at fun o eo => e.2 _ _ (nm1 ne1) eo, g.l.at fun o eo => e.2 _ _ (nm1 g.hrg) eo, g.hl, g.hrw, g.hgl, g.hrg, g.hbl⟩, e.1, fun b o h1 h2 eo => e.2 b o (nm1 h1) eo⟩
end
end Mine
end
section
open PySem PySem.W PyProof.Rows PySem.Builtin PySem.Builtin.Str
namespace Mine
noncomputable abbrev cF (gl it : Addr) : Code := .forLoop (.Name (S "interval") ⟨10, 8, 10, 16⟩) (.ref it) gFor [] (envG gl)
section
variable {w : World} {A : Around} {hb : Heap} {gl lim rw_ it : Nat} {vs : List Value} {i : Nat} {s s₀ : Shared} {ys : List Int} {K : Flow → Sem Fin} {H : Value → Sem Fin} {p : Pos} {c0 : Code}
theorem gen_item {x : Int} {t : Tok} {n : Nat} {last : D} {R : GenEnd} {Y : Protocol} (hw : c0.weight = 1) (hu : c0.cUnits = 3) (hlast : flatD last = true) (g : GF w A hb gl lim rw_ it vs (ρg rw_ last) i s) (e : EG gl lim s₀ s) (hx : vs[i]? = some (.int x t))
    (h : ∀ s', GF w A hb gl lim rw_ it vs (ρi rw_ last x) (i + 1) s' → EG gl lim s₀ s' → Seg (mo w) A R Y n s₀ (cF gl it) ((execs gFor (envG gl)).wrap (kFor (.Name (S "interval") ⟨10, 8, 10, 16⟩) (.ref it) gFor [] (envG gl)) (hNote (envG gl)) id id) [retOf (envG gl) K H c0 p] s') :
    Seg (mo w) A R Y n s₀ (cF gl it) ((mo w).den (cF gl it)) [retOf (envG gl) K H c0 p] s := by
  refine seg_forLoop (wpAny_pyNext_list_item g.it_ g.l (by simpa using hx) (fun h' hit hs => ⟨_, rfl, ?_⟩))
  have ne1 : (it : Nat) ≠ gl := fun q => by have := g.hl; have := g.hgl; omega
  have ne2 : (it : Nat) ≠ rw_ := fun q => by have := g.hl; have := g.hrw; omega
  have T' : Stt (lf w (lx0 hb) (envG gl)) [] (ρg rw_ last) h' := g.T.exl (ex := [it]) rfl (by show (flatD last && (true && true)) = true; rw [hlast]; rfl) (fun b o hb e => hs.extBut b o (fun q => hb (by rw [q]; simp)) e) fun b hbm => by
    rw [List.mem_singleton.mp hbm]
    exact ⟨by have := g.hl; have := g.hbl; show hb.objs.size ≤ it; omega, ne1⟩
  have g' : GF w A hb gl lim rw_ it vs (ρg rw_ last) (i + 1) { s with heap := h' } := ⟨g.R, T', hit, g.l.at fun o e => hs.extBut _ _ (Ne.symm ne2) e, g.hl, g.hrw, g.hgl, g.hrg, g.hbl⟩
  have e' : EG gl lim s { s with heap := h' } := ⟨⟨h', s.toks, rfl, Nat.le_refl _⟩, fun b o _ h2 eo => hs.extBut _ _ (fun q => by have q : b = it := q; have := g.hl; omega) eo⟩
  refine store_lx (d := .dat (.int x)) g'.T (.inl rfl) (.int _ _) fun s₂ T₂ m₂ => ?_
  obtain ⟨g₂, e₂⟩ := g'.store m₂ T₂
  exact h s₂ (g₂.less ⟨rfl, rfl, rfl, trivial⟩) ((e.trans e').trans e₂)
theorem over_for (hw : c0.weight = 1) (hu : c0.cUnits = 3) (R : Rm 8 A s.toks) : Rm 4 (A.over (cF gl it) [retOf (envG gl) K H c0 p]) s.toks :=
  R.over rfl (by show frameCount [(c0, p)] + 0 ≤ 4; rw [frameCount_cons, hw]; decide) (by show unitsOf [(c0, p)] + 0 ≤ 32; rw [unitsOf_cons, hu]; decide)
/-- a size that is handed out -/
theorem gen_step {x : Int} {t : Tok} {n : Nat} {last : D} (hw : c0.weight = 1) (hu : c0.cUnits = 3) (hlast : flatD last = true) (g : GF w A hb gl lim rw_ it vs (ρg rw_ last) i s) (e : EG gl lim s₀ s) (hx : vs[i]? = some (.int x t)) (h127 : x ≠ 127) (h0 : x ≠ 0) (hy : ys.getD (2 - n) 0 = x) (hlen : 2 - n < ys.length) (hrow : hb.IsList rw_ vs.toArray)
    (next : n ≠ 0 → ∀ s'' s₃, EG gl lim s'' s₃ → GF w A hb gl lim rw_ it vs (ρg rw_ (.dat (.int x))) (i + 1) s₃ → Seg (mo w) A (Rp ys gl lim) (Yp ys gl lim hb) n s'' (cF gl it) ((mo w).den (cF gl it)) [retOf (envG gl) K H c0 p] s₃) :
    Seg (mo w) A (Rp ys gl lim) (Yp ys gl lim hb) (n + 1) s₀ (cF gl it) ((mo w).den (cF gl it)) [retOf (envG gl) K H c0 p] s := by
  refine gen_item hw hu hlast g e hx fun s₁ g₁ e₁ => ?_
  have o := fun (s' : Shared) (R : Rm 8 A s'.toks) => over_for (gl := gl) (it := it) (K := K) (H := H) (p := p) hw hu R
  refine seg_execs_cons (seg_If (tst_lx (o _ g₁.R) g₁.T (Tst.to (Tst.cmpD (Ev.name rfl rfl) (Ev.globI rfl rfl rfl) (Cmp.eqI x 127) rfl) (d' := false) (by simpa using h127)) fun s₂ t₂ => ?_))
  refine seg_execs_nil ?_
  have g₂ := g₁.to t₂
  refine seg_execs_cons (seg_If (tst_lx (o _ g₂.R) g₂.T (Tst.to (Tst.cmpD (Ev.name rfl rfl) Ev.int (Cmp.eqI x 0) rfl) (d' := false) (by simpa using h0)) fun s₃ t₃ => ?_))
  refine seg_execs_nil ?_
  have g₃ := g₂.to t₃
  refine seg_execs_cons (seg_Expr_Yield rfl rfl rfl (ev_lx (o _ g₃.R) g₃.T (Ev.name rfl rfl) fun v s₄ t₄ rv => ?_))
  change Rd _ _ _ _ at rv
  cases rv with
  | int _ tv =>
  intro kap hk
  have g₄ := g₃.to t₄
  refine ⟨⟨tv, by rw [hy]⟩, hlen, ((e₁.trans (EG.ofTo t₂)).trans (EG.ofTo t₃)).trans (EG.ofTo t₄), fun hn s'' gk => hk .none s'' ?_⟩
  have g₅ := g₄.gk (by show (true && (flatD last && (true && true))) = true; rw [hlast]; rfl) gk (hrow.at fun o e => gk.2.1 _ _ e)
  show Seg _ _ _ _ _ _ _ _ _ _
  refine seg_execs_cons (seg_wrap (raw_assign (by rfl) (ev_lx (o _ g₅.R) g₅.T (Ev.name rfl rfl) fun v₆ s₆ t₆ r₆ => ?_)))
  have g₆ := g₅.to t₆
  refine store_lx (d := .dat (.int x)) g₆.T (.inl rfl) r₆ fun s₇ T₇ m₇ => ?_
  obtain ⟨g₇, e₇⟩ := g₆.store m₇ T₇
  refine seg_execs_nil (seg_again rfl (next hn s'' s₇ ((EG.ofTo t₆).trans e₇) (g₇.less ⟨rfl, rfl, trivial⟩)))
end
end Mine
end
section
open PySem PySem.W PyProof.Rows PySem.Builtin PySem.Builtin.Str
namespace Mine
section
variable {w : World} {A : Around} {hb : Heap} {gl lim rw_ it : Nat} {vs : List Value} {i : Nat} {s s₀ : Shared} {ys : List Int} {K : Flow → Sem Fin} {H : Value → Sem Fin} {p : Pos} {c0 : Code}
/-- 127: no more -/
theorem gen_stop {t : Tok} {n : Nat} {last : D} (hlen : ys.length + n = 3) (hw : c0.weight = 1) (hu : c0.cUnits = 3) (hK : K (.ret .none) = .pure (.done (.ret .none))) (hlast : flatD last = true) (g : GF w A hb gl lim rw_ it vs (ρg rw_ last) i s) (e : EG gl lim s₀ s) (hx : vs[i]? = some (.int 127 t)) :
    Seg (mo w) A (Rp ys gl lim) (Yp ys gl lim hb) n s₀ (cF gl it) ((mo w).den (cF gl it)) [retOf (envG gl) K H c0 p] s := by
  refine gen_item hw hu hlast g e hx fun s₁ g₁ e₁ => ?_
  have o := fun (s' : Shared) (R : Rm 8 A s'.toks) => over_for (gl := gl) (it := it) (K := K) (H := H) (p := p) hw hu R
  refine seg_execs_cons (seg_If (tst_lx (o _ g₁.R) g₁.T (Tst.to (Tst.cmpD (Ev.name rfl rfl) (Ev.globI rfl rfl rfl) (Cmp.eqI 127 127) rfl) (d' := true) rfl) fun s₂ t₂ => ?_))
  refine seg_execs_cons (seg_wrap (wpAny_Return_none ?_))
  show Seg (mo w) A (Rp ys gl lim) (Yp ys gl lim hb) n s₀ (cF gl it) (leafOf (.ok (.ret .none))) [retOf (envG gl) K H c0 p] s₂
  refine seg_leaf (.ok (.ret .none)) ?_
  show Seg (mo w) A (Rp ys gl lim) (Yp ys gl lim hb) n s₀ c0 (K (.ret .none)) [] s₂
  rw [hK]
  exact seg_end (.ok (.ret .none)) ⟨rfl, hlen, e₁.trans (EG.ofTo t₂)⟩
/-- 0: the last one for ever -/
theorem gen_zero {t : Tok} {l0 : Int} (hw : c0.weight = 1) (hu : c0.cUnits = 3) (g : GF w A hb gl lim rw_ it vs (ρg rw_ (.dat (.int l0))) i s) (e : EG gl lim s₀ s) (hx : vs[i]? = some (.int 0 t)) (hy : ys.getD 2 0 = l0) (hlen : 2 < ys.length) :
    Seg (mo w) A (Rp ys gl lim) (Yp ys gl lim hb) (0 + 1) s₀ (cF gl it) ((mo w).den (cF gl it)) [retOf (envG gl) K H c0 p] s := by
  refine gen_item hw hu rfl g e hx fun s₁ g₁ e₁ => ?_
  have o := fun (s' : Shared) (R : Rm 8 A s'.toks) => over_for (gl := gl) (it := it) (K := K) (H := H) (p := p) hw hu R
  refine seg_execs_cons (seg_If (tst_lx (o _ g₁.R) g₁.T (Tst.to (Tst.cmpD (Ev.name rfl rfl) (Ev.globI rfl rfl rfl) (Cmp.eqI 0 127) rfl) (d' := false) rfl) fun s₂ t₂ => ?_))
  refine seg_execs_nil ?_
  have g₂ := g₁.to t₂
  refine seg_execs_cons (seg_If (tst_lx (o _ g₂.R) g₂.T (Tst.to (Tst.cmpD (Ev.name rfl rfl) Ev.int (Cmp.eqI 0 0) rfl) (d' := true) rfl) fun s₃ t₃ => ?_))
  have g₃ := g₂.to t₃
  refine seg_execs_cons (seg_If (tst_lx (o _ g₃.R) g₃.T (Tst.cmpD (Ev.name rfl rfl) Ev.nil (Cmp.isNone _) rfl) fun s₄ t₄ => ?_))
  refine seg_execs_nil ?_
  have g₄ := g₃.to t₄
  refine seg_execs_cons (seg_While fun p2 => seg_whileLoop ?_)
  refine isTrue_plain (wpAny_Constant_bool (wpAny_truthy_bool ?_)) (by rfl)
  rw [if_pos rfl]
  refine seg_execs_cons (seg_Expr_Yield rfl rfl rfl (ev_lx (k := 4) ?_ g₄.T (Ev.name rfl rfl) fun v s₅ t₅ rv => ?_))
  · exact g₄.R.over rfl (by show frameCount [(cF gl it, p2), (c0, p)] + 0 ≤ 4; rw [frameCount_cons, frameCount_cons, hw]; show 0 + (1 + 0) + 0 ≤ 4; decide) (by show unitsOf [(cF gl it, p2), (c0, p)] + 0 ≤ 32; rw [unitsOf_cons, unitsOf_cons, hu]; show 0 + (3 + 0) + 0 ≤ 32; decide)
  change Rd _ _ _ _ at rv
  cases rv with
  | int _ tv =>
  intro kap hk
  exact ⟨⟨tv, by rw [hy]⟩, hlen, (((e₁.trans (EG.ofTo t₂)).trans (EG.ofTo t₃)).trans (EG.ofTo t₄)).trans (EG.ofTo t₅), fun hn => absurd rfl hn⟩
/-- the rows of sizes -/
noncomputable def rowG (m : Nat) (f s : Int) : List Int := match m with | 0 => [f, s, 0, 3] | 1 => [f, s, 127, 3] | _ => [f, s, 1]
noncomputable def dueG (m : Nat) (f s : Int) : List Int := match m with | 0 => [f, s, s] | 1 => [f, s] | _ => [f, s, 1]
/-- the whole generator: three pulls -/
theorem gen_start {f sx : Int} {m : Nat} (hf : 1 ≤ f ∧ f ≤ 3) (hs : 1 ≤ sx ∧ sx ≤ 3) (hvs : ∃ N h, RdAll N h vs (intsD (rowG m f sx))) (hys : ys = dueG m f sx) (hrow : hb.IsList rw_ vs.toArray) (R : Rm 8 A s.toks)
    (T : Stt (lf w (lx0 hb) (envG gl)) [] [(S "grouping", .val (.ref rw_))] s.heap) (hrw : (rw_ : Nat) < lim) (hgl : gl < lim) (hrg : rw_ ≠ gl) (hbl : hb.objs.size ≤ lim) (htop : 0 < lim ∧ (lim - 1 ≠ gl) ∧ ∃ o, s.heap.get? (lim - 1) = some o) :
    Seg (mo w) A (Rp ys gl lim) (Yp ys gl lim hb) 3 s (.func (dB (st 4)) (envG gl)) ((mo w).den (.func (dB (st 4)) (envG gl))) [] s := by
  have hw : (Code.func (dB (st 4)) (envG gl)).weight = 1 := rfl
  have hu : (Code.func (dB (st 4)) (envG gl)).cUnits = 3 := rfl
  have o := fun (s' : Shared) (R : Rm 8 A s'.toks) => (R.over (k := 4) (c := .func (dB (st 4)) (envG gl)) (fs := []) rfl (by rw [hw]; decide) (by rw [hu]; decide))
  refine seg_func ?_
  refine seg_execs_cons (seg_wrap (raw_assign (by rfl) (ev_lx (o _ R) T Ev.nil fun v s₁ t₁ r₁ => ?_)))
  refine store_lx (d := .dat .none) (T.keeps t₁.heap) (.inl rfl) r₁ fun s₂ T₂ m₂ => ?_
  have e₂ : Ex [gl] s₁ s₂ := m₂.ex fun x hx => rfl
  have R₂ := (R.to t₁).up e₂.le
  refine seg_execs_cons (seg_For (val_lx (o _ R₂) T₂ rfl rfl fun s₃ t₃ => ?_))
  have T₃ := T₂.keeps t₃.heap
  have hl₃ : s₃.heap.IsList rw_ vs.toArray := hrow.at fun o e => T₃.keep _ _ e
  refine wpAny_pyIter_list hl₃ ?_
  have eg₃ : EG gl lim s s₃ := ((EG.ofTo t₁).trans ⟨e₂.1, fun b o h1 _ eo => e₂.2 b o (nm1 h1) eo⟩).trans (EG.ofTo t₃)
  have hsz : lim ≤ s₃.heap.objs.size := by
    obtain ⟨h0, hne, ob, ho⟩ := htop
    have := Heap.lt_size (eg₃.2 (lim - 1) ob hne (by omega) ho)
    have : (lim - 1 : Nat) < s₃.heap.objs.size := this
    omega
  intro p
  obtain ⟨N, hh, hrd⟩ := hvs
  have at_ : ∀ (i : Nat) (x : Int), (rowG m f sx)[i]? = some x → ∃ t, vs[i]? = some (.int x t) := fun i x hx => by
    have hd : (intsD (rowG m f sx))[i]? = some (.int x) := by unfold intsD; rw [List.getElem?_map, hx]; rfl
    obtain ⟨v, hv, rv⟩ := hrd.get i hd
    cases rv with
    | int _ t => exact ⟨t, hv⟩
  have t₄ : To s₃ { s₃ with heap := s₃.heap.push { cls := .type "list_iterator", data := .fields #[.ref rw_, .int 0 0] } } := To.push _ _
  have g₄ : GF w A hb gl lim rw_ s₃.heap.objs.size vs (ρg rw_ (.dat .none)) 0 { s₃ with heap := s₃.heap.push { cls := .type "list_iterator", data := .fields #[.ref rw_, .int 0 0] } } :=
    ⟨((R₂.to t₃).to t₄), (T₃.keeps t₄.heap).less (Sub.mem ⟨rfl, rfl, trivial⟩), ⟨_, Heap.get?_push_size _ rfl, rfl, rfl⟩, hl₃.push _, hsz, hrw, hgl, hrg, hbl⟩
  have e₄ := eg₃.trans (EG.ofTo t₄)
  obtain ⟨t0, h0⟩ := at_ 0 f (by unfold rowG; split <;> rfl)
  obtain ⟨t1, h1⟩ := at_ 1 sx (by unfold rowG; split <;> rfl)
  refine gen_step (n := 2) hw hu rfl g₄ e₄ h0 (by omega) (by omega) (by subst hys; unfold dueG; split <;> rfl) (by subst hys; unfold dueG; split <;> simp) hrow fun _ s₅ s₆ e₆ g₆ => ?_
  refine gen_step (n := 1) hw hu rfl g₆ e₆ h1 (by omega) (by omega) (by subst hys; unfold dueG; split <;> rfl) (by subst hys; unfold dueG; split <;> simp) hrow fun _ s₇ s₈ e₈ g₈ => ?_
  rcases m with _ | _ | m
  · obtain ⟨t2, h2⟩ := at_ 2 0 rfl
    exact gen_zero hw hu g₈ e₈ h2 (by subst hys; rfl) (by subst hys; simp [dueG])
  · obtain ⟨t2, h2⟩ := at_ 2 127 rfl
    exact gen_stop (by subst hys; rfl) hw hu rfl rfl g₈ e₈ h2
  · obtain ⟨t2, h2⟩ := at_ 2 1 rfl
    exact gen_step (n := 0) hw hu rfl g₈ e₈ h2 (by decide) (by decide) (by subst hys; rfl) (by subst hys; simp [dueG]) hrow fun hn => absurd rfl hn
end
end Mine
end
section
open PySem PySem.W PyProof.Rows PySem.Builtin PySem.Builtin.Str
open Sem (wp)
namespace Mine
noncomputable abbrev zg1 (h : Heap) : Heap := h.push { cls := .type "range_iterator", data := .fields #[rawInt 0, rawInt (Builtin.Range.rangeSize 0 3 1), rawInt 1] }
noncomputable abbrev zg2 (h : Heap) (ga : Addr) : Heap := (zg1 h).push { cls := .type "tuple", data := .seq #[.ref h.objs.size, .ref ga] }
noncomputable abbrev zg3 (h : Heap) (ga : Addr) : Heap := (zg2 h ga).push { cls := .type "tuple", data := .seq #[.none, .none] }
noncomputable abbrev zg4 (h : Heap) (ga : Addr) : Heap := (zg3 h ga).push { cls := .type "zip", data := .fields #[.none, .bool false, .bool false, .ref (zg1 h).objs.size, .ref (zg2 h ga).objs.size] }
theorem meets_zip_rg (r ga : Addr) (t u v : Tok) (gn : Nat) :
    Meets (Builtin.«zip.__new__» ⟨[.type "zip", .ref r, .ref ga], []⟩) (fun _ R s => IsRange s.heap r 0 3 1 t u v ∧ s.heap.IsGen ga gn ∧
      R (.ok (.ret (.ref (zg3 s.heap ga).objs.size))) { s with heap := zg4 s.heap ga }) :=
  .of_wp fun prog w A R s h => by
    obtain ⟨hp, g, d, tk, os⟩ := s; obtain ⟨hl1, hl2, h⟩ := h
    have hsub := sub_zip
    have hL1 : IsRange (Shared.heap ⟨hp, g, d, tk, os⟩) r 0 3 1 t u v := hl1
    have hL2 : Heap.IsGen (Shared.heap ⟨zg1 hp, g, d, tk, os⟩) ga gn := Heap.IsGen.push hl2 _
    wp_walk using wpAny_pyIter_range hL1 (by decide), wpAny_pyIter_gen hL2
    exact ⟨_, rfl, h⟩
section
variable {prog : Program} {w : World} {A : Around} {E : Value → Shared → Prop} {s : Shared}
theorem call_zip_rg {r ga : Addr} {t u v : Tok} {gn : Nat} {Q : Value → Shared → Prop} (hr : IsRange s.heap r 0 3 1 t u v) (hg : s.heap.IsGen ga gn)
    (h : ∀ h', IsZip h' (s.heap.objs.size + 3) (s.heap.objs.size + 1) (s.heap.objs.size + 2) .none → IsPair h' (s.heap.objs.size + 1) (.ref s.heap.objs.size) (.ref ga) →
      IsPair h' (s.heap.objs.size + 2) .none .none → IsRangeIter h' s.heap.objs.size 0 3 1 → h'.objs.size = s.heap.objs.size + 4 →
      (∀ c o, s.heap.get? c = some o → h'.get? c = some o) → Q (.ref (s.heap.objs.size + 3)) { s with heap := h' }) :
    wpAny (model prog w) A (call (.type "zip") [.ref r, .ref ga]) Q E s := by
  refine callType_new F.called_zip (by decide) (F.typeCall_zip_2 _ _) (F.newCall_zip_2 _ _) (fun obj => F.args_object_init_3 obj _ _) F.entry_zip_new
    (meets_zip_rg r ga t u v gn) ⟨hr, hg, ?_⟩
  have z1 : (zg1 s.heap).objs.size = s.heap.objs.size + 1 := Heap.size_push ..
  have z2 : (zg2 s.heap ga).objs.size = s.heap.objs.size + 2 := by rw [Heap.size_push, z1]
  have z3 : (zg3 s.heap ga).objs.size = s.heap.objs.size + 3 := by rw [Heap.size_push, z2]
  have z4 : (zg4 s.heap ga).objs.size = s.heap.objs.size + 4 := by rw [Heap.size_push, z3]
  have g4 : (zg4 s.heap ga).get? (zg3 s.heap ga).objs.size = some _ := Heap.get?_push_size _ rfl
  have g3 : (zg4 s.heap ga).get? (zg2 s.heap ga).objs.size = some _ := Heap.get?_push_of_some _ (Heap.get?_push_size _ rfl)
  have g2 : (zg4 s.heap ga).get? (zg1 s.heap).objs.size = some _ := Heap.get?_push_of_some _ (Heap.get?_push_of_some _ (Heap.get?_push_size _ rfl))
  have g1 : (zg4 s.heap ga).get? s.heap.objs.size = some _ := Heap.get?_push_of_some _ (Heap.get?_push_of_some _ (Heap.get?_push_of_some _ (Heap.get?_push_size _ rfl)))
  show _ ∧ _
  rw [z1, z2, z3] at g4
  rw [z1] at g2
  rw [z2] at g3
  rw [z3]
  exact ⟨⟨_, g4, rfl⟩, h _ g4 g2 g3 g1 z4 fun c o x =>
    Heap.get?_push_of_some _ (Heap.get?_push_of_some _ (Heap.get?_push_of_some _ (Heap.get?_push_of_some _ x)))⟩
theorem nextOf_range_item {it : Addr} {x left step : Int} {Q : Value → Shared → Prop} (hit : IsRangeIter s.heap it x left step) (hleft : 0 < left)
    (hQ : ∀ h', IsRangeIter h' it (x + step) (left - 1) step → Heap.SameBut it s.heap h' → Q (.int x s.toks) { s with heap := h', toks := s.toks + 1 }) :
    wpAny (model prog w) A (Builtin.SmallTypes.nextOf (.ref it)) Q E s := by
  have hT : s.TypeIs (.ref it) "range_iterator" := ⟨_, hit, rfl⟩
  unfold Builtin.SmallTypes.nextOf
  refine wpAny_bind (wpAny_callSpecial?_slot (name := Str.ofString "__next__") hT F.slot_range_iterator_next
    (call_meets F.slot_range_iterator_next hT F.entry_range_iterator_next (F.args_range_iterator_next_1 _) (AutoRange.range_iterator___next___range_iterator_1 it x left step (by omega)) ⟨hit, ?_⟩))
  exact wpAny_pure (hQ _ (Heap.get?_update_self _ (Heap.get?_update_self _ hit rfl) rfl) ((Heap.SameBut.update ..).trans (Heap.SameBut.update ..)))
theorem nextOf_range_end {it : Addr} {x left step : Int} {Q : Value → Shared → Prop} (hh : A.handled = none) (hit : IsRangeIter s.heap it x left step) (hleft : left ≤ 0)
    (hE : ∀ h' e, Heap.ExtBut it s.heap h' → (∃ o, h'.get? e = some o ∧ o.cls = .type "StopIteration") → E (.ref e) { s with heap := h' }) : wpAny (model prog w) A (Builtin.SmallTypes.nextOf (.ref it)) Q E s := by
  have hT : s.TypeIs (.ref it) "range_iterator" := ⟨_, hit, rfl⟩
  unfold Builtin.SmallTypes.nextOf
  refine wpAny_bind (wpAny_callSpecial?_slot (name := Str.ofString "__next__") hT F.slot_range_iterator_next
    (wpAny_call_entry F.slot_range_iterator_next hT F.entry_range_iterator_next ?_ (F.args_range_iterator_next_1 _)))
  show wpAny _ _ (field (.ref it) 0 >>= _) _ _ s
  refine wpAny_bind (wpAny_field hit rfl (x := rawInt x) rfl ?_)
  show wpAny _ _ (field (.ref it) 1 >>= _) _ _ s
  refine wpAny_bind (wpAny_field hit rfl (x := rawInt left) rfl ?_)
  show wpAny _ _ (field (.ref it) 2 >>= _) _ _ s
  refine wpAny_bind (wpAny_field hit rfl (x := rawInt step) rfl ?_)
  show wpAny _ _ (if left ≤ 0 then _ else _) _ _ s
  rw [if_pos hleft]
  refine wpAny_bind (wpAny_rule ?_)
  refine wpAny_bind ?_
  show wpAny _ _ (newExc (.type "StopIteration") [] >>= _) _ _ _
  refine wpAny_bind ?_
  simp only [newExc, newTuple]
  refine wpAny_bind (wpAny_newObj_type ?_ (by size_fits))
  refine wpAny_bind (m := firstArgMember _ _) (wpAny_of_eq (a := Value.none) (by first | rfl | (simp only [firstArgMember]; rfl)) ?_)
  refine wpAny_newObj_type ?_ (by size_fits)
  simp only [raiseNew]
  refine wpAny_bind (wpAny_handled ?_)
  rw [show A.in1.handled = none from hh]
  refine wpAny_bind (wpAny_pure (wpAny_throw ?_))
  exact hE _ _ (((Heap.ExtBut.refl _ _).push _).push _) ⟨_, Heap.get?_push_size _ rfl, rfl⟩
/-- the generator, pulled by zip -/
theorem nextOf_gen {a : Addr} {g n : Nat} {gs : GenState} {P : Nat → Shared → Shared → Prop} {Y : Protocol} {Q : Value → Shared → Prop} (hh : A.handled = none)
    (hl : s.heap.NoLimit) (hroom : A.depth < recursionLimit)
    (hg : s.heap.IsGen a g) (hgs : s.gens[g]? = some gs)
    (hgo : gs.Goes (model prog w) A.in1 (fun n s₀ r s₁ => r = .ok (.ret .none) ∧ P n s₀ s₁) Y n (.send .none) (s.setGen g .running))
    (hY : ∀ v s₁ gs', gs'.bare = true → Y (n - 1) (s.setGen g .running) v s₁ (fun r' s'' => match n with
        | 0 => False
        | m + 1 => gs'.Goes (model prog w) A.in1 (fun n s₀ r s₁ => r = .ok (.ret .none) ∧ P n s₀ s₁) Y m r' s'') → Q v (s₁.setGen g gs'))
    (hP : ∀ s₁, P n (s.setGen g .running) s₁ → ∀ h' e, (∀ b o, s₁.heap.get? b = some o → h'.get? b = some o) → (∃ o, h'.get? e = some o ∧ o.cls = .type "StopIteration") → E (.ref e) { s₁.setGen g .finished with heap := h' }) :
    wpAny (model prog w) A (Builtin.SmallTypes.nextOf (.ref a)) Q E s := by
  unfold Builtin.SmallTypes.nextOf
  refine wpAny_bind (wpAny_callSpecial?_slot (name := Str.ofString "__next__") hg.typeIs slot_gen_next
    (wpAny_call_entry slot_gen_next hg.typeIs entry_gen_next ?_ (args_gen_next _)))
  show wpAny _ _ (Builtin.Generator.genWake (.ref a) (.send .none)) _ _ s
  unfold Builtin.Generator.genWake
  refine wpAny_bind (wpAny_holding (wpAny_genNumber hg (wpAny_bind (wpAny_genState hgs ?_))))
  cases gs with
  | running => exact hgo.elim
  | finished => exact hgo.elim
  | _ =>
    refine wpAny_bind (wpAny_roomToWake hl hroom ?_)
    show wpAny _ _ (.resume g (.send .none) [] _) _ _ s
    refine wpAny_resumeQ hgs hgo (fun x s₁ hx => ?_) (fun v s₁ gs' hbr hv => ?_)
    · obtain ⟨rfl, hp⟩ := hx
      show wpAny _ _ (newExc (.type "StopIteration") [] >>= _) _ _ _
      refine wpAny_bind ?_
      simp only [newExc, newTuple]
      refine wpAny_bind (wpAny_newObj_type ?_ (by size_fits))
      refine wpAny_bind (m := firstArgMember _ _) (wpAny_of_eq (a := Value.none) (by first | rfl | (simp only [firstArgMember]; rfl)) ?_)
      refine wpAny_newObj_type ?_ (by size_fits)
      simp only [raiseNew]
      refine wpAny_bind (wpAny_bind (wpAny_handled ?_))
      rw [show A.in1.handled = none from hh]
      refine wpAny_throw ?_
      exact hP s₁ hp _ _ (fun b o hb => Heap.get?_push_of_some _ (Heap.get?_push_of_some _ hb)) ⟨_, Heap.get?_push_size _ rfl, rfl⟩
    · exact wpAny_pure ⟨v, rfl, wpAny_pure (hY v s₁ gs' hbr hv)⟩
end
end Mine
end
section
open PySem PySem.W PyProof.Rows PySem.Builtin PySem.Builtin.Str
open Sem (wp)
namespace Mine
theorem AllBare.put {gens : Array GenState} {g : Nat} {x : GenState} (h : AllBare gens) (hx : x.bare = true) : AllBare (gens.setIfInBounds g x) := fun y hy => by
  rcases Array.mem_or_eq_of_mem_setIfInBounds hy with q | rfl
  · exact h y q
  · exact hx
/-- any change of heap, tokens and generators -/
noncomputable def Gn (s s' : Shared) : Prop := ∃ h' tk gs, s' = { s with heap := h', toks := tk, gens := gs } ∧ s.toks ≤ tk ∧ (AllBare s.gens → AllBare gs)
theorem Gn.refl (s : Shared) : Gn s s := ⟨s.heap, s.toks, s.gens, by cases s; rfl, Nat.le_refl _, id⟩
theorem Gn.trans {s s₁ s₂ : Shared} (a : Gn s s₁) (b : Gn s₁ s₂) : Gn s s₂ := by
  obtain ⟨h, t, g, rfl, q, m⟩ := a; obtain ⟨h', t', g', rfl, q', m'⟩ := b; exact ⟨h', t', g', rfl, Nat.le_trans q q', fun x => m' (m x)⟩
theorem Gn.ofTo {s s' : Shared} (t : To s s') : Gn s s' := by obtain ⟨h, tk, rfl, _, q⟩ := t; exact ⟨h, tk, s.gens, rfl, q, id⟩
theorem Gn.le {s s' : Shared} (a : Gn s s') : s.toks ≤ s'.toks := by obtain ⟨h, t, g, rfl, q, _⟩ := a; exact q
theorem Gn.bare {s s' : Shared} (a : Gn s s') (h : AllBare s.gens) : AllBare s'.gens := by obtain ⟨_, t, g, rfl, q, m⟩ := a; exact m h
/-- the generator at rest: n pulls may follow -/
noncomputable def GSt (w : World) (A : Around) (ys : List Int) (gl lim : Nat) (hb : Heap) (ga : Addr) (g n : Nat) (s : Shared) : Prop :=
  ∃ gs, s.gens[g]? = some gs ∧ ∀ s'', GK gl lim hb s s'' → gs.Goes (mo w) A (Rp ys gl lim) (Yp ys gl lim hb) n (.send .none) s''
theorem GK.trans {gl lim : Nat} {hb : Heap} {s s₁ s₂ : Shared} (a : GK gl lim hb s s₁) (b : GK gl lim hb s₁ s₂) : GK gl lim hb s s₂ :=
  ⟨fun c o h e => b.1 c o h (a.1 c o h e), b.2.1, Nat.le_trans a.2.2.1 b.2.2.1, b.2.2.2⟩
theorem GSt.gk {w : World} {A : Around} {ys : List Int} {gl lim : Nat} {hb : Heap} {ga : Addr} {g n : Nat} {s s' : Shared} (x : GSt w A ys gl lim hb ga g n s) (k : GK gl lim hb s s') (hg : s'.gens = s.gens) : GSt w A ys gl lim hb ga g n s' := by
  obtain ⟨gs, h1, h2⟩ := x
  exact ⟨gs, hg ▸ h1, fun s'' k' => h2 s'' (k.trans k')⟩
theorem isGen_at {h h' : Heap} {a : Addr} {g : Nat} (x : h.IsGen a g) (k : ∀ o, h.get? a = some o → h'.get? a = some o) : h'.IsGen a g := let ⟨o, nm, qn, ho, r⟩ := x; ⟨o, nm, qn, k _ ho, r⟩
/-- where the parts lie -/
noncomputable def ZO (hb : Heap) (gl ga i1 TI TO z lim : Nat) : Prop := hb.objs.size ≤ gl ∧ gl < ga ∧ ga < i1 ∧ i1 < TI ∧ TI < TO ∧ TO < z ∧ z + 1 < lim
/-- an address that the zip does not touch -/
noncomputable def Offz (z TO i1 gl lim c : Nat) : Prop := c ≠ z ∧ c ≠ TO ∧ c ≠ i1 ∧ c ≠ gl ∧ c < lim
structure ZF (hb : Heap) (gl ga i1 TI TO z lim : Nat) : Prop where
  TI : Offz z TO i1 gl lim TI
  ga : Offz z TO i1 gl lim ga
  top : Offz z TO i1 gl lim (lim - 1)
  low : ∀ c, c < hb.objs.size → Offz z TO i1 gl lim c
  out : ∀ c, c = gl ∨ lim ≤ c → c ≠ z ∧ c ≠ TO ∧ c ≠ i1
  zTO : z ≠ TO
  zi1 : z ≠ i1
  TOz : TO ≠ z
  TOi1 : TO ≠ i1
  i1z : i1 ≠ z
  i1TO : i1 ≠ TO
  zgl : z ≠ gl ∧ z < lim
  TOgl : TO ≠ gl ∧ TO < lim
  i1gl : i1 ≠ gl ∧ i1 < lim
  sz : ∀ c, lim - 1 < c → lim ≤ c
theorem ZO.zf {hb : Heap} {gl ga i1 TI TO z lim : Nat} (o : ZO hb gl ga i1 TI TO z lim) : ZF hb gl ga i1 TI TO z lim := by
  obtain ⟨o0, o1, o2, o3, o4, o5, o6⟩ := o
  have zl : z < lim := Nat.lt_of_succ_lt o6
  have zt : z < lim - 1 := Nat.lt_sub_of_add_lt o6
  have TIz := Nat.lt_trans o4 o5
  have i1TO := Nat.lt_trans o3 o4
  have i1z := Nat.lt_trans i1TO o5
  have gaTO := Nat.lt_trans o2 i1TO
  have gaz := Nat.lt_trans gaTO o5
  have gi1 := Nat.lt_trans o1 o2
  have gTI := Nat.lt_trans gi1 o3
  have gTO := Nat.lt_trans gTI o4
  have gz := Nat.lt_trans gTO o5
  have TOt := Nat.lt_trans o5 zt
  exact ⟨⟨Nat.ne_of_lt TIz, Nat.ne_of_lt o4, Nat.ne_of_gt o3, Nat.ne_of_gt gTI, Nat.lt_trans TIz zl⟩,
    ⟨Nat.ne_of_lt gaz, Nat.ne_of_lt gaTO, Nat.ne_of_lt o2, Nat.ne_of_gt o1, Nat.lt_trans gaz zl⟩,
    ⟨Nat.ne_of_gt zt, Nat.ne_of_gt TOt, Nat.ne_of_gt (Nat.lt_trans i1TO TOt), Nat.ne_of_gt (Nat.lt_trans gz zt), Nat.sub_one_lt (Nat.ne_of_gt (Nat.lt_of_le_of_lt (Nat.zero_le _) zl))⟩,
    fun c h => have h := Nat.lt_of_lt_of_le h o0
      ⟨Nat.ne_of_lt (Nat.lt_trans h gz), Nat.ne_of_lt (Nat.lt_trans h gTO), Nat.ne_of_lt (Nat.lt_trans h gi1), Nat.ne_of_lt h, Nat.lt_trans h (Nat.lt_trans gz zl)⟩,
    fun c h => by
      rcases h with h | h
      · rw [h]; exact ⟨Nat.ne_of_lt gz, Nat.ne_of_lt gTO, Nat.ne_of_lt gi1⟩
      · have h := Nat.lt_of_lt_of_le zl h
        exact ⟨Nat.ne_of_gt h, Nat.ne_of_gt (Nat.lt_trans o5 h), Nat.ne_of_gt (Nat.lt_trans i1z h)⟩,
    Nat.ne_of_gt o5, Nat.ne_of_gt i1z, Nat.ne_of_lt o5, Nat.ne_of_gt i1TO, Nat.ne_of_lt i1z, Nat.ne_of_lt i1TO, ⟨Nat.ne_of_gt gz, zl⟩, ⟨Nat.ne_of_gt gTO, Nat.lt_trans o5 zl⟩, ⟨Nat.ne_of_gt gi1, Nat.lt_trans i1z zl⟩, fun c h => Nat.le_of_pred_lt h⟩
section
variable {w : World} {A : Around} {E : Value → Shared → Prop} {s : Shared} {hb : Heap} {gl ga i1 TI TO z lim g n : Nat} {ys : List Int}
theorem zipg_next {x left : Int} {a b : Value} {Q : Value → Shared → Prop} (o : ZO hb gl ga i1 TI TO z lim) (hh : A.handled = none) (hroom : A.depth < recursionLimit) (hl : hb.NoLimit) (hk : Kp hb s.heap)
    (hz : IsZip s.heap z TI TO .none) (hTI : IsPair s.heap TI (.ref i1) (.ref ga)) (hTO : IsPair s.heap TO a b) (h1 : IsRangeIter s.heap i1 x left 1) (hleft : 0 < left)
    (htop : ∃ ob, s.heap.get? (lim - 1) = some ob) (hga : s.heap.IsGen ga g) (G : GSt w A.in1 ys gl lim hb ga g (n + 1) s)
    (hQ : ∀ s' (T : Nat) tx ty, 2 - n < ys.length → Gn s s' → IsZip s'.heap z TI TO (rawInt T) → IsPair s'.heap TO (.int x tx) (.int (ys.getD (2 - n) 0) ty) → IsRangeIter s'.heap i1 (x + 1) (left - 1) 1 → IsPair s'.heap T (.int x tx) (.int (ys.getD (2 - n) 0) ty) → lim ≤ T →
      (∀ (c : Nat) ob, Offz z TO i1 gl lim c → s.heap.get? c = some ob → s'.heap.get? c = some ob) → Kp hb s'.heap → (n ≠ 0 → GSt w A.in1 ys gl lim hb ga g n s') → Q (.ref T) s')
    (hE : ys.length + (n + 1) = 3 → ∀ s' e, Gn s s' → (∀ (c : Nat) ob, Offz z TO i1 gl lim c → s.heap.get? c = some ob → s'.heap.get? c = some ob) → Kp hb s'.heap → (∃ ob, s'.heap.get? e = some ob ∧ ob.cls = .type "StopIteration") → E (.ref e) s') :
    wpAny (mo w) A (Builtin.«zip.__next__» ⟨[.ref z], []⟩) (fun fin s' => ∃ v, fin = .done (.ret v) ∧ Q v s') E s := by
  have F := o.zf
  show wpAny _ _ (field (.ref z) 2 >>= _) _ _ _
  refine wpAny_bind (wpAny_field hz rfl (x := .bool false) rfl ?_)
  show wpAny _ _ (field (.ref z) 3 >>= _) _ _ _
  refine wpAny_bind (wpAny_field hz rfl (x := .ref TI) rfl ?_)
  refine wpAny_bind (wpAny_seqItems hTI rfl ?_)
  show wpAny _ _ (Builtin.SmallTypes.ownedTupleIsFree (.ref z) >>= _) _ _ _
  refine wpAny_bind ?_
  unfold Builtin.SmallTypes.ownedTupleIsFree
  refine wpAny_bind (wpAny_field hz rfl (x := .none) rfl (wpAny_pure ?_))
  simp only [if_true]
  refine wpAny_bind (wpAny_rule ?_)
  refine wpAny_bind (wpAny_field hz rfl (x := .ref TO) rfl ?_)
  refine wpAny_bind (wpAny_setField_rec hz (by simp) fun h₁ hz₁ hs₁ => ?_)
  replace hz₁ : IsZip h₁ z TI TO .ellipsis := hz₁
  refine wpAny_bind ?_
  simp only [List.zipIdx_cons, List.zipIdx_nil, List.forIn_cons, List.forIn_nil]
  refine wpAny_bind (wpAny_bind (wpAny_onRaise ?_))
  show wpAny _ _ (Builtin.SmallTypes.nextOf (.ref i1) >>= _) _ _ _
  have h1₁ : IsRangeIter h₁ i1 x left 1 := hs₁.extBut _ _ F.i1z h1
  refine wpAny_bind (nextOf_range_item (s := { s with heap := h₁ }) h1₁ hleft fun h₂ h1₂ hs₂ => wpAny_pure ?_)
  have hTO₂ : IsPair h₂ TO a b := hs₂.extBut _ _ F.TOi1 (hs₁.extBut _ _ F.TOz hTO)
  refine wpAny_bind (wpAny_seqItems (s := { s with heap := h₂, toks := s.toks + 1 }) hTO₂ rfl ?_)
  refine wpAny_bind (wpAny_updateSeq_pair hTO₂ fun h₃ hTO₃ hs₃ => ?_)
  replace hTO₃ : IsPair h₃ TO (.int x s.toks) b := hTO₃
  refine wpAny_bind (wpAny_letGo (wpAny_pure ?_))
  refine wpAny_bind (wpAny_bind (wpAny_onRaise ?_))
  show wpAny _ _ (Builtin.SmallTypes.nextOf (.ref ga) >>= _) _ _ _
  have up₃ : ∀ (c : Nat) ob, c ≠ z → c ≠ TO → c ≠ i1 → s.heap.get? c = some ob → h₃.get? c = some ob := fun c ob c1 c2 c3 e => hs₃.extBut _ _ c2 (hs₂.extBut _ _ c3 (hs₁.extBut _ _ c1 e))
  have kb₃ : Kp hb h₃ := fun (c : Nat) ob e => by
    have hc : c < hb.objs.size := Heap.lt_size e
    exact up₃ c ob (F.low c hc).1 (F.low c hc).2.1 (F.low c hc).2.2.1 (hk c ob e)
  have hz₃ : IsZip h₃ z TI TO .ellipsis := hs₃.extBut _ _ F.zTO (hs₂.extBut _ _ F.zi1 hz₁)
  have hTI₃ : IsPair h₃ TI (.ref i1) (.ref ga) := up₃ _ _ F.TI.1 F.TI.2.1 F.TI.2.2.1 hTI
  have h1₃ : IsRangeIter h₃ i1 (x + 1) (left - 1) 1 := hs₃.extBut _ _ F.i1TO h1₂
  have hg₃ : h₃.IsGen ga g := isGen_at hga (fun ob e => up₃ _ _ F.ga.1 F.ga.2.1 F.ga.2.2.1 e)
  obtain ⟨gs, hgs, hgo⟩ := G
  have gk : GK gl lim hb s (Shared.setGen { s with heap := h₃, toks := s.toks + 1 } g .running) := ⟨fun (c : Nat) ob h e => up₃ c ob (F.out c h).1 (F.out c h).2.1 (F.out c h).2.2 e, kb₃, Nat.le_succ _, let ⟨ob, e⟩ := htop; ⟨ob, up₃ (lim - 1) ob F.top.1 F.top.2.1 F.top.2.2.1 e⟩⟩
  refine wpAny_bind (nextOf_gen (s := { s with heap := h₃, toks := s.toks + 1 }) (P := fun n s₀ s₁ => ys.length + n = 3 ∧ EG gl lim s₀ s₁) (Y := Yp ys gl lim hb) (n := n + 1) hh (hl.keeps kb₃) hroom hg₃ hgs (hgo _ gk) ?_ ?_)
  · rintro v s₄ gs' hbr ⟨⟨ty, rfl⟩, hlen, eg, nx⟩
    have gsz : g < s.gens.size := (Array.getElem?_eq_some_iff.mp hgs).1
    obtain ⟨⟨h₄, tk, e4, q4⟩, k4⟩ := eg
    have k4 : ∀ (c : Nat) ob, c ≠ gl → c < lim → h₃.get? c = some ob → s₄.heap.get? c = some ob := k4
    have q4 : s.toks + 1 ≤ tk := q4
    subst e4
    have k4 : ∀ (c : Nat) ob, c ≠ gl → c < lim → h₃.get? c = some ob → h₄.get? c = some ob := k4
    have hTO₄ : IsPair h₄ TO (.int x s.toks) b := k4 _ _ F.TOgl.1 F.TOgl.2 hTO₃
    refine wpAny_pure ?_
    obtain ⟨s₅, hs₅⟩ : ∃ s₅ : Shared, s₅ = Shared.setGen { (Shared.setGen { s with heap := h₃, toks := s.toks + 1 } g .running) with heap := h₄, toks := tk } g gs' := ⟨_, rfl⟩
    refine at_state (s' := s₅) hs₅.symm ?_
    have eh : s₅.heap = h₄ := by rw [hs₅]; rfl
    have et : s₅.toks = tk := by rw [hs₅]; rfl
    have eg : s₅.gens[g]? = some gs' := by
      rw [hs₅]; simp [Shared.setGen, gsz]
    have gn : Gn s s₅ := ⟨h₄, tk, _, by rw [hs₅]; rfl, Nat.le_of_succ_le q4, fun x => AllBare.put (AllBare.put x rfl) hbr⟩
    rw [← eh] at hTO₄
    refine wpAny_bind (wpAny_seqItems hTO₄ rfl ?_)
    refine wpAny_bind (wpAny_updateSeq_pair hTO₄ fun h₆ hTO₆ hs₆ => ?_)
    rw [eh] at hs₆
    replace hTO₆ : IsPair h₆ TO (.int x s.toks) (.int (ys.getD (2 - n) 0) ty) := hTO₆
    refine wpAny_bind (wpAny_letGo (wpAny_pure (wpAny_pure ?_)))
    refine wpAny_bind (wpAny_seqItems (s := { s₅ with heap := h₆ }) hTO₆ rfl ?_)
    refine wpAny_bind (wpAny_newTuple ?_)
    have hz₆ : IsZip h₆ z TI TO .ellipsis := hs₆.extBut _ _ F.zTO (k4 _ _ F.zgl.1 F.zgl.2 hz₃)
    show wpAny _ _ (Builtin.SmallTypes.ownedTupleHandOut (.ref z) (.ref h₆.objs.size) >>= _) _ _ _
    refine wpAny_bind ?_
    unfold Builtin.SmallTypes.ownedTupleHandOut
    have hz₇ : IsZip (h₆.push { cls := .type "tuple", data := .seq #[.int x s.toks, .int (ys.getD (2 - n) 0) ty] }) z TI TO .ellipsis := Heap.get?_push_of_some _ hz₆
    refine wpAny_bind (wpAny_setField_rec hz₇ (by simp) fun h₈ hz₈ hs₈ => ?_)
    replace hz₈ : IsZip h₈ z TI TO (rawInt h₆.objs.size) := hz₈
    refine wpAny_setField_rec hz₈ (by simp) fun h₉ hz₉ hs₉ => ?_
    replace hz₉ : IsZip h₉ z TI TO (rawInt h₆.objs.size) := hz₉
    have up : ∀ (c : Nat) ob, c ≠ z → h₆.get? c = some ob → h₉.get? c = some ob := fun c ob c1 e => hs₉.extBut _ _ c1 (hs₈.extBut _ _ c1 (Heap.get?_push_of_some _ e))
    have hzlt : (z : Nat) < h₆.objs.size := Heap.lt_size hz₆
    have hT₉ : IsPair h₉ h₆.objs.size (.int x s.toks) (.int (ys.getD (2 - n) 0) ty) := hs₉.extBut _ _ (Nat.ne_of_gt hzlt) (hs₈.extBut _ _ (Nat.ne_of_gt hzlt) (Heap.get?_push_size _ rfl))
    have all : ∀ (c : Nat) ob, Offz z TO i1 gl lim c → s.heap.get? c = some ob → h₉.get? c = some ob := fun c ob ⟨c1, c2, c3, c4, c5⟩ e => up c ob c1 (hs₆.extBut _ _ c2 (k4 c ob c4 c5 (up₃ c ob c1 c2 c3 e)))
    have kb₉ : Kp hb h₉ := fun (c : Nat) ob e => by
      have hc : c < hb.objs.size := Heap.lt_size e
      exact all c ob (F.low c hc) (hk c ob e)
    refine wpAny_pure ⟨_, rfl, ?_⟩
    show Q (.ref h₆.objs.size) { s₅ with heap := h₉ }
    have hlimT : lim ≤ h₆.objs.size := by
      obtain ⟨ob, e⟩ := htop
      exact F.sz _ (Heap.lt_size (hs₆.extBut _ _ F.top.2.1 (k4 (lim - 1) ob F.top.2.2.2.1 F.top.2.2.2.2 (up₃ (lim - 1) ob F.top.1 F.top.2.1 F.top.2.2.1 e))))
    refine hQ { s₅ with heap := h₉ } h₆.objs.size s.toks ty hlen (gn.trans ⟨h₉, _, _, rfl, Nat.le_refl _, id⟩) hz₉ (up _ _ F.TOz hTO₆) (up _ _ F.i1z (hs₆.extBut _ _ F.i1TO (k4 _ _ F.i1gl.1 F.i1gl.2 h1₃))) hT₉ hlimT all kb₉ fun hn => ?_
    refine ⟨gs', eg, fun s'' k => nx hn s'' ?_⟩
    refine GK.trans (s₁ := { s₅ with heap := h₉ }) ⟨fun (c : Nat) ob h e => ?_, kb₉, Nat.le_of_eq et.symm, let ⟨ob, e⟩ := htop; ⟨ob, all (lim - 1) ob F.top e⟩⟩ k
    exact up c ob (F.out c h).1 (hs₆.extBut _ _ (F.out c h).2.1 e)
  · rintro s₄ ⟨hlen, ⟨h₄, tk, e4, q4⟩, k4⟩ h' e hk4 ⟨oe, hoe, hce⟩
    have k4 : ∀ (c : Nat) ob, c ≠ gl → c < lim → h₃.get? c = some ob → s₄.heap.get? c = some ob := k4
    have q4 : s.toks + 1 ≤ tk := q4
    subst e4
    have k5 : ∀ (c : Nat) ob, c ≠ gl → c < lim → h₃.get? c = some ob → h'.get? c = some ob := fun c ob c1 c2 e => hk4 c ob (k4 c ob c1 c2 e)
    have hz₄ : IsZip h' z TI TO .ellipsis := k5 _ _ F.zgl.1 F.zgl.2 hz₃
    have hez : e ≠ z := fun x => by subst x; rw [hz₄] at hoe; cases hoe; simp at hce
    refine wpAny_setField_rec hz₄ (by simp) fun h₅ _ hs₅ => ?_
    have all : ∀ (c : Nat) ob, Offz z TO i1 gl lim c → s.heap.get? c = some ob → h₅.get? c = some ob := fun c ob ⟨c1, c2, c3, c4, c5⟩ e => hs₅.extBut _ _ c1 (k5 c ob c4 c5 (up₃ c ob c1 c2 c3 e))
    refine hE hlen _ e ⟨h₅, tk, _, rfl, Nat.le_of_succ_le q4, fun x => AllBare.put (AllBare.put x rfl) rfl⟩ all (fun (c : Nat) ob e => ?_) ⟨oe, hs₅.extBut _ _ hez hoe, hce⟩
    have hc : c < hb.objs.size := Heap.lt_size e
    exact all c ob (F.low c hc) (hk c ob e)
theorem zipg_done {x left : Int} {a b : Value} {Q : Fin → Shared → Prop} (o : ZO hb gl ga i1 TI TO z lim) (hh : A.handled = none)
    (hz : IsZip s.heap z TI TO .none) (hTI : IsPair s.heap TI (.ref i1) (.ref ga)) (hTO : IsPair s.heap TO a b) (h1 : IsRangeIter s.heap i1 x left 1) (hleft : left ≤ 0)
    (hE : ∀ s' e, Gn s s' → (∀ (c : Nat) ob, Offz z TO i1 gl lim c → s.heap.get? c = some ob → s'.heap.get? c = some ob) → (∃ ob, s'.heap.get? e = some ob ∧ ob.cls = .type "StopIteration") → E (.ref e) s') :
    wpAny (mo w) A (Builtin.«zip.__next__» ⟨[.ref z], []⟩) Q E s := by
  have F := o.zf
  show wpAny _ _ (field (.ref z) 2 >>= _) _ _ _
  refine wpAny_bind (wpAny_field hz rfl (x := .bool false) rfl ?_)
  show wpAny _ _ (field (.ref z) 3 >>= _) _ _ _
  refine wpAny_bind (wpAny_field hz rfl (x := .ref TI) rfl ?_)
  refine wpAny_bind (wpAny_seqItems hTI rfl ?_)
  show wpAny _ _ (Builtin.SmallTypes.ownedTupleIsFree (.ref z) >>= _) _ _ _
  refine wpAny_bind ?_
  unfold Builtin.SmallTypes.ownedTupleIsFree
  refine wpAny_bind (wpAny_field hz rfl (x := .none) rfl (wpAny_pure ?_))
  simp only [if_true]
  refine wpAny_bind (wpAny_rule ?_)
  refine wpAny_bind (wpAny_field hz rfl (x := .ref TO) rfl ?_)
  refine wpAny_bind (wpAny_setField_rec hz (by simp) fun h₁ hz₁ hs₁ => ?_)
  replace hz₁ : IsZip h₁ z TI TO .ellipsis := hz₁
  refine wpAny_bind ?_
  simp only [List.zipIdx_cons, List.zipIdx_nil, List.forIn_cons, List.forIn_nil]
  refine wpAny_bind (wpAny_bind (wpAny_onRaise ?_))
  show wpAny _ _ (Builtin.SmallTypes.nextOf (.ref i1) >>= _) _ _ _
  have h1₁ : IsRangeIter h₁ i1 x left 1 := hs₁.extBut _ _ F.i1z h1
  refine wpAny_bind (nextOf_range_end (s := { s with heap := h₁ }) hh h1₁ hleft fun h₂ e hs₂ he => ?_)
  obtain ⟨oe, hoe, hce⟩ := he
  have hz₂ : IsZip h₂ z TI TO .ellipsis := hs₂ _ _ F.zi1 hz₁
  have hez : e ≠ z := fun x => by subst x; rw [hz₂] at hoe; cases hoe; simp at hce
  refine wpAny_setField_rec hz₂ (by simp) fun h₃ _ hs₃ => hE _ e ⟨h₃, s.toks, s.gens, rfl, Nat.le_refl _, id⟩ (fun c ob ⟨c1, _, c3, _, _⟩ x => hs₃.extBut _ _ c1 (hs₂ _ _ c3 (hs₁.extBut _ _ c1 x))) ⟨oe, hs₃.extBut _ _ hez hoe, hce⟩
theorem pyNext_zipg {x left : Int} {a b : Value} {Q : Option Value → Shared → Prop} (o : ZO hb gl ga i1 TI TO z lim) (hh : A.handled = none) (hroom : A.depth < recursionLimit) (hl : hb.NoLimit) (hk : Kp hb s.heap)
    (hz : IsZip s.heap z TI TO .none) (hTI : IsPair s.heap TI (.ref i1) (.ref ga)) (hTO : IsPair s.heap TO a b) (h1 : IsRangeIter s.heap i1 x left 1) (hleft : 0 < left)
    (htop : ∃ ob, s.heap.get? (lim - 1) = some ob) (hga : s.heap.IsGen ga g) (G : GSt w A.in1.in1 ys gl lim hb ga g (n + 1) s)
    (hQ : ∀ s' (T : Nat) tx ty, 2 - n < ys.length → Gn s s' → IsZip s'.heap z TI TO (rawInt T) → IsPair s'.heap TO (.int x tx) (.int (ys.getD (2 - n) 0) ty) → IsRangeIter s'.heap i1 (x + 1) (left - 1) 1 → IsPair s'.heap T (.int x tx) (.int (ys.getD (2 - n) 0) ty) → lim ≤ T →
      (∀ (c : Nat) ob, Offz z TO i1 gl lim c → s.heap.get? c = some ob → s'.heap.get? c = some ob) → Kp hb s'.heap → (n ≠ 0 → GSt w A.in1.in1 ys gl lim hb ga g n s') → Q (some (.ref T)) s')
    (hE : ys.length + (n + 1) = 3 → ∀ s', Gn s s' → (∀ (c : Nat) ob, Offz z TO i1 gl lim c → s.heap.get? c = some ob → s'.heap.get? c = some ob) → Kp hb s'.heap → Q none s') :
    wpAny (mo w) A (pyNext (.ref z)) Q E s := by
  have hT : s.TypeIs (.ref z) "zip" := ⟨_, hz, rfl⟩
  unfold pyNext
  refine wpAny_bind (wpAny_attempt (wpAny_callSpecial?_slot (name := Str.ofString "__next__") hT F.slot_zip_next
    (wpAny_call_entry F.slot_zip_next hT F.entry_zip_next
      (zipg_next (A := A.in1) o hh hroom hl hk hz hTI hTO h1 hleft htop hga G (fun s' T tx ty a0 a1 a2 a3 a4 a5 a6 a7 a8 a9 => wpAny_pure (hQ s' T tx ty a0 a1 a2 a3 a4 a5 a6 a7 a8 a9)) fun hlen s' e a1 a2 a3 he => ?_) (F.args_zip_next_1 _))))
  obtain ⟨ob, ho, hc⟩ := he
  refine wpAny_bind (wpAny_isInstance (T := "StopIteration") (b := true) ⟨ob, ho, hc⟩ isSubtype_stop ?_)
  exact wpAny_pure (hE hlen s' a1 a2 a3)
theorem pyNext_zipg_end {x left : Int} {a b : Value} {Q : Option Value → Shared → Prop} (o : ZO hb gl ga i1 TI TO z lim) (hh : A.handled = none)
    (hz : IsZip s.heap z TI TO .none) (hTI : IsPair s.heap TI (.ref i1) (.ref ga)) (hTO : IsPair s.heap TO a b) (h1 : IsRangeIter s.heap i1 x left 1) (hleft : left ≤ 0)
    (hE : ∀ s', Gn s s' → (∀ (c : Nat) ob, Offz z TO i1 gl lim c → s.heap.get? c = some ob → s'.heap.get? c = some ob) → Q none s') :
    wpAny (mo w) A (pyNext (.ref z)) Q E s := by
  have hT : s.TypeIs (.ref z) "zip" := ⟨_, hz, rfl⟩
  unfold pyNext
  refine wpAny_bind (wpAny_attempt (wpAny_callSpecial?_slot (name := Str.ofString "__next__") hT F.slot_zip_next
    (wpAny_call_entry F.slot_zip_next hT F.entry_zip_next
      (zipg_done (A := A.in1) o hh hz hTI hTO h1 hleft fun s' e a1 a2 he => ?_) (F.args_zip_next_1 _))))
  obtain ⟨ob, ho, hc⟩ := he
  refine wpAny_bind (wpAny_isInstance (T := "StopIteration") (b := true) ⟨ob, ho, hc⟩ isSubtype_stop ?_)
  exact wpAny_pure (hE s' a1 a2)
end
end Mine
end
section
open PySem PySem.W PyProof.Rows PySem.Builtin PySem.Builtin.Str
open Sem (wp)
namespace Mine
noncomputable def szE : Expr := match nth (dB (st 26)) 5 with | .Return (some (.Tuple (e :: _) _ _)) _ => e | _ => .Name (S "x") p0
noncomputable def szScope : Scope := match szE with | .ListComp _ _ sc _ => sc | _ => dS (st 26)
noncomputable def szIter : Expr := match szE with | .ListComp _ [⟨_, it, _, _⟩] _ _ => it | _ => szE
noncomputable abbrev szElt : Expr := .Name (S "size") ⟨202, 13, 202, 17⟩
noncomputable abbrev szTarget : Expr := .Tuple [.Name (S "turn") ⟨202, 22, 202, 26⟩, .Name (S "size") ⟨202, 28, 202, 32⟩] 0 ⟨202, 22, 202, 32⟩
noncomputable abbrev szC : Expr := .ListComp szElt [⟨szTarget, szIter, [], 0⟩] szScope ⟨202, 12, 202, 76⟩
theorem szE_eq : szE = szC := by rfl
/-- the comprehension between its turns -/
structure CI (w : World) (A : Around) (hb : Heap) (env : Env) (gl ga i1 TI TO z D C lim g : Nat) (ys : List Int) (s₀ : Shared) (i : Nat) (s : Shared) : Prop where
  gn : Gn s₀ s
  hz : IsZip s.heap z TI TO .none
  hTI : IsPair s.heap TI (.ref i1) (.ref ga)
  hTO : ∃ a b, IsPair s.heap TO a b
  h1 : IsRangeIter s.heap i1 (i : Int) (3 - (i : Int)) 1
  hga : s.heap.IsGen ga g
  G : i < 3 → GSt w A.in1.in1 ys gl lim hb ga g (3 - i) s
  hD : ∃ vs, s.heap.PlainList D vs ∧ RdAll (fun _ => False) s.heap vs.toList (intsD (ys.take i))
  T : Stt (lf w (lx0 hb) (compEnvC szScope [] C env)) [] [] s.heap
  hi : i ≤ 3
  hiy : i ≤ ys.length
section
variable {w : World} {A : Around} {s : Shared} {hb : Heap} {gl ga i1 TI TO z D C lim g : Nat} {ys : List Int} {env : Env}
theorem rdInts {N M : Addr → Prop} {h h' : Heap} : ∀ {vs : List Value} {l : List Int}, RdAll N h vs (intsD l) → RdAll M h' vs (intsD l)
  | _, [], r => by cases r; exact .nil
  | _, i :: l, r => by
    have r : RdAll N h _ (.int i :: intsD l) := r
    cases r with
    | cons a b =>
      cases a with
      | int _ t => exact .cons (.int i t) (rdInts b)
noncomputable def Offz3 (z C D c : Nat) : Prop := c ≠ z ∧ c ≠ C ∧ c ≠ D
structure CF (hb : Heap) (gl ga i1 TI TO z D C lim : Nat) : Prop where
  offD : Offz z TO i1 gl lim D
  offC : Offz z TO i1 gl lim C
  TI : Offz3 z C D TI
  TO : Offz3 z C D TO
  i1 : Offz3 z C D i1
  ga : Offz3 z C D ga
  zC : z ≠ C
  zD : z ≠ D
  Dz : D ≠ z
  DC : D ≠ C
  CD : C ≠ D
  Cz : C ≠ z
  low : ∀ c, c < hb.objs.size → Offz3 z C D c
  out : ∀ c, c = gl ∨ lim ≤ c → Offz3 z C D c
  eC : lim - 1 = C
theorem ZO.cf {hb : Heap} {gl ga i1 TI TO z D C lim : Nat} (o : ZO hb gl ga i1 TI TO z lim) (h : z < D ∧ D < C ∧ C + 1 = lim) : CF hb gl ga i1 TI TO z D C lim := by
  obtain ⟨o0, o1, o2, o3, o4, o5, o6⟩ := o
  obtain ⟨h1, h2, h3⟩ := h
  subst h3
  have zC := Nat.lt_trans h1 h2
  have TIz := Nat.lt_trans o4 o5
  have i1z := Nat.lt_trans o3 TIz
  have gaz := Nat.lt_trans o2 i1z
  have gz := Nat.lt_trans o1 gaz
  have up : ∀ c, c < z → Offz3 z C D c := fun c h => ⟨Nat.ne_of_lt h, Nat.ne_of_lt (Nat.lt_trans h zC), Nat.ne_of_lt (Nat.lt_trans h h1)⟩
  have off : ∀ c, z < c → c < C + 1 → Offz z TO i1 gl (C + 1) c := fun c h h' => ⟨Nat.ne_of_gt h, Nat.ne_of_gt (Nat.lt_trans o5 h), Nat.ne_of_gt (Nat.lt_trans i1z h), Nat.ne_of_gt (Nat.lt_trans gz h), h'⟩
  exact ⟨off D h1 (Nat.lt_succ_of_lt h2), off C zC (Nat.lt_succ_self C), up TI TIz, up TO o5, up i1 i1z, up ga gaz, Nat.ne_of_lt zC, Nat.ne_of_lt h1, Nat.ne_of_gt h1, Nat.ne_of_lt h2, Nat.ne_of_gt h2, Nat.ne_of_gt zC,
    fun c q => up c (Nat.lt_of_lt_of_le q (Nat.le_trans o0 (Nat.le_of_lt gz))), fun c q => by
      rcases q with q | q
      · rw [q]; exact up gl gz
      · have q : C < c := q
        exact ⟨Nat.ne_of_gt (Nat.lt_trans zC q), Nat.ne_of_gt q, Nat.ne_of_gt (Nat.lt_trans h2 q)⟩, rfl⟩
theorem ix1 {i : Nat} (h : i < 3) : 3 - i = (2 - i) + 1 := by omega
theorem ix2 {i : Nat} (h : i < 3) : (0 : Int) < 3 - (i : Int) := by omega
theorem ix3 {i : Nat} (h : i < 3) : 2 - (2 - i) = i := by omega
theorem ix4 {i : Nat} (h : i < 3) : 4 - (i + 1) < 4 - i := by omega
theorem ix5 {i : Nat} (h : i + 1 < 3) : 2 - i ≠ 0 := by omega
theorem ix6 (i : Nat) : 3 - (i + 1) = 2 - i := by omega
theorem ix7 (i : Nat) : 3 - (((i + 1 : Nat) : Int)) = 3 - (i : Int) - 1 := by omega
theorem ix8 {n i : Nat} (h : n + (2 - i + 1) = 3) (hi : i < 3) : n ≤ i := by omega
theorem ix9 {i : Nat} (h : i ≤ 3) (h' : ¬ i < 3) : i = 3 := by omega
theorem ix10 {i : Nat} (h : i < 3) : i ≤ sizeLine := by have : sizeLine = 2 ^ 24 := rfl; omega
theorem ix11 {d : Nat} (h : d + 7 < 900) : d < recursionLimit := by have : recursionLimit = 1000 := rfl; omega
theorem sz_loop {RR : Result → Shared → Prop} (R : Rm 8 A s.toks) (o : ZO hb gl ga i1 TI TO z lim) (hC : z < D ∧ D < C ∧ C + 1 = lim) (hy : ys.length ≤ 3) (hI : CI w A hb env gl ga i1 TI TO z D C lim g ys s 0 s)
    (hRR : ∀ s' m, Gn s s' → Kp hb s'.heap → s'.heap.Ns C m → (∃ vs, s'.heap.PlainList D vs ∧ RdAll (fun _ => False) s'.heap vs.toList (intsD ys)) → RR (.ok .next) s') :
    codeAny (mo w) A (.compLoop szC 0 (.ref z) (.ref D) (compEnvC szScope [] C env)) RR s := by
  have RA : ∀ {t : Nat}, s.toks ≤ t → Rm 7 A t := fun ht => (R.up ht).less (by decide)
  have F := o.zf
  have K := o.cf hC
  refine codeAny_loop rfl (fun n s' => ∃ i, n = 4 - i ∧ CI w A hb env gl ga i1 TI TO z D C lim g ys s i s') ?_ 4 ⟨0, rfl, hI⟩
  rintro n s₁ ⟨i, rfl, I⟩
  show wpAny _ A ((compTurn szC 0 (.ref z) (.ref D) (compEnvC szScope [] C env)).onRaise (fun x => do noteFrame x (compEnvC szScope [] C env); theTreesLotGoes x)) _ _ _
  refine wpAny_noted ?_
  rw [compTurn_list]
  refine wpAny_bind (wpAny_standAt (wpAny_bind ?_))
  obtain ⟨a, b, hTO⟩ := I.hTO
  obtain ⟨vs, hD, hr⟩ := I.hD
  obtain ⟨mC, hmC⟩ := I.T.loc
  have hmC : s₁.heap.Ns C mC := hmC
  have Rs := RA I.gn.le
  have hi := I.hi
  by_cases h3 : i < 3
  · have G := I.G h3
    rw [ix1 h3] at G
    refine pyNext_zipg (x := (i : Int)) (left := 3 - (i : Int)) o Rs.handled (ix11 Rs.depth) I.T.cx.nolimit I.T.keep I.hz I.hTI hTO I.h1 (ix2 h3) (by obtain ⟨ob, _, _, e, _⟩ := hmC; exact ⟨ob, by rw [K.eC]; exact e⟩) I.hga G (fun s₂ T tx ty hlen gn hz₂ hTO₂ h1₂ hT₂ hlT kept kb Gn₂ => ?_) fun hlen s₂ gn kept kb => ?_
    · have hc2 : 2 - (2 - i) = i := ix3 h3
      rw [hc2] at hlen hTO₂ hT₂
      have hTI₂ := kept TI _ F.TI I.hTI
      have hD₂ : s₂.heap.PlainList D vs := by obtain ⟨c, e⟩ := hD; exact ⟨c, kept D _ K.offD e⟩
      have hga₂ := isGen_at I.hga fun ob e => kept ga _ F.ga e
      have hmC₂ : s₂.heap.Ns C mC := hmC.at' fun ob e => kept C ob K.offC e
      refine wpAny_bind (wpAny_letOwnedTupleGo_zip (T := T) hz₂ fun h₃ hz₃ hs₃ => ?_)
      have T₃ : Stt (lf w (lx0 hb) (compEnvC szScope [] C env)) [] [] h₃ := by
        refine Stt.lx (l := lx0 hb) I.T.cx (fun (c : Nat) ob e => ?_) (hmC₂.at' fun ob e => hs₃.extBut _ _ K.Cz e) I.T.above I.T.en (fun _ h => nomatch h) (fun _ _ h => nomatch h) .nil (fun _ h => nomatch h)
        have : c < hb.objs.size := Heap.lt_size e
        exact hs₃.extBut _ _ (F.low c this).1 (kb _ _ e)
      have R₃ : Rm 7 A s₂.toks := RA (I.gn.trans gn).le
      refine wpAny_bind (Stt.assignT (X := lf w (lx0 hb) (compEnvC szScope [] C env)) (s := { s₂ with heap := h₃ }) (xs := [S "turn", S "size"]) (it := .two (.dat (.int (i : Int))) (.dat (.int (ys.getD i 0)))) R₃ T₃ (.two (.inl rfl) (.inl rfl)) trivial ⟨T, _, _, rfl, ⟨_, hs₃.extBut _ _ (F.out T (.inr hlT)).1 hT₂, rfl, 0, rfl⟩, .int _ _, .int _ _⟩ fun s₄ T₄ m₄ => ?_)
      obtain ⟨h₄, tk₄, e4, q4⟩ := m₄.same
      subst e4
      have q4 : s₂.toks ≤ tk₄ := q4
      have R₄ : Rm 7 A tk₄ := R₃.up q4
      have k4 : ∀ (c : Nat) ob, c ≠ C → h₃.get? c = some ob → h₄.get? c = some ob := fun c ob hc e => m₄.kept c ob (fun q => by
        rcases q with q | ⟨x, _, q, _⟩
        · exact hc q
        · cases q) e
      refine wpAny_bind (wpAny_tests_nil ?_)
      refine wpAny_bind (wpAny_bind (ev_lx (s := { s₂ with heap := h₄, toks := tk₄ }) R₄ T₄ (Ev.name (d := .dat (.int (ys.getD i 0))) rfl rfl) fun v s₅ t₅ r₅ => ?_))
      obtain ⟨h₅, tk₅, e5, k5, q5⟩ := t₅
      subst e5
      have q5 : tk₄ ≤ tk₅ := q5
      have k5 : Kp h₄ h₅ := k5
      have up₅ : ∀ (c : Nat) ob, c ≠ z → c ≠ C → s₂.heap.get? c = some ob → h₅.get? c = some ob := fun c ob c1 c2 e => k5 _ _ (k4 c ob c2 (hs₃.extBut _ _ c1 e))
      have hD₅ : h₅.PlainList D vs := by obtain ⟨c, e⟩ := hD₂; exact ⟨c, up₅ D _ K.Dz K.DC e⟩
      have hlv : vs.size = i := by
        have := hr.length
        rw [intsD_length, List.length_take, Array.length_toList] at this
        omega
      refine wpAny_bind (wpAny_list_append_plain (hsz := hlv ▸ ix10 h3) hD₅ fun h₆ hl₆ hs₆ => ?_)
      have up₆ : ∀ (c : Nat) ob, c ≠ z → c ≠ C → c ≠ D → s₂.heap.get? c = some ob → h₆.get? c = some ob := fun c ob c1 c2 c3 e => hs₆.extBut _ _ c3 (up₅ c ob c1 c2 e)
      have kb₆ : Kp hb h₆ := fun (c : Nat) ob e => by
        have hc : c < hb.objs.size := Heap.lt_size e
        exact up₆ c ob (K.low c hc).1 (K.low c hc).2.1 (K.low c hc).2.2 (kb c ob e)
      have hCo : ∃ ob, h₆.get? (lim - 1) = some ob := by
        obtain ⟨mm, ob, _, _, e, _⟩ := (T₄.keeps k5).loc
        have e : h₅.get? C = some ob := e
        exact ⟨ob, by rw [K.eC]; exact hs₆.extBut _ _ K.CD e⟩
      refine wpAny_pure (wpAny_pure ⟨rfl, 4 - (i + 1), ix4 h3, i + 1, rfl, ?_⟩)
      refine { gn := (I.gn.trans gn).trans ⟨h₆, tk₅, s₂.gens, rfl, Nat.le_trans q4 q5, id⟩, hz := ?_, hTI := up₆ _ _ K.TI.1 K.TI.2.1 K.TI.2.2 hTI₂, hTO := ⟨_, _, up₆ _ _ K.TO.1 K.TO.2.1 K.TO.2.2 hTO₂⟩, h1 := ?_, hga := isGen_at hga₂ fun ob e => up₆ _ _ K.ga.1 K.ga.2.1 K.ga.2.2 e, G := fun hlt => ?_, hD := ⟨vs.push v, hl₆, ?_⟩, T := ?_, hi := by omega, hiy := by omega }
      · exact hs₆.extBut _ _ K.zD (k5 _ _ (k4 z _ K.zC hz₃))
      · have : IsRangeIter h₆ i1 ((i : Int) + 1) (3 - (i : Int) - 1) 1 := up₆ _ _ K.i1.1 K.i1.2.1 K.i1.2.2 h1₂
        rw [ix7 i, Int.natCast_succ]
        exact this
      · have g2 := Gn₂ (ix5 hlt)
        rw [ix6]
        exact g2.gk ⟨fun (c : Nat) ob h e => up₆ c ob (K.out c h).1 (K.out c h).2.1 (K.out c h).2.2 e, kb₆, Nat.le_trans q4 q5, hCo⟩ rfl
      · rw [Array.toList_push]
        have hx : ys[i]? = some (ys.getD i 0) := by rw [List.getD_eq_getElem?_getD, List.getElem?_eq_getElem hlen]; rfl
        have e1 : intsD (ys.take (i + 1)) = intsD (ys.take i) ++ [.int (ys.getD i 0)] := by
          unfold intsD
          rw [List.take_add_one, hx, List.map_append]; rfl
        rw [e1]
        change Rd _ _ _ _ at r₅
        cases r₅ with
        | int _ t5 => exact (rdInts hr).append (.cons (.int _ t5) .nil)
      · have hn : h₅.Ns C _ := (T₄.keeps k5).loc.choose_spec
        exact Stt.lx (l := lx0 hb) I.T.cx kb₆ (hn.at' fun ob e => hs₆.extBut _ _ K.CD e) I.T.above I.T.en (fun _ h => nomatch h) (fun _ _ h => nomatch h) .nil (fun _ h => nomatch h)
    · refine wpAny_pure ?_
      have hiy := I.hiy
      refine hRR s₂ mC (I.gn.trans gn) kb (hmC.at' fun ob e => kept C ob K.offC e) ⟨vs, ?_, ?_⟩
      · obtain ⟨c, e⟩ := hD; exact ⟨c, kept D _ K.offD e⟩
      · rw [List.take_of_length_le (by omega)] at hr
        exact rdInts hr
  · have e3 : i = 3 := ix9 hi h3
    subst e3
    refine pyNext_zipg_end (lim := lim) (hb := hb) (gl := gl) o Rs.handled I.hz I.hTI hTO I.h1 (by decide) fun s₂ gn kept => wpAny_pure ?_
    refine hRR s₂ mC (I.gn.trans gn) (fun (c : Nat) ob e => ?_) (hmC.at' fun ob e => kept C ob K.offC e) ⟨vs, ?_, ?_⟩
    · have hc : c < hb.objs.size := Heap.lt_size e
      exact kept c ob (F.low c hc) (I.T.keep c ob e)
    · obtain ⟨c, e⟩ := hD; exact ⟨c, kept D _ K.offD e⟩
    · rw [List.take_of_length_le (by omega)] at hr
      exact rdInts hr
end
end Mine
end
section
open PySem PySem.W PyProof.Rows PySem.Builtin PySem.Builtin.Str
open Sem (wp)
namespace Mine
noncomputable abbrev fnG : FuncData := fnX (S "_grouping_intervals") (S "_grouping_intervals") (dA (st 4)) (dB (st 4)) (dS (st 4)) [] .none .none .none (.str (S "cpy313.locale") 194) none (.ref 34) .none
section
variable {w : World} {A : Around} {E : Value → Shared → Prop} {s : Shared} {k : Nat}
theorem gen_call {v : Value} {Q : Value → Shared → Prop} (R : Rm (k + 1) A s.toks) (C : Cx w s.heap)
    (h : ∀ h' tk, s.toks ≤ tk → Kp s.heap h' → h'.Ns s.heap.objs.size (fun x => [((S "grouping"), v)].reverse.lookup x) → h'.IsGen (s.heap.objs.size + 1) s.gens.size → h'.objs.size = s.heap.objs.size + 2 →
      Q (.ref (s.heap.objs.size + 1)) { s with heap := h', toks := tk, gens := s.gens.push (.fresh (.func (dB (st 4)) (envG s.heap.objs.size))) }) : wpAny (mo w) A (call (.ref 35) [v]) Q E s := by
  refine wpAny_call (codeAny_call_generator (fd := fnG) (body := dB (st 4)) R.room (C.kin 35 _ (kF_at 4 rfl) (by decide)) rfl rfl rfl rfl ⟨34, o34_7 w.params, _, _, rfl, C.kin 34 _ (kF_at 3 rfl) (by decide), rfl, rfl⟩ ?_)
  refine (wpAny_of_eq (a := [(S "grouping", v)]) rfl ?_)
  refine wpAny_newFunctionEnv (by decide) (fun x hx => by rw [List.mem_singleton.mp hx]; rfl) (fun h₁ hn hs => ?_) rfl
  have k₁ : Kp s.heap h₁ := fun b o e => hs.extBut b o (fun q => by have := Heap.lt_size e; rw [q] at this; exact Nat.lt_irrefl _ this) (Heap.get?_push_of_some _ e)
  have z₁ : h₁.objs.size = s.heap.objs.size + 1 := by rw [hs.1, Heap.size_push]
  refine ⟨C.nolimit.keeps k₁, ?_⟩
  show Q _ _
  dsimp only
  rw [z₁]
  refine h _ _ (by omega) (fun b o e => Heap.get?_push_of_some _ (k₁ b o e)) (hn.at' fun o e => Heap.get?_push_of_some _ e) ⟨{ cls := .type "generator", data := .fields #[.int s.gens.size 0, .str fnG.name (s.toks + 1), .str fnG.qualname (s.toks + 1 + 1)] }, _, _, ?_, rfl, rfl, rfl⟩ (by rw [Heap.size_push, z₁])
  have := Heap.get?_push_size h₁ (o := { cls := .type "generator", data := .fields #[.int s.gens.size 0, .str fnG.name (s.toks + 1), .str fnG.qualname (s.toks + 1 + 1)] }) rfl
  rw [z₁] at this
  exact this
end
end Mine
end
section
open PySem PySem.W PyProof.Rows PySem.Builtin PySem.Builtin.Str
open Sem (wp)
namespace Mine
noncomputable abbrev szRange : Expr := .Call (.Name (S "range") ⟨202, 40, 202, 45⟩) [.Constant (.int 3) 0 ⟨202, 46, 202, 47⟩] [] ⟨202, 40, 202, 48⟩
noncomputable abbrev szGen : Expr := .Call (.Name (S "_grouping_intervals") ⟨202, 50, 202, 69⟩) [.Name (S "row") ⟨202, 70, 202, 73⟩] [] ⟨202, 50, 202, 74⟩
theorem szIter_eq : szIter = .Call (.Name (S "zip") ⟨202, 36, 202, 39⟩) [szRange, szGen] [] ⟨202, 36, 202, 75⟩ := by rfl
noncomputable abbrev envSz (L : Addr) : Env := envOfC (S "_law_sizes") (dS (st 26)) L 226 (.ref 225)
noncomputable abbrev fz (w : World) (h₀ : Heap) (N₀ : Addr → Prop) : Fx := fx w (S "_law_sizes") (dS (st 26)) 226 (.ref 225) h₀ N₀
section
variable {w : World} {A : Around} {E : Value → Shared → Prop} {s : Shared} {k : Nat}
theorem at_codeState {M : Model} {c : Code} {RR : Result → Shared → Prop} {s s' : Shared} (e : s' = s) (h : codeAny M A c RR s') : codeAny M A c RR s := e ▸ h
theorem sz_zo {hb : Heap} {gl : Nat} (h : hb.objs.size = gl) : ZO hb gl (gl + 1) (gl + 2) (gl + 2 + 1) (gl + 2 + 2) (gl + 2 + 3) (gl + 8) := ⟨by omega, by omega, by omega, by omega, by omega, by omega, by omega⟩
theorem sz_dc (gl : Nat) : gl + 2 + 3 < gl + 6 ∧ gl + 6 < gl + 7 ∧ gl + 7 + 1 = gl + 8 := ⟨by omega, by omega, rfl⟩
theorem sz_top (gl : Nat) : 0 < gl + 8 ∧ gl + 8 - 1 ≠ gl := ⟨by omega, by omega⟩
theorem sz_comp {h₀ : Heap} {N₀ : Addr → Prop} {ρ : Vars} {f sx : Int} {m : Nat} {Q : Value → Shared → Prop} (hf : 1 ≤ f ∧ f ≤ 3) (hs : 1 ≤ sx ∧ sx ≤ 3) (R : Rm 10 A s.toks) (T : Stt (fz w h₀ N₀) [] ρ s.heap)
    (hrow : ρ.lookup (S "row") = some (.dat (.list (intsD (rowG m f sx))))) (h : ∀ v s', Gn s s' → Kp s.heap s'.heap → Rd ((fz w h₀ N₀).N []) s'.heap v (.list (intsD (dueG m f sx))) → Q v s') : wpAny (mo w) A (eval szC (envSz h₀.objs.size)) Q E s := by
  show wpAny _ _ (eval (.ListComp szElt [⟨szTarget, szIter, [], 0⟩] szScope ⟨202, 12, 202, 76⟩) _) _ _ _
  rw [eval_ListComp]
  refine wpAny_comprehension_free (use := none) (cl := []) rfl (fun _ => rfl) rfl rfl (by decide) ?_
  rw [szIter_eq]
  have Rk : Rm 2 A s.toks := R.less (by decide)
  refine wpAny_Call_NameR ((Ev.blt rfl rfl rfl (by decide) rfl : Ev (fz w h₀ N₀) 2 [] ρ _ _) A E s _ Rk T fun v₁ s₁ t₁ r₁ => ?_)
  obtain rfl : v₁ = .type "zip" := r₁
  have T₁ := T.keeps t₁.heap
  refine PyProof.Rows.callWith_type1 (e := szRange) (rest := [szGen]) ?_ rfl rfl
  refine Calls.spliced_cons ?_
  refine wpAny_Call_NameR ((Ev.blt rfl rfl rfl (by decide) rfl : Ev (fz w h₀ N₀) 2 [] ρ _ _) A E s₁ _ (Rk.to t₁) T₁ fun v₂ s₂ t₂ r₂ => ?_)
  obtain rfl : v₂ = .type "range" := r₂
  refine PyProof.Rows.callWith_type1 (rest := []) ?_ rfl rfl
  refine Calls.spliced_cons (wpAny_Constant_int (k := 0) (pos := ⟨202, 46, 202, 47⟩) (Calls.spliced_nil (call_range_1 ?_)))
  generalize hO : ({ cls := .type "range", data := .fields #[.int 0 (s₂.toks + 1), .int 3 s₂.toks, .int 1 (s₂.toks + 1 + 1)] } : Obj) = Or
  obtain ⟨s₃, hs₃⟩ : ∃ s₃ : Shared, s₃ = ({ s₂ with heap := s₂.heap.push Or, toks := s₂.toks + 1 + 1 + 1 } : Shared) := ⟨_, rfl⟩
  refine at_state (s' := s₃) hs₃.symm ?_
  have t₃ : To s₂ s₃ := by rw [hs₃]; exact To.mk (Kp.push _ _) (Nat.le_succ_of_le (Nat.le_succ_of_le (Nat.le_succ _)))
  have hr₃ : IsRange s₃.heap s₂.heap.objs.size 0 3 1 (s₂.toks + 1) s₂.toks (s₂.toks + 1 + 1) := by rw [hs₃]; unfold IsRange; rw [← hO]; exact Heap.get?_push_size _ rfl
  generalize s₂.heap.objs.size = r at hr₃
  generalize s₂.toks + 1 = ta at hr₃
  generalize s₂.toks = tb at hr₃
  generalize ta + 1 = tc at hr₃
  have T₃ := (T₁.keeps t₂.heap).keeps t₃.heap
  refine Calls.spliced_cons ?_
  refine wpAny_Call_NameR ((Ev.glob rfl rfl rfl : Ev (fz w h₀ N₀) 2 [] ρ _ _) A E s₃ _ (((Rk.to t₁).to t₂).to t₃) T₃ fun v₄ s₄ t₄ r₄ => ?_)
  obtain rfl : v₄ = .ref 35 := r₄
  have T₄ := T₃.keeps t₄.heap
  have R₄ := (((Rk.to t₁).to t₂).to t₃).to t₄
  have ha : EvAll (fz w h₀ N₀) 2 [] ρ [.Name (S "row") ⟨202, 70, 202, 73⟩] [.dat (.list (intsD (rowG m f sx)))] := .cons (fun _ => rfl) (Ev.name hrow rfl) .nil
  refine Calls.callWith_function (o := o35_7 w.params) (fd := fnG) (ha.args A E s₄ _ R₄ T₄ fun vs₅ s₅ t₅ r₅ => ⟨⟨(T₄.keeps t₅.heap).cxn.kin 35 _ (kF_at 4 rfl) (by decide), rfl⟩, ?_⟩)
  have T₅ := T₄.keeps t₅.heap
  obtain ⟨v, rfl, rv⟩ : ∃ v, vs₅ = [v] ∧ Rd (fun _ => False) s₅.heap v (.list (intsD (rowG m f sx))) := by
    cases r₅ with
    | cons a b => cases b; exact ⟨_, rfl, Rd.less (fun _ q => q.elim) a⟩
  -- the generator
  obtain ⟨rw_, rfl⟩ : ∃ a : Addr, v = .ref a := by cases rv; exact ⟨_, rfl⟩
  obtain ⟨vs, hl, hrd⟩ : ∃ vs : List Value, s₅.heap.IsList rw_ vs.toArray ∧ RdAll (fun _ => False) s₅.heap vs (intsD (rowG m f sx)) := by
    cases rv with
    | @list _ vs n _ e hn hr => exact ⟨vs.toList, ⟨_, e, rfl, n, rfl⟩, hr⟩
  refine gen_call (k := 1) (R₄.to t₅) T₅.cxn fun h₆ tk₆ q₆ k₆ n₆ g₆ z₆ => ?_
  have hr₅ : IsRange s₅.heap r 0 3 1 ta tb tc := t₅.heap _ _ (t₄.heap _ _ hr₃)
  have Cb : Cx w s₅.heap := T₅.cxn
  have hrwlt : (rw_ : Nat) < s₅.heap.objs.size := by obtain ⟨o, e, _⟩ := hl; exact Heap.lt_size e
  have gn₅ : Gn s s₅ := Gn.ofTo (((((t₁.trans t₂).trans t₃).trans t₄).trans t₅))
  have kp₅ : Kp s.heap s₅.heap := fun b o e => t₅.heap _ _ (t₄.heap _ _ (t₃.heap _ _ (t₂.heap _ _ (t₁.heap _ _ e))))
  have tq₅ : s.toks ≤ s₅.toks := gn₅.le
  have nlt₅ := T₅.nlt
  generalize hgl : s₅.heap.objs.size = gl at n₆ g₆ z₆ hrwlt
  obtain ⟨s₆, hs₆⟩ : ∃ s₆ : Shared, s₆ = ({ s₅ with heap := h₆, toks := tk₆, gens := s₅.gens.push (.fresh (.func (dB (st 4)) (envG gl))) } : Shared) := ⟨_, rfl⟩
  refine at_state (s' := s₆) hs₆.symm ?_
  have gn₆ : Gn s₅ s₆ := ⟨h₆, tk₆, _, hs₆, q₆, fun x => x.push rfl⟩
  have eg₆ : s₆.gens = s₅.gens.push (.fresh (.func (dB (st 4)) (envG gl))) := by rw [hs₆]
  obtain rfl : h₆ = s₆.heap := by rw [hs₆]
  refine Calls.spliced_nil ?_
  refine call_zip_rg (k₆ _ _ hr₅) g₆ fun h₇ hz₇ hTI₇ hTO₇ h1₇ z₇ k₇ => ?_
  rw [z₆] at hz₇ hTI₇ hTO₇ h1₇ z₇
  rw [z₆]
  refine wpAny_pyIter_zip hz₇ ?_
  refine wpAny_newObj_type ?_
  have zD : h₇.objs.size = gl + 6 := by omega
  show wpAny _ _ _ _ _ _
  rw [zD]
  generalize hH8 : h₇.push { cls := .type "list", data := .seq ([] : List Value).toArray } = h₈
  have k₈ : Kp h₇ h₈ := hH8 ▸ Kp.push _ _
  have z₈ : h₈.objs.size = gl + 7 := by rw [← hH8, Heap.size_push, zD]
  have hD₈ : h₈.PlainList (gl + 6) #[] := ⟨0, by rw [← hH8, ← zD]; exact Heap.get?_push_size _ rfl⟩
  refine newCompEnv (X := lf w (lx0 h₀) (envSz h₀.objs.size)) (s := { s₆ with heap := h₈ }) (oc := []) (.no (fun _ _ => rfl) (fun _ => rfl)) fun h₉ C c env' eC _ k₉ hC _ he hl' => ?_
  have eC : C = gl + 7 := eC.trans z₈
  have k₉ : Kp h₈ h₉ := k₉
  subst eC
  have he : ({ env' with scope := relabel szScope (envSz h₀.objs.size) } : Env) = compEnvC szScope [] (gl + 7) (envSz h₀.objs.size) := he
  rw [he, hl']
  obtain ⟨s₉, hs₉⟩ : ∃ s₉ : Shared, s₉ = ({ s₆ with heap := h₉ } : Shared) := ⟨_, rfl⟩
  have k79 : Kp h₇ h₉ := fun b o e => k₉ _ _ (k₈ _ _ e)
  have k59 : Kp s₅.heap h₉ := fun b o e => k79 _ _ (k₇ _ _ (k₆ _ _ e))
  have eh₉ : s₉.heap = h₉ := by rw [hs₉]
  have et₉ : s₉.toks = s₆.toks := by rw [hs₉]
  have eg₉ : s₉.gens = s₆.gens := by rw [hs₉]
  have tq₆ : s₅.toks ≤ s₆.toks := gn₆.le
  have n₉ : h₉.Ns gl (fun x => [((S "grouping"), Value.ref rw_)].reverse.lookup x) := n₆.at' fun o e => k79 _ _ (k₇ _ _ e)
  have gn₉ : Gn s s₉ := (gn₅.trans gn₆).trans ⟨h₉, s₆.toks, s₆.gens, by rw [hs₉], Nat.le_refl _, id⟩
  have loop : codeAny (mo w) A (.compLoop szC 0 (.ref (gl + 2 + 3 : Nat)) (.ref (gl + 6 : Nat)) (compEnvC szScope [] (gl + 7) (envSz h₀.objs.size))) (compPost (mo w) A E none Q (.ref (gl + 6 : Nat)) (gl + 7)) s₉ := by
    refine sz_loop (ys := dueG m f sx) (hb := s₅.heap) (gl := gl) (ga := gl + 1) (i1 := gl + 2) (TI := gl + 2 + 1) (TO := gl + 2 + 2) (lim := gl + 8) (g := s₅.gens.size) ((R.less (by decide)).up gn₉.le) (sz_zo hgl) (sz_dc gl) (by unfold dueG; split <;> simp) ?_ fun s' m' gn' kb' ns' hv => ?_
    · refine { gn := Gn.refl _, hz := ?_, hTI := ?_, hTO := ⟨.none, .none, ?_⟩, h1 := ?_, hga := isGen_at g₆ fun o e => ?_, G := fun _ => ?_, hD := ⟨#[], ?_, .nil⟩, T := ?_, hi := Nat.zero_le _, hiy := Nat.zero_le _ } <;> (try rw [eh₉])
      · exact k79 _ _ hz₇
      · exact k79 _ _ hTI₇
      · exact k79 _ _ hTO₇
      · exact k79 _ _ h1₇
      · exact k79 _ _ (k₇ _ _ e)
      · refine ⟨.fresh (.func (dB (st 4)) (envG gl)), by rw [eg₉, eg₆]; simp, fun s'' gk => ⟨rfl, ?_⟩⟩
        have hgs : s''.heap.Ns gl (fun x => [((S "grouping"), Value.ref rw_)].reverse.lookup x) := n₉.at' fun o e => gk.1 gl o (.inl rfl) (by rw [eh₉]; exact e)
        refine gen_start hf hs ⟨_, _, hrd⟩ rfl hl ?_ ?_ (Nat.lt_of_lt_of_le hrwlt (Nat.le_add_right gl 8)) (Nat.lt_add_of_pos_right (by decide)) (Nat.ne_of_lt hrwlt) (Nat.le_trans (Nat.le_of_eq hgl) (Nat.le_add_right gl 8)) ⟨(sz_top gl).1, (sz_top gl).2, gk.2.2.2⟩
        · have R₈ : Rm 10 A s''.toks := R.up (Nat.le_trans gn₉.le gk.2.2.1)
          exact R₈.in1.in1
        · refine Stt.lx (l := lx0 s₅.heap) Cb gk.2.1 hgs (Nat.le_of_eq hgl) ⟨rfl, rfl, rfl⟩ (fun _ h => nomatch h) (fun _ _ h => nomatch h) .nil fun p hp => ?_
          rw [List.mem_singleton.mp hp]
          exact ⟨.ref rw_, ⟨.inl ⟨rfl, _, hgs, rfl⟩⟩, rfl⟩
      · obtain ⟨c, e⟩ := hD₈; exact ⟨c, k₉ _ _ e⟩
      · exact Stt.lx (l := lx0 s₅.heap) Cb k59 hC (Nat.le_trans (Nat.le_of_eq hgl) (Nat.le_add_right gl 7)) ⟨rfl, rfl, rfl⟩ (fun _ h => nomatch h) (fun _ _ h => nomatch h) .nil (fun _ h => nomatch h)
    · refine ⟨m', ns', fun h' hs' => ?_⟩
      obtain ⟨vs', ⟨c, hv⟩, hvr⟩ := hv
      refine h _ _ ((gn₉.trans gn').trans ⟨h', _, _, rfl, Nat.le_refl _, id⟩) (fun (b : Nat) o e => ?_) (.list (hs'.extBut _ _ (fun q => Nat.ne_of_lt (Nat.lt_succ_self (gl + 6)) q) hv) (fun q => by have := nlt₅ _ q; rw [hgl] at this; exact Nat.lt_irrefl _ (Nat.lt_of_le_of_lt (Nat.le_add_right gl 6) this)) (rdInts hvr))
      have e5 := kp₅ _ _ e
      have : b < s₅.heap.objs.size := Heap.lt_size e5
      rw [hgl] at this
      exact hs'.extBut _ _ (fun q => Nat.lt_irrefl _ (Nat.lt_of_le_of_lt (Nat.le_add_right gl 7) (Nat.lt_of_le_of_lt (Nat.le_of_eq (show gl + 7 = b from Eq.symm q)) this))) (kb' _ _ e5)
  refine at_codeState hs₉ (codeAny_compStart_list loop (wpAny_pyIter_zip (by rw [eh₉]; exact k79 _ _ hz₇) loop))
end
end Mine
end
section
open PySem PySem.W PyProof.Rows PySem.Builtin PySem.Builtin.Str
open Sem (wp)
namespace Mine
noncomputable def szF (n : Int) : Int := 1 + n.fmod 3
noncomputable def szS (n : Int) : Int := 1 + (n.fdiv 3).fmod (if 2 < szF n then 2 else szF n)
noncomputable def szM (n : Int) : Int := (n.fdiv 6).fmod 3
noncomputable def sizesF (n : Int) : List Int := dueG (szM n).toNat (szF n) (szS n)
theorem szF_range (n : Int) : 1 ≤ szF n ∧ szF n ≤ 3 := by
  have h1 := Int.fmod_nonneg_of_pos n (b := 3) (by decide)
  have h2 := Int.fmod_lt_of_pos n (b := 3) (by decide)
  unfold szF; omega
theorem szD_range (n : Int) : 1 ≤ (if 2 < szF n then 2 else szF n) ∧ (if 2 < szF n then 2 else szF n) ≤ 2 := by
  have := szF_range n
  split <;> omega
theorem szS_range (n : Int) : 1 ≤ szS n ∧ szS n ≤ 3 := by
  have hd := szD_range n
  have h1 := Int.fmod_nonneg_of_pos (n.fdiv 3) (b := if 2 < szF n then 2 else szF n) (by omega)
  have h2 := Int.fmod_lt_of_pos (n.fdiv 3) (b := if 2 < szF n then 2 else szF n) (by omega)
  unfold szS; omega
theorem szM_range (n : Int) : 0 ≤ szM n ∧ szM n < 3 := ⟨Int.fmod_nonneg_of_pos _ (by decide), Int.fmod_lt_of_pos _ (by decide)⟩
section
variable {w : World} {A : Around} {E : Value → Shared → Prop} {s : Shared} {k : Nat}
/-- the lists, ahead of the return -/
theorem sz_rows {n : Int} {h₀ : Heap} {N₀ : Addr → Prop} : Thru (fz w h₀ N₀) 2 [] [(S "number", .dat (.int n))] ((dB (st 26)).take 5) (fun W' ρ' => W' = [] ∧ Sub [(S "row", .dat (.list (intsD (rowG (szM n).toNat (szF n) (szS n))))), (S "due", .dat (.list (intsD (sizesF n))))] ρ') := by
  have hf := szF_range n
  have hd := szD_range n
  have hm := szM_range n
  refine Thru.cons (Thru.assign (d := .dat (.int (szF n))) (Ev.addI Ev.int (Ev.modI (Ev.name rfl rfl) Ev.int rfl)) (.inl rfl) rfl) ?_
  rintro W' ρ' ⟨rfl, rfl⟩
  refine Thru.pre (ρ' := [(S "first", .dat (.int (szF n))), (S "number", .dat (.int n))]) ⟨rfl, rfl, trivial⟩ ?_
  refine Thru.cons (Thru.assign (d := .dat (.int (szS n))) (Ev.addI Ev.int (Ev.modI (Ev.fdivI (Ev.name rfl rfl) Ev.int rfl (by decide)) (Ev.call (Ev.blt rfl rfl rfl (by decide) rfl) (.b _) (.cons (fun _ => rfl) (Ev.name rfl rfl) (.cons (fun _ => rfl) Ev.int .nil)) Cn.min2) (by
    rw [beq_eq_false_iff_ne]; omega))) (.inl rfl) rfl) ?_
  rintro W' ρ' ⟨rfl, rfl⟩
  refine Thru.pre (ρ' := [(S "second", .dat (.int (szS n))), (S "first", .dat (.int (szF n))), (S "number", .dat (.int n))]) ⟨rfl, rfl, rfl, trivial⟩ ?_
  refine Thru.cons (Thru.twoS (a := .list (intsD [szF n, szS n, 1])) (b := .list (intsD [szF n, szS n, 1])) (Ev.tuple (.cons (fun _ => rfl) (Ev.list (.cons (fun _ => rfl) (Ev.name rfl rfl) (.cons (fun _ => rfl) (Ev.name rfl rfl) (.cons (fun _ => rfl) Ev.int .nil))) (Nat.le_of_ble_eq_true rfl)) (.cons (fun _ => rfl) (Ev.list (.cons (fun _ => rfl) (Ev.name rfl rfl) (.cons (fun _ => rfl) (Ev.name rfl rfl) (.cons (fun _ => rfl) Ev.int .nil))) (Nat.le_of_ble_eq_true rfl)) .nil)) (Nat.le_of_ble_eq_true rfl)) (.inl rfl) (.inl rfl) rfl rfl) ?_
  rintro W' ρ' ⟨rfl, rfl⟩
  refine Thru.pre (ρ' := [(S "row", .dat (.list (intsD [szF n, szS n, 1]))), (S "due", .dat (.list (intsD [szF n, szS n, 1]))), (S "second", .dat (.int (szS n))), (S "first", .dat (.int (szF n))), (S "number", .dat (.int n))]) ⟨rfl, rfl, rfl, rfl, rfl, trivial⟩ ?_
  have tst : ∀ {ρ : Vars} (c : Int) {p1 p2 p3 p4 p5 p6 p7 : Pos}, ρ.lookup (S "number") = some (.dat (.int n)) → Tst (fz w h₀ N₀) 2 [] ρ (.Compare (.BinOp (.BinOp (.Name (S "number") p1) .FloorDiv (.Constant (.int 6) 0 p2) p3) .Mod (.Constant (.int 3) 0 p4) p5) [.Eq] [.Constant (.int c) 0 p6] p7) (szM n == c) := fun c _ _ _ _ _ _ _ hn =>
    Tst.cmpD (Ev.modI (Ev.fdivI (Ev.name hn rfl) Ev.int rfl (by decide)) Ev.int rfl) Ev.int (Cmp.eqI _ _) rfl
  refine Thru.cons (P := fun W' ρ' => W' = [] ∧ Sub [(S "row", .dat (.list (intsD (if szM n = 0 then [szF n, szS n, 0, 3] else [szF n, szS n, 1])))), (S "due", .dat (.list (intsD (if szM n = 0 then [szF n, szS n, szS n] else [szF n, szS n, 1])))), (S "second", .dat (.int (szS n))), (S "first", .dat (.int (szF n))), (S "number", .dat (.int n))] ρ') (Thru.ifT (tst 0 rfl) ?_) ?_
  · by_cases h : szM n = 0
    · rw [if_pos h, if_pos h, h]
      refine (Thru.twoS (a := .list (intsD [szF n, szS n, 0, 3])) (b := .list (intsD [szF n, szS n, szS n])) (Ev.tuple (.cons (fun _ => rfl) (Ev.list (.cons (fun _ => rfl) (Ev.name rfl rfl) (.cons (fun _ => rfl) (Ev.name rfl rfl) (.cons (fun _ => rfl) Ev.int (.cons (fun _ => rfl) Ev.int .nil)))) (Nat.le_of_ble_eq_true rfl)) (.cons (fun _ => rfl) (Ev.list (.cons (fun _ => rfl) (Ev.name rfl rfl) (.cons (fun _ => rfl) (Ev.name rfl rfl) (.cons (fun _ => rfl) (Ev.name rfl rfl) .nil))) (Nat.le_of_ble_eq_true rfl)) .nil)) (Nat.le_of_ble_eq_true rfl)) (.inl rfl) (.inl rfl) rfl rfl).to ?_
      rintro W' ρ' ⟨rfl, rfl⟩
      exact ⟨rfl, rfl, rfl, rfl, rfl, rfl, trivial⟩
    · rw [if_neg h, if_neg h, show (szM n == 0) = false from by simpa using h]
      exact Thru.nil ⟨rfl, rfl, rfl, rfl, rfl, rfl, trivial⟩
  rintro W' ρ' ⟨rfl, hs⟩
  refine Thru.pre hs ?_
  refine Thru.cons (Thru.ifT (tst 1 rfl) ?_) fun W' ρ' h => Thru.nil h
  by_cases h : szM n = 1
  · rw [h]
    refine (Thru.twoS (a := .list (intsD [szF n, szS n, 127, 3])) (b := .list (intsD [szF n, szS n])) (Ev.tuple (.cons (fun _ => rfl) (Ev.list (.cons (fun _ => rfl) (Ev.name rfl rfl) (.cons (fun _ => rfl) (Ev.name rfl rfl) (.cons (fun _ => rfl) Ev.int (.cons (fun _ => rfl) Ev.int .nil)))) (Nat.le_of_ble_eq_true rfl)) (.cons (fun _ => rfl) (Ev.list (.cons (fun _ => rfl) (Ev.name rfl rfl) (.cons (fun _ => rfl) (Ev.name rfl rfl) .nil)) (Nat.le_of_ble_eq_true rfl)) .nil)) (Nat.le_of_ble_eq_true rfl)) (.inl rfl) (.inl rfl) rfl rfl).to ?_
    rintro W' ρ' ⟨rfl, rfl⟩
    exact ⟨rfl, by rw [sizesF, h]; exact ⟨rfl, rfl, trivial⟩⟩
  · rw [show (szM n == 1) = false from by simpa using h]
    refine Thru.nil ⟨rfl, ?_⟩
    by_cases h0 : szM n = 0
    · rw [if_pos h0, if_pos h0, sizesF, h0]; exact ⟨rfl, rfl, trivial⟩
    · have h2 : szM n = 2 := by omega
      rw [if_neg h0, if_neg h0, sizesF, h2]; exact ⟨rfl, rfl, trivial⟩
/-- the whole call -/
theorem sizes_call {n : Int} {t : Tok} {Q : Value → Shared → Prop} {N : Addr → Prop} (R : Rm 12 A s.toks) (C : Cx w s.heap) (hN : ∀ a, N a → a < s.heap.objs.size)
    (h : ∀ v s', Gn s s' → Kp s.heap s'.heap → Rd N s'.heap v (.tuple [.list (intsD (sizesF n)), .list (intsD (sizesF n))]) → Q v s') : wpAny (mo w) A (call (.ref 226) [.int n t]) Q E s := by
  have hrec : s.heap.CodeRec (.ref 225) (S "_law_sizes") := ⟨225, o225_32 w.params, _, _, rfl, C.kin 225 _ (kF_at 44 rfl) (by decide), rfl, rfl⟩
  refine wpAny_call (call_cellsT (name := S "_law_sizes") (params := dA (st 26)) (body := dB (st 26)) (scope := dS (st 26)) (pm := .str (S "law_to0073_01") 2347) (cd := .ref 225) (doc := .none) (binds := [(S "number", .int n t)]) R.room (C.kin 226 _ (kF_at 45 rfl) (by decide)) rfl C.nolimit hrec rfl
    (fun x hx => by rw [List.mem_singleton.mp hx]; exact .inl rfl) (fun h₁ tk htk F L => ?_) rfl rfl rfl)
  have T : Stt (fz w s.heap N) [] [(S "number", .dat (.int n))] h₁ := Stt.enter (ns := [S "number"]) (vs := [.int n t]) (ds := [.dat (.int n)]) C hN (.cons (.int _ _) .nil) rfl (by decide) ⟨.inl rfl, trivial⟩ F L
  have R₁ : Rm 11 (A.deeper (envSz s.heap.objs.size)) tk := (R.deeper _).up htk
  have e : execs (dB (st 26)) (envSz s.heap.objs.size) = execs ((dB (st 26)).take 5 ++ (dB (st 26)).drop 5) (envSz s.heap.objs.size) := by rw [List.take_append_drop]
  show wpAny _ _ (execs (dB (st 26)) (envSz s.heap.objs.size)) _ _ _
  rw [e, execs_append]
  refine wpAny_bind (sz_rows _ _ { s with heap := h₁, toks := tk } _ (R₁.less (by decide)) T ?_)
  rintro W' ρ' s₂ ⟨rfl, hs⟩ T₂ m₂
  have T₂ := T₂.less hs.mem
  have e2 : (dB (st 26)).drop 5 = [.Return (some (.Tuple [szC, .Name (S "due") ⟨202, 78, 202, 81⟩] 0 ⟨202, 11, 202, 82⟩)) ⟨202, 4, 202, 82⟩] := by rfl
  show wpAny _ _ (execs ((dB (st 26)).drop 5) _) _ _ _
  rw [e2]
  have R₂ : Rm 11 (A.deeper (envSz s.heap.objs.size)) s₂.toks := R₁.up m₂.le
  refine wpAny_execs_cons (wpAny_Return_some (Tuple_ ?_))
  refine Calls.spliced_cons (sz_comp (szF_range n) (szS_range n) (R₂.less (by decide)) T₂ rfl fun v₃ s₃ g₃ k₃ r₃ => ?_)
  have T₃ := T₂.keeps k₃
  refine Calls.spliced_cons ((Ev.name (d := .dat (.list (intsD (sizesF n)))) rfl rfl : Ev (fz w s.heap N) 2 [] _ _ _) _ _ _ _ ((R₂.up g₃.le).less (by decide)) T₃ fun v₄ s₄ t₄ r₄ => Calls.spliced_nil ?_)
  have T₄ := T₃.keeps t₄.heap
  refine wpAny_newObj_type ?_ (by show _ ≤ sizeLine; exact Nat.le_of_ble_eq_true rfl)
  obtain ⟨h2, tk2, es₂, q₂⟩ := m₂.same
  have kk : Kp s.heap s₂.heap := fun b o eb => T₂.keep b o eb
  refine h _ _ (((Gn.trans ⟨h₁, tk, s.gens, rfl, htk, id⟩ ⟨h2, tk2, s.gens, es₂, q₂, id⟩ : Gn s s₂).trans g₃).trans ((Gn.ofTo t₄).trans ⟨_, _, _, rfl, Nat.le_refl _, id⟩)) (fun b o eb => Kp.push _ _ b o (T₄.keep b o eb)) ?_
  have less : ∀ {v d}, Rd ((fz w s.heap N).N []) s₄.heap v d → Rd N (s₄.heap.push { cls := .type "tuple", data := .seq #[v₃, v₄] }) v d := fun r => (Rd.less (fun _ q => .inl q) r).keeps (Kp.push _ _)
  exact .tuple (Heap.get?_push_size _ rfl) (fun q => T₄.fresh (fun _ _ e => e) (.inl q)) (.cons (less (r₃.keeps t₄.heap)) (.cons (less r₄) .nil))
end
end Mine
end
section
open PySem PySem.W PyProof.Rows PySem.Builtin PySem.Builtin.Str
namespace Mine
noncomputable def sgL : List Str := [S "&", S "<", S ">", S "\"", S "\r", S "\n", S "\t"]
noncomputable def sgS (i : Nat) : Str := sgL.getD i (S "")
noncomputable def signsS : Str := S "&<>\"\r\n\t"
noncomputable def wsL : List Nat := [10, 9, 13, 32]
noncomputable def wrapL (e : Bool) (cs : List Nat) : List Nat := if e then cs.flatMap fun c => [92, c] else 34 :: ((cs.flatMap fun c => if c = 34 then [92, 34] else [c]) ++ [34])
noncomputable def caseOk (k i : Nat) (u p e : Bool) (j : Int) : Bool :=
  repsOk (escL k) (sgS i) && decide (0 ≤ placeF (sgS i)) && decide (placeF (sgS i) < 7) &&
  typOk u p j (reps (escL k) (sgS i)) && prepOk (rawF u p j (reps (escL k) (sgS i))) && (prepF (rawF u p j (reps (escL k) (sgS i))) == meantF k (sgS i)) &&
  (match (rawF u p j (reps (escL k) (sgS i))).cps.toList with | [] => false | cs => cs.all (fun c => c != 92) && decide (cs.length ≤ 100) && ((wrapF e (rawF u p j (reps (escL k) (sgS i)))).cps.toList == wrapL e cs))
noncomputable def casesOk (k i : Nat) : Bool := [true, false].all fun u => [true, false].all fun p => [true, false].all fun e => (List.range 11).all fun j => caseOk k i u p e (j : Int)
theorem cases0 : (List.range 7).all (casesOk 0) = true := by decide +kernel
theorem cases1 : (List.range 7).all (casesOk 1) = true := by decide +kernel
theorem cases2 : (List.range 7).all (casesOk 2) = true := by decide +kernel
theorem cases3 : (List.range 7).all (casesOk 3) = true := by decide +kernel
theorem cases4 : (List.range 7).all (casesOk 4) = true := by decide +kernel
theorem cases_all {k i : Nat} (hk : k < 5) (hi : i < 7) (u p e : Bool) {j : Int} (h0 : 0 ≤ j) (h1 : j < 11) : caseOk k i u p e j = true := by
  have h : (List.range 7).all (casesOk k) = true := by
    have : k = 0 ∨ k = 1 ∨ k = 2 ∨ k = 3 ∨ k = 4 := by omega
    rcases this with rfl | rfl | rfl | rfl | rfl
    · exact cases0
    · exact cases1
    · exact cases2
    · exact cases3
    · exact cases4
  have h2 := List.all_eq_true.mp h i (List.mem_range.mpr hi)
  unfold casesOk at h2
  have h3 := List.all_eq_true.mp h2 u (by cases u <;> simp)
  have h4 := List.all_eq_true.mp h3 p (by cases p <;> simp)
  have h5 := List.all_eq_true.mp h4 e (by cases e <;> simp)
  have h6 := List.all_eq_true.mp h5 j.toNat (List.mem_range.mpr (by omega))
  rw [Int.toNat_of_nonneg h0] at h6
  exact h6
/-- what holds of a case -/
structure CaseP (k i : Nat) (u p e : Bool) (j : Int) (raw : Str) : Prop where
  reps : repsOk (escL k) (sgS i) = true
  pl0 : 0 ≤ placeF (sgS i)
  pl7 : placeF (sgS i) < 7
  typ : typOk u p j (Mine.reps (escL k) (sgS i)) = true
  prep : prepOk raw = true
  meant : prepF raw = meantF k (sgS i)
  ne : raw.cps.toList ≠ []
  no92 : ∀ c ∈ raw.cps.toList, c ≠ 92
  len : raw.cps.toList.length ≤ 100
  wrap : (wrapF e raw).cps.toList = wrapL e raw.cps.toList
theorem case_of {k i : Nat} (hk : k < 5) (hi : i < 7) (u p e : Bool) {j : Int} (h0 : 0 ≤ j) (h1 : j < 11) : CaseP k i u p e j (rawF u p j (reps (escL k) (sgS i))) := by
  have h := cases_all hk hi u p e h0 h1
  unfold caseOk at h
  simp only [Bool.and_eq_true, decide_eq_true_eq] at h
  obtain ⟨⟨⟨⟨⟨⟨a, b⟩, c⟩, d⟩, f⟩, g⟩, m⟩ := h
  generalize rawF u p j (reps (escL k) (sgS i)) = raw at f g m ⊢
  have g := beq_iff_eq.mp g
  cases hr : raw.cps.toList with
  | nil => rw [hr] at m; cases m
  | cons x r =>
    rw [hr] at m
    simp only [Bool.and_eq_true, decide_eq_true_eq] at m
    obtain ⟨⟨m1, m2⟩, m3⟩ := m
    exact ⟨a, b, c, d, f, g, by rw [hr]; simp, fun y hy => by
      rw [hr] at hy
      have := List.all_eq_true.mp m1 y hy
      simpa using this, by rw [hr]; exact m2, by rw [hr]; exact beq_iff_eq.mp m3⟩
theorem srcs_true (cs : List Nat) : srcs (cs.map fun c => (true, c)) = cs.flatMap fun c => [92, c] := by
  induction cs with
  | nil => rfl
  | cons c r ih => show 92 :: c :: srcs (r.map _) = _; rw [ih]; rfl
theorem srcs_quote (cs : List Nat) : srcs (cs.map fun c => (c == 34, c)) = cs.flatMap fun c => if c = 34 then [92, 34] else [c] := by
  induction cs with
  | nil => rfl
  | cons c r ih =>
    rw [List.map_cons, List.flatMap_cons, ← ih]
    by_cases h : c = 34
    · subst h; rfl
    · rw [if_neg h, show (c == 34) = false from by simpa using h]; rfl
/-- one written word, and the sign behind it -/
theorem tk_piece (e : Bool) (cs : List Nat) (w : Nat) (r : List Nat) (hne : cs ≠ []) (h92 : ∀ c ∈ cs, c ≠ 92) (hl : cs.length ≤ 100) (hw : isWs w = true) : ∃ r', Tk (wrapL e cs ++ w :: r) cs r' ∧ (r' = r ∨ r' = w :: r) := by
  cases e with
  | true =>
    cases cs with
    | nil => exact absurd rfl hne
    | cons c cs =>
      refine ⟨r, ?_, .inl rfl⟩
      have := Tk.e c (cs.map fun c => (true, c)) w r (fun x hx => by obtain ⟨y, _, rfl⟩ := List.mem_map.mp hx; rfl) hw (by rw [List.length_map]; simp at hl; omega)
      rw [srcs_true, List.map_map] at this
      simpa [wrapL, Function.comp_def] using this
  | false =>
    refine ⟨w :: r, ?_, .inr rfl⟩
    have := Tk.q (cs.map fun c => (c == 34, c)) (w :: r) (fun x hx h => by
      obtain ⟨y, hy, rfl⟩ := List.mem_map.mp hx
      exact ⟨by simpa using h, h92 y hy⟩) (by rw [List.length_map]; omega)
    rw [srcs_quote, List.map_map] at this
    simpa [wrapL, Function.comp_def] using this
structure Pc where
  e : Bool
  cs : List Nat
  w : Nat
structure Pc.ok (p : Pc) : Prop where
  ne : p.cs ≠ []
  no92 : ∀ c ∈ p.cs, c ≠ 92
  len : p.cs.length ≤ 100
  ws : isWs p.w = true
noncomputable def flatP : List Pc → List Nat
  | [] => []
  | p :: r => wrapL p.e p.cs ++ p.w :: flatP r
theorem tks_ws {c : Nat} {cs : List Nat} {ts : List (List Nat)} (h : isWs c = true) : Tks cs ts → Tks (c :: cs) ts
  | .nil t => .nil (.w c _ _ _ h t)
  | .cons t n r => .cons (.w c _ _ _ h t) n r
theorem tks_flat : ∀ {ps : List Pc}, (∀ p ∈ ps, p.ok) → Tks (flatP ps) (ps.map (·.cs))
  | [], _ => .nil .n
  | p :: r, h => by
    have hp := h p List.mem_cons_self
    have ih := tks_flat fun q hq => h q (List.mem_cons_of_mem _ hq)
    obtain ⟨r', ht, hr⟩ := tk_piece p.e p.cs p.w (flatP r) hp.ne hp.no92 hp.len hp.ws
    refine .cons ht hp.ne ?_
    rcases hr with rfl | rfl
    · exact ih
    · exact tks_ws hp.ws ih
end Mine
end
section
open PySem PySem.W PyProof.Rows PySem.Builtin PySem.Builtin.Str
namespace Mine
section
variable {X : Fx} {k : Nat} {W : Own} {ρ : Vars}
/-- x, y = 'c', []: the list is the frame's own -/
theorem Thru.strOwn {x y : Str} {c : Str} {px py tpos pos p1 p2 p3 : Pos} {kk k1 k2 : Nat} (hx : Kn X.env x) (hy : Kn X.env y)
    (hs : swapsWithSole [.Tuple [.Name x px, .Name y py] kk tpos] (.Tuple [.Constant (.str c) k1 p1, .List [] p2] k2 p3) pos.line X.env = pure false)
    (hw : swappedStores [.Tuple [.Name x px, .Name y py] kk tpos] (.Tuple [.Constant (.str c) k1 p1, .List [] p2] k2 p3) X.env = pure none)
    (hst : starEach [.Constant (.str c) k1 p1, .List [] p2] X.env = [(false, eval (.Constant (.str c) k1 p1) X.env), (false, eval (.List [] p2) X.env)]) :
    Thru X k W ρ [.Assign [.Tuple [.Name x px, .Name y py] kk tpos] (.Tuple [.Constant (.str c) k1 p1, .List [] p2] k2 p3) pos] (fun W' ρ' => ∃ a, ¬ X.N W a ∧ W' = (a, []) :: W ∧ ρ' = put y (.val (.ref a)) (put x (.dat (.str c)) ρ)) := fun A E s Q R T q => by
  refine one (Assign_Tuple (Tuple_ ?_) hs hw)
  rw [hst]
  show wpAny _ _ (PySem.spliced [(false, eval (.Constant (.str c) k1 p1) X.env), (false, eval (.List [] p2) X.env)]) _ _ _
  refine Calls.spliced_cons (Calls.Constant_str (Calls.spliced_cons (nil_list (Calls.spliced_nil ?_))))
  obtain ⟨s₁, hs₁⟩ : ∃ s₁ : Shared, s₁ = ({ s with toks := s.toks + 1 } : Shared) := ⟨_, rfl⟩
  have t₁ : To s s₁ := by rw [hs₁]; exact To.tok _ _
  have T₁ := T.keeps t₁.heap
  have T₂ : Stt X ((s₁.heap.objs.size, []) :: W) ρ (s₁.heap.push { cls := .type "list", data := .seq #[] }) := T₁.adopt .nil
  refine wpAny_newObj_type ?_ (by show _ ≤ sizeLine; exact Nat.le_of_ble_eq_true rfl)
  have e1 : s₁.heap = s.heap := by rw [hs₁]
  rw [e1] at T₂
  have k₃ := Kp.push (s.heap.push { cls := .type "list", data := .seq #[] }) { cls := .type "tuple", data := .seq #[.str c s.toks, .ref s.heap.objs.size] }
  obtain ⟨s₃, hs₃⟩ : ∃ s₃ : Shared, s₃ = ({ s with heap := (s.heap.push { cls := .type "list", data := .seq #[] }).push { cls := .type "tuple", data := .seq #[.str c s.toks, .ref s.heap.objs.size] }, toks := s.toks + 1 } : Shared) := ⟨_, rfl⟩
  refine at_state (s' := s₃) hs₃.symm ?_
  have eh : s₃.heap = (s.heap.push { cls := .type "list", data := .seq #[] }).push { cls := .type "tuple", data := .seq #[.str c s.toks, .ref s.heap.objs.size] } := by rw [hs₃]
  have T₃ : Stt X ((s.heap.objs.size, []) :: W) ρ s₃.heap := by rw [eh]; exact T₂.keeps k₃
  have t₃ : To s s₃ := by rw [hs₃]; exact To.mk (fun b o e => k₃ _ _ (Kp.push _ _ _ _ e)) (Nat.le_succ _)
  refine Stt.assignT (xs := [x, y]) (it := .two (.dat (.str c)) (.val (.ref s.heap.objs.size))) (R.to t₃) T₃ (.two hx hy) trivial ⟨_, _, _, rfl, ⟨_, by rw [eh]; exact Heap.get?_push_size _ rfl, rfl, 0, rfl⟩, .str _ _, rfl⟩ fun s₆ T₆ m₆ => ?_
  refine q _ _ _ ⟨_, T.fresh (fun _ _ e => e), rfl, rfl⟩ T₆ ?_
  have m1 : Mv X W ((s.heap.objs.size, []) :: W) s s₃ := by
    refine ⟨let ⟨a, b, c, _, d⟩ := t₃; ⟨a, b, c, d⟩, fun b o _ e => t₃.heap b o e, fun b q => ?_⟩
    rcases List.mem_cons.mp q with rfl | q
    · exact .inr ⟨get_none (Nat.le_refl _), fun q => T.newNotT (Nat.le_refl _) q.any⟩
    · exact .inl q
  exact m1.trans m₆.mv
end
end Mine
end
section
open PySem PySem.W PyProof.Rows PySem.Builtin PySem.Builtin.Str
namespace Mine
section
variable {X : Fx} {k : Nat} {W : Own} {ρ : Vars}
/-- a slice of any list, a temporary one too -/
theorem Ev.sliceT {value : Expr} {lo hi : Option Expr} {p pos : Pos} {xs : List PyData} {a b : Option Int} (hv : Ev X k W ρ value (.dat (.list xs))) (hl : Pt X k W ρ lo a) (hh : Pt X k W ρ hi b) (hn : xs.length ≤ 100000) :
    Ev X k W ρ (.Subscript value (.Slice lo hi Option.none p) pos) (.dat (.list (sliced xs a b))) := fun A E s Q R T hq => by
  rw [eval_Subscript]
  refine wpAny_bind (hv A E s _ R T fun v s₁ k₁ r₁ => wpAny_bind (wpAny_holding (wpAny_Slice (hl.part A E s₁ _ (R.to k₁) (T.keeps k₁.heap) fun vl s₂ k₂ r₂ => hh.part A E s₂ _ ((R.to k₁).to k₂) ((T.keeps k₁.heap).keeps k₂.heap) fun vu s₃ k₃ r₃ => ?_))))
  rw [evalPart_none]
  have r₁ := Rd.keeps k₃.heap (Rd.keeps k₂.heap r₁)
  have T3 := ((T.keeps k₁.heap).keeps k₂.heap).keeps k₃.heap
  cases r₁ with
  | @list q vs n _ q1 q2 q3 =>
    have hlen := q3.length
    rw [Array.length_toList] at hlen
    have hsz : vs.size ≤ sizeLine := by have : sizeLine = 2 ^ 24 := rfl; omega
    have hL : s₃.heap.IsList q vs := ⟨_, q1, rfl, _, rfl⟩
    refine wpAny_pure ?_
    have hq' := hq (.ref (s₃.heap.objs.size + 1)) { s₃ with heap := (s₃.heap.push { cls := .type "slice", data := .fields #[vl, vu, .none] }).push { cls := .type "list", data := .seq (slicePick vs a b none) } } (((k₁.trans k₂).trans k₃).trans ((To.push _ _).trans (To.push _ _))) (by
      have hfr := T3.fresh (Kp.push s₃.heap { cls := .type "slice", data := .fields #[vl, vu, .none] })
      rw [Heap.size_push] at hfr
      refine Rd.list (vs := slicePick vs a b none) (n := 0) ?_ hfr ?_
      · have := Heap.get?_push_size (s₃.heap.push { cls := .type "slice", data := .fields #[vl, vu, .none] }) (o := { cls := .type "list", data := .seq (slicePick vs a b none) }) rfl
        rw [Heap.size_push] at this
        exact this
      · have := (q3.keeps (Kp.push s₃.heap { cls := .type "slice", data := .fields #[vl, vu, .none] })).keeps (Kp.push _ { cls := .type "list", data := .seq (slicePick vs a b none) })
        have q := this.picked (sliceRange (sliceBounds a b none vs.size).1 (sliceBounds a b none vs.size).2.1 (sliceBounds a b none vs.size).2.2)
        unfold sliced
        rw [← hlen]
        simpa [slicePick] using q)
    have hT := (hL.push { cls := .type "slice", data := .fields #[vl, vu, .none] }).typeIs (s := { s₃ with heap := s₃.heap.push { cls := .type "slice", data := .fields #[vl, vu, .none] } })
    refine wpAny_bind (wpAny_standAt (wpAny_bind ?_))
    rw [getitemInPython_of_ne hT.not_modules]
    refine wpAny_bind (wpAny_specialOf hT list_getitem_lookup (wpAny_pure (wpAny_bind ?_)))
    refine wpAny_operating ?_
    refine wpAny_getItem_list_slice (hL.push _) (Heap.IsSliceOf.new ..) r₂ r₃ .none (by simp) ?_ hsz
    rw [Heap.size_push]
    exact wpAny_bind (wpAny_letTemporaryGo (wpAny_pure hq'))
end
end Mine
end
section
open PySem PySem.W PyProof.Rows PySem.Builtin PySem.Builtin.Str
namespace Mine
noncomputable def drawnF (ns : List Int) : List Int := (ns.take 5).map fun n => n.fmod 1000000
noncomputable def numsF (ns : List Int) : List Int := drawnF ns ++ ([17, 74, 1599, 106, 1540] : List Int).drop (drawnF ns).length
noncomputable def In6 (n : Int) : Prop := 0 ≤ n ∧ n < 1000000
theorem in6_fmod (n : Int) : In6 (n.fmod 1000000) := ⟨Int.fmod_nonneg_of_pos _ (by decide), Int.fmod_lt_of_pos _ (by decide)⟩
theorem numsF_five (ns : List Int) : ∃ a b c d e, numsF ns = [a, b, c, d, e] ∧ In6 a ∧ In6 b ∧ In6 c ∧ In6 d ∧ In6 e := by
  have k : In6 17 ∧ In6 74 ∧ In6 1599 ∧ In6 106 ∧ In6 1540 := by unfold In6; decide
  obtain ⟨k1, k2, k3, k4, k5⟩ := k
  rcases ns with _ | ⟨a, _ | ⟨b, _ | ⟨c, _ | ⟨d, _ | ⟨e, r⟩⟩⟩⟩⟩
  · exact ⟨_, _, _, _, _, rfl, k1, k2, k3, k4, k5⟩
  · exact ⟨_, _, _, _, _, rfl, in6_fmod _, k2, k3, k4, k5⟩
  · exact ⟨_, _, _, _, _, rfl, in6_fmod _, in6_fmod _, k3, k4, k5⟩
  · exact ⟨_, _, _, _, _, rfl, in6_fmod _, in6_fmod _, in6_fmod _, k4, k5⟩
  · exact ⟨_, _, _, _, _, rfl, in6_fmod _, in6_fmod _, in6_fmod _, in6_fmod _, k5⟩
  · exact ⟨_, _, _, _, _, rfl, in6_fmod _, in6_fmod _, in6_fmod _, in6_fmod _, in6_fmod _⟩
noncomputable def sgI (n : Int) : Nat := ((n.fdiv 5).fmod 7).toNat
noncomputable def kdI (n : Int) : Nat := (n.fmod 5).toNat
theorem sgI_lt (n : Int) : sgI n < 7 := by
  have := Int.fmod_lt_of_pos (n.fdiv 5) (b := 7) (by decide)
  have := Int.fmod_nonneg_of_pos (n.fdiv 5) (b := 7) (by decide)
  unfold sgI; omega
theorem kdI_lt (n : Int) : kdI n < 5 := by
  have := Int.fmod_lt_of_pos n (b := 5) (by decide)
  have := Int.fmod_nonneg_of_pos n (b := 5) (by decide)
  unfold kdI; omega
theorem kdI_int (n : Int) : n.fmod 5 = ((kdI n : Nat) : Int) := by
  have := Int.fmod_nonneg_of_pos n (b := 5) (by decide)
  unfold kdI; omega
theorem sgI_int (n : Int) : (n.fdiv 5).fmod 7 = ((sgI n : Nat) : Int) := by
  have := Int.fmod_nonneg_of_pos (n.fdiv 5) (b := 7) (by decide)
  unfold sgI; omega
noncomputable def wsI (n : Int) : Nat := ((n.fdiv 3080).fmod 4).toNat
theorem wsI_lt (n : Int) : wsI n < 4 := by
  have := Int.fmod_lt_of_pos (n.fdiv 3080) (b := 4) (by decide)
  have := Int.fmod_nonneg_of_pos (n.fdiv 3080) (b := 4) (by decide)
  unfold wsI; omega
theorem wsI_int (n : Int) : (n.fdiv 3080).fmod 4 = ((wsI n : Nat) : Int) := by
  have := Int.fmod_nonneg_of_pos (n.fdiv 3080) (b := 4) (by decide)
  unfold wsI; omega
theorem sg_item : ∀ n : Nat, n < 7 → fitsSsize (n : Int) = true ∧ (Txt.charAt signsS (n : Int)).isSome = true ∧ Txt.item signsS (n : Int) = sgS n := by decide +kernel
theorem ws_item : ∀ n : Nat, n < 4 → fitsSsize (n : Int) = true ∧ (Txt.charAt wsS (n : Int)).isSome = true ∧ Txt.item wsS (n : Int) = ⟨#[wsL.getD n 0]⟩ ∧ isWs (wsL.getD n 0) = true := by decide +kernel
noncomputable def rawP (q : Nat × Int) : Str := rawF (typU (q.2.fdiv 35)) (typP (q.2.fdiv 35)) (typI (q.2.fdiv 35)) (reps (escL (kdI q.2)) (sgS q.1))
noncomputable def wcP (q : Nat × Int) : Nat := wsL.getD (wsI q.2) 0
noncomputable def pieceP (q : Nat × Int) : Str := wrapF (typE (q.2.fdiv 35)) (rawP q) ++ (⟨#[wcP q]⟩ : Str)
noncomputable def textP (qs : List (Nat × Int)) : Str := qs.foldl (fun t q => t ++ pieceP q) (S "")
noncomputable def meantP (q : Nat × Int) : Str := meantF (kdI q.2) (sgS q.1)
noncomputable def pcP (q : Nat × Int) : Pc := ⟨typE (q.2.fdiv 35), (rawP q).cps.toList, wcP q⟩
theorem caseP {q : Nat × Int} (hi : q.1 < 7) : CaseP (kdI q.2) q.1 (typU (q.2.fdiv 35)) (typP (q.2.fdiv 35)) (typE (q.2.fdiv 35)) (typI (q.2.fdiv 35)) (rawP q) :=
  case_of (kdI_lt _) hi _ _ _ (typI_range _).1 (typI_range _).2
theorem pcP_ok {q : Nat × Int} (hi : q.1 < 7) : (pcP q).ok :=
  let c := caseP hi
  ⟨c.ne, c.no92, c.len, (ws_item _ (wsI_lt _)).2.2.2⟩
theorem str_app (a b : Str) : (a ++ b).cps.toList = a.cps.toList ++ b.cps.toList := by
  show (a.cps ++ b.cps).toList = _
  rw [Array.toList_append]
theorem pieceP_cps {q : Nat × Int} (hi : q.1 < 7) : (pieceP q).cps.toList = wrapL (pcP q).e (pcP q).cs ++ [(pcP q).w] := by
  unfold pieceP
  rw [str_app, (caseP hi).wrap]; rfl
theorem textP_cps : ∀ {qs : List (Nat × Int)}, (∀ q ∈ qs, q.1 < 7) → ∀ t : Str, (qs.foldl (fun t q => t ++ pieceP q) t).cps.toList = t.cps.toList ++ flatP (qs.map pcP)
  | [], _, t => by simp [flatP]
  | q :: r, h, t => by
    rw [List.foldl_cons, textP_cps (fun x hx => h x (List.mem_cons_of_mem _ hx)), str_app, pieceP_cps (h q List.mem_cons_self)]
    simp [flatP]
theorem wrapL_len (e : Bool) (cs : List Nat) : (wrapL e cs).length ≤ 2 * cs.length + 2 := by
  have h1 : ∀ cs : List Nat, (cs.flatMap fun c => [92, c]).length = 2 * cs.length := by
    intro cs; induction cs with
    | nil => rfl
    | cons c r ih => rw [List.flatMap_cons, List.length_append, ih]; simp; omega
  have h2 : ∀ cs : List Nat, (cs.flatMap fun c => if c = 34 then [92, 34] else [c]).length ≤ 2 * cs.length := by
    intro cs; induction cs with
    | nil => simp
    | cons c r ih =>
      rw [List.flatMap_cons, List.length_append]
      have : (if c = 34 then [92, 34] else [c] : List Nat).length ≤ 2 := by split <;> simp
      rw [List.length_cons]; omega
  unfold wrapL
  split
  · rw [h1]; omega
  · simp only [List.length_cons, List.length_append, List.length_nil]
    have := h2 cs; omega
theorem pieceP_len {q : Nat × Int} (hi : q.1 < 7) : (pieceP q).length ≤ 203 := by
  show (pieceP q).cps.size ≤ 203
  rw [← Array.length_toList, pieceP_cps hi, List.length_append]
  have := wrapL_len (pcP q).e (pcP q).cs
  have := (caseP hi).len
  show _ + 1 ≤ 203
  have e : (pcP q).cs.length = (rawP q).cps.toList.length := rfl
  omega
theorem wrapP_len {q : Nat × Int} (hi : q.1 < 7) : (wrapF (typE (q.2.fdiv 35)) (rawP q)).length ≤ 202 := by
  have h := pieceP_len hi
  unfold pieceP at h
  have h : ((wrapF (typE (q.2.fdiv 35)) (rawP q)).cps ++ #[wcP q]).size ≤ 203 := h
  rw [Array.size_append] at h
  show (wrapF (typE (q.2.fdiv 35)) (rawP q)).cps.size ≤ 202
  have : (#[wcP q] : Array Nat).size = 1 := rfl
  omega
theorem textP_len : ∀ {qs : List (Nat × Int)}, (∀ q ∈ qs, q.1 < 7) → ∀ t : Str, (qs.foldl (fun t q => t ++ pieceP q) t).length ≤ t.length + 203 * qs.length
  | [], _, t => by simp
  | q :: r, h, t => by
    rw [List.foldl_cons]
    have h1 := textP_len (fun x hx => h x (List.mem_cons_of_mem _ hx)) (t ++ pieceP q)
    have h2 : (t ++ pieceP q).length = t.length + (pieceP q).length := by
      show (t.cps ++ (pieceP q).cps).size = _
      rw [Array.size_append]; rfl
    have h3 := pieceP_len (h q List.mem_cons_self)
    simp only [List.length_cons]; omega
end Mine
end
section
open PySem PySem.W PyProof.Rows PySem.Builtin PySem.Builtin.Str
namespace Mine
noncomputable abbrev envLaw (L : Addr) : Env := envOfC (S "law") (dS (st 32)) L 258 (.ref 257)
noncomputable abbrev lw (w : World) (hb : Heap) (N : Addr → Prop) (L : Addr) : Fx := ⟨w, hb, N, envLaw L⟩
theorem sliced_upto' (xs : List PyData) (b : Nat) : sliced xs none (some (b : Int)) = xs.take b := by
  by_cases hb : b ≤ xs.length
  · exact sliced_upto xs b hb
  · have e : sliceBounds none (some (b : Int)) none xs.length = (((0 : Nat) : Int), (xs.length : Int), 1) := by
      unfold sliceBounds
      simp only [Option.getD_none]
      have h1 : ¬ ((b : Int) < 0) := by omega
      simp only [h1, if_false, show (1 : Int) > 0 by decide, if_true]
      have h2 : min (b : Int) (xs.length : Int) = xs.length := by omega
      have h3 : max 0 (xs.length : Int) = xs.length := by omega
      rw [h2, h3]; rfl
    unfold sliced
    rw [e]
    show (sliceRange ((0 : Nat) : Int) (xs.length : Int) 1).filterMap (xs[·]?) = _
    rw [sliced_run xs 0 xs.length (Nat.le_refl _) (Nat.zero_le _)]
    rw [List.take_of_length_le (by simp), List.take_of_length_le (by omega)]; rfl
section
variable {w : World} {hb : Heap} {N : Addr → Prop} {L : Addr}
theorem law_drawn {ns : List Int} (hn : ns.length ≤ 63) : Thru (lw w hb N L) 4 [] [(S "script", .dat (.list (intsD ns)))] [nth (dB (st 32)) 0] (fun W' ρ' => W' = [] ∧ Sub [(S "drawn", .dat (.list (intsD (drawnF ns))))] ρ') := by
  have hsl : (ns.take 5).length ≤ 5 := by rw [List.length_take]; omega
  have hi : Ev (lw w hb N L) 4 [] [(S "script", .dat (.list (intsD ns)))] (.Subscript (.Name (S "script") ⟨242, 45, 242, 51⟩) (.Slice none (some (.Constant (.int 5) 0 ⟨242, 53, 242, 54⟩)) none ⟨242, 52, 242, 54⟩) ⟨242, 45, 242, 55⟩) (.dat (.list (intsD (ns.take 5)))) :=
    Ev.to (Ev.sliceL (a := none) (b := some ((5 : Nat) : Int)) (Ev.name rfl rfl) (.no) (.of Ev.int) (by rw [intsD_length]; omega) (fun _ _ => rfl)) (by rw [sliced_upto']; unfold intsD; rw [List.map_take])
  refine (Thru.comp (g := fun t => (intOf t).map fun i => .int (i.fmod 1000000)) (xs := [S "cell"]) (oc := []) (ρc := []) (its := (intsD (ns.take 5)).map fun d => Tn.one (.dat d))
    { hit := Itr.list hi (Shps.ones _)
      hs := fun _ => rfl
      hclos := rfl
      hclo := by exact trivial
      hkind := rfl
      hnames := by decide
      hoc := .no (fun _ _ => rfl) (fun _ => rfl)
      hcap := by exact trivial
      hxs' := rfl
      hxc' := rfl
      htg := fun _ => .one (.inl rfl)
      hft := one_fits
      hsz := by rw [List.length_map, intsD_length]; omega
      body := fun N' C it hit => by
        obtain ⟨n, hn, rfl⟩ := intsD_mem hit
        exact ⟨rfl, Ev.modI (b := 10 ^ 6) (Ev.call (Ev.blt rfl rfl rfl (by decide) rfl) (.t _) (.cons (fun _ => rfl) (Ev.name rfl rfl) .nil) Cn.intI) (Ev.pow (a := 10) (b := 6) Ev.int Ev.int (by decide) (by decide) (by decide) (by decide) (by decide)) (by decide)⟩ } (.inl rfl) rfl).to ?_
  rintro W' ρ' ⟨rfl, rfl⟩
  refine ⟨rfl, ?_, trivial⟩
  rw [intsD_filterMap]
  unfold drawnF intsD
  rw [List.map_map]; rfl
theorem law_numbers {ns : List Int} : Thru (lw w hb N L) 4 [] [(S "drawn", .dat (.list (intsD (drawnF ns))))] [nth (dB (st 32)) 1] (fun W' ρ' => W' = [] ∧ Sub [(S "numbers", .dat (.list (intsD (numsF ns))))] ρ') := by
  have hd : (drawnF ns).length ≤ 5 := by unfold drawnF; rw [List.length_map, List.length_take]; omega
  refine (Thru.assign (d := .dat (.list (intsD (numsF ns)))) (Ev.to (Ev.addL (a := intsD (drawnF ns)) (b := intsD (([17, 74, 1599, 106, 1540] : List Int).drop (drawnF ns).length)) (Ev.name rfl rfl) (Ev.to (Ev.sliceT (xs := intsD [17, 74, 1599, 106, 1540]) (a := some (((drawnF ns).length : Nat) : Int)) (b := none)
    (Ev.list (.cons (fun _ => rfl) Ev.int (.cons (fun _ => rfl) Ev.int (.cons (fun _ => rfl) Ev.int (.cons (fun _ => rfl) Ev.int (.cons (fun _ => rfl) Ev.int .nil))))) (Nat.le_of_ble_eq_true rfl)) (.of (Ev.to (Ev.call (Ev.blt rfl rfl rfl (by decide) rfl) (.b _) (.cons (fun _ => rfl) (Ev.name rfl rfl) .nil) (Cn.lenL (xs := intsD (drawnF ns)) (by rw [intsD_length]; omega))) (by rw [intsD_length]))) .no (Nat.le_of_ble_eq_true rfl)) ?_) ?_) ?_) (.inl rfl) rfl).to ?_
  · rw [sliced_from _ _ (by rw [intsD_length]; exact hd)]; unfold intsD; rw [List.map_drop]
  · rw [intsD_length, intsD_length, List.length_drop]; have : sizeLine = 2 ^ 24 := rfl; simp only [List.length_cons, List.length_nil]; omega
  · unfold numsF intsD; rw [List.map_append]
  rintro W' ρ' ⟨rfl, rfl⟩
  exact ⟨rfl, rfl, trivial⟩
theorem law_signs {n0 n1 n2 n3 n4 : Int} : Thru (lw w hb N L) 4 [] [(S "numbers", .dat (.list (intsD [n0, n1, n2, n3, n4])))] [nth (dB (st 32)) 2] (fun W' ρ' => W' = [] ∧ Sub [(S "signs", .dat (.list ([sgS (sgI n1), sgS (sgI n2), sgS 0, sgS 1].map .str))), (S "numbers", .dat (.list (intsD [n0, n1, n2, n3, n4])))] ρ') := by
  have hi : Ev (lw w hb N L) 4 [] [(S "numbers", .dat (.list (intsD [n0, n1, n2, n3, n4])))] (.Subscript (.Name (S "numbers") ⟨244, 57, 244, 64⟩) (.Slice (some (.Constant (.int 1) 0 ⟨244, 65, 244, 66⟩)) (some (.Constant (.int 3) 0 ⟨244, 67, 244, 68⟩)) none ⟨244, 65, 244, 68⟩) ⟨244, 57, 244, 69⟩) (.dat (.list (intsD [n1, n2]))) :=
    Ev.to (Ev.sliceL (a := some 1) (b := some 3) (Ev.name rfl rfl) (.of Ev.int) (.of Ev.int) (Nat.le_of_ble_eq_true rfl) (fun _ _ => rfl)) rfl
  refine (Thru.assign (d := .dat (.list ([sgS (sgI n1), sgS (sgI n2), sgS 0, sgS 1].map .str))) (Ev.to (Ev.addL (a := [sgS (sgI n1), sgS (sgI n2)].map .str) (b := [sgS 0, sgS 1].map .str) (Ev.to (Ev.comp (g := fun t => (intOf t).map fun i => .str (sgS (sgI i))) (xs := [S "number"]) (oc := []) (ρc := []) (its := (intsD [n1, n2]).map fun d => Tn.one (.dat d))
    { hit := Itr.list hi (Shps.ones _)
      hs := fun _ => rfl
      hclos := rfl
      hclo := by exact trivial
      hkind := rfl
      hnames := by decide
      hoc := .no (fun _ _ => rfl) (fun _ => rfl)
      hcap := by exact trivial
      hxs' := rfl
      hxc' := rfl
      htg := fun _ => .one (.inl rfl)
      hft := one_fits
      hsz := by rw [List.length_map, intsD_length]; exact Nat.le_of_ble_eq_true rfl
      body := fun N' C it hit => by
        obtain ⟨n, hn, rfl⟩ := intsD_mem hit
        have h := sg_item (sgI n) (sgI_lt n)
        have e := sgI_int n
        rw [← e] at h
        refine ⟨rfl, Ev.to (Ev.itemS (x := signsS) (i := (n.fdiv 5).fmod 7) Ev.str (Ev.modI (Ev.fdivI (Ev.name rfl rfl) Ev.int rfl (by decide)) Ev.int rfl) h.1 h.2.1 (fun _ _ => rfl)) ?_⟩
        rw [h.2.2] } : Ev (lw w hb N L) 4 [] _ _ _) (by rw [intsD_filterMap]; rfl)) (Ev.list (.cons (fun _ => rfl) Ev.str (.cons (fun _ => rfl) Ev.str .nil)) (Nat.le_of_ble_eq_true rfl)) (Nat.le_of_ble_eq_true rfl)) rfl) (.inl rfl) rfl).to ?_
  rintro W' ρ' ⟨rfl, rfl⟩
  exact ⟨rfl, rfl, rfl, trivial⟩
end
end Mine
end
section
open PySem PySem.W PyProof.Rows PySem.Builtin PySem.Builtin.Str
namespace Mine
/-- the four words: their sign's place, their number -/
noncomputable def wordsQ (n1 n2 n3 n4 : Int) : List (Nat × Int) := [(sgI n1, n1), (sgI n2, n2), (0, n3), (1, n4)]
theorem wordsQ_lt {n1 n2 n3 n4 : Int} : ∀ q ∈ wordsQ n1 n2 n3 n4, q.1 < 7 := fun q hq => by
  simp only [wordsQ, List.mem_cons, List.not_mem_nil, or_false] at hq
  rcases hq with rfl | rfl | rfl | rfl
  · exact sgI_lt _
  · exact sgI_lt _
  · show 0 < 7; decide
  · show 1 < 7; decide
theorem zipT_words : ∀ (qs : List (Nat × Int)), zipT (qs.map fun q => .str (sgS q.1)) (intsD (qs.map (·.2))) = qs.map fun q => Tn.two (.dat (.str (sgS q.1))) (.dat (.int q.2))
  | [] => rfl
  | q :: r => by
    show Tn.two _ _ :: zipT (r.map _) (intsD (r.map (·.2))) = _
    rw [zipT_words r]; rfl
section
variable {w : World} {hb : Heap} {N : Addr → Prop} {L : Addr}
theorem law_turn {N' : Addr → Prop} {a : Addr} {q : Nat × Int} {x : Str} {ds : List PyData} {nD : D} (hq : q.1 < 7) (hx : x.length ≤ 1000) (hds : ds.length ≤ 100) :
    Thru ((lw w hb N L).sh N') 4 [(a, ds)] [(S "number", .dat (.int q.2)), (S "sign", .dat (.str (sgS q.1))), (S "text", .dat (.str x)), (S "meant", .val (.ref a)), (S "numbers", nD)] (forBody (nth (dB (st 32)) 4))
      (fun W' ρ' => W' = [(a, ds ++ [.str (meantP q)])] ∧ Sub [(S "text", .dat (.str (x ++ pieceP q))), (S "meant", .val (.ref a)), (S "numbers", nD)] ρ') := by
  have C := caseP hq
  have hk := kdI_lt q.2
  have sl : (2000 : Nat) ≤ sizeLine := by decide
  have hkn : ∀ {X : Fx} {W ρ p1 p2 p3 kk}, ρ.lookup (S "number") = some (.dat (.int q.2)) → Ev X 4 W ρ (.BinOp (.Name (S "number") p1) .Mod (.Constant (.int 5) kk p2) p3) (.dat (.int ((kdI q.2 : Nat) : Int))) := fun hn => Ev.to (Ev.modI (Ev.name hn rfl) Ev.int rfl) (by rw [kdI_int])
  refine Thru.cons (Thru.assign (d := .dat (.str (wrapF (typE (q.2.fdiv 35)) (rawP q)))) (Ev.call (Ev.glob rfl rfl rfl) (.f (kF_at 43 rfl) (by decide) rfl) (.cons (fun _ => rfl) (Ev.call (Ev.glob rfl rfl rfl) (.f (kF_at 39 rfl) (by decide) rfl) (.cons (fun _ => rfl) (hkn rfl) (.cons (fun _ => rfl) (Ev.name rfl rfl) .nil)) ((cn_written (kdI q.2) hk (sgS q.1) C.reps).less (by decide))) (.cons (fun _ => rfl) (Ev.fdivI (Ev.name rfl rfl) Ev.int rfl (by decide)) .nil)) ((cn_typed _ _ C.typ).less (by decide))) (.inl rfl) rfl) ?_
  rintro W' ρ' ⟨rfl, rfl⟩
  refine Thru.pre (ρ' := [(S "typed", .dat (.str (wrapF (typE (q.2.fdiv 35)) (rawP q)))), (S "number", .dat (.int q.2)), (S "sign", .dat (.str (sgS q.1))), (S "text", .dat (.str x)), (S "meant", .val (.ref a)), (S "numbers", nD)]) ⟨rfl, rfl, rfl, rfl, rfl, rfl, trivial⟩ ?_
  have hw := ws_item (wsI q.2) (wsI_lt _)
  have e := wsI_int q.2
  rw [← e] at hw
  have h1 := wrapP_len hq
  have h2 := pieceP_len hq
  refine Thru.cons (Thru.augS (a := x) (b := pieceP q) rfl (Ev.to (Ev.addS (a := wrapF (typE (q.2.fdiv 35)) (rawP q)) (b := Txt.item wsS ((q.2.fdiv 3080).fmod 4)) (Ev.name rfl rfl) (Ev.itemS (x := wsS) (i := (q.2.fdiv 3080).fmod 4) Ev.str (Ev.modI (Ev.fdivI (Ev.name rfl rfl) Ev.int rfl (by decide)) Ev.int rfl) hw.1 hw.2.1 (fun _ _ => rfl)) ?_) ?_) (.inl rfl) (by omega)) ?_
  · rw [hw.2.2.1]
    have : (⟨#[wsL.getD (wsI q.2) 0]⟩ : Str).length = 1 := rfl
    omega
  · rw [hw.2.2.1]; rfl
  rintro W' ρ' ⟨rfl, rfl⟩
  refine Thru.pre (ρ' := [(S "text", .dat (.str (x ++ pieceP q))), (S "number", .dat (.int q.2)), (S "sign", .dat (.str (sgS q.1))), (S "meant", .val (.ref a)), (S "numbers", nD)]) ⟨rfl, rfl, rfl, rfl, rfl, trivial⟩ ?_
  refine Thru.cons (Thru.append (d := .str (meantP q)) (W := []) (mem_of_lookupD rfl) rfl (Ev.call (Ev.glob rfl rfl rfl) (.f (kF_at 41 rfl) (by decide) rfl) (.cons (fun _ => rfl) (hkn rfl) (.cons (fun _ => rfl) (Ev.name rfl rfl) .nil)) ((cn_meant (kdI q.2) hk (sgS q.1) C.pl0 C.pl7).less (by decide))) (by simp) (by omega) rfl rfl rfl rfl rfl) ?_
  rintro W' ρ' ⟨rfl, rfl⟩
  exact Thru.nil ⟨rfl, rfl, rfl, rfl, trivial⟩
theorem law_words {n0 n1 n2 n3 n4 : Int} : Thru (lw w hb N L) 4 [] [(S "signs", .dat (.list ([sgS (sgI n1), sgS (sgI n2), sgS 0, sgS 1].map .str))), (S "numbers", .dat (.list (intsD [n0, n1, n2, n3, n4])))] [nth (dB (st 32)) 3, nth (dB (st 32)) 4]
    (fun W' ρ' => W' = [] ∧ Sub [(S "meant", .dat (.list ((wordsQ n1 n2 n3 n4).map fun q => .str (meantP q)))), (S "text", .dat (.str (textP (wordsQ n1 n2 n3 n4)))), (S "numbers", .dat (.list (intsD [n0, n1, n2, n3, n4])))] ρ') := by
  refine Thru.cons (Thru.strOwn (.inl rfl) (.inr ⟨rfl, 0, rfl⟩) rfl rfl rfl) ?_
  rintro W' ρ' ⟨a, hna, rfl, rfl⟩
  refine Thru.pre (ρ' := [(S "text", .dat (.str (S ""))), (S "meant", .val (.ref a)), (S "signs", .dat (.list ([sgS (sgI n1), sgS (sgI n2), sgS 0, sgS 1].map .str))), (S "numbers", .dat (.list (intsD [n0, n1, n2, n3, n4])))]) ⟨rfl, rfl, rfl, rfl, trivial⟩ ?_
  have hz := zipT_words (wordsQ n1 n2 n3 n4)
  have hlt := wordsQ_lt (n1 := n1) (n2 := n2) (n3 := n3) (n4 := n4)
  have hl4 : (wordsQ n1 n2 n3 n4).length = 4 := rfl
  have hsig : ([sgS (sgI n1), sgS (sgI n2), sgS 0, sgS 1].map PyData.str) = (wordsQ n1 n2 n3 n4).map fun q => .str (sgS q.1) := rfl
  have hnum : ∀ {ρ : Vars}, ρ.lookup (S "numbers") = some (.dat (.list (intsD [n0, n1, n2, n3, n4]))) → Ev (lw w hb N L) 4 [(a, [])] ρ (.Subscript (.Name (S "numbers") ⟨246, 35, 246, 42⟩) (.Slice (some (.Constant (.int 1) 0 ⟨246, 43, 246, 44⟩)) none none ⟨246, 43, 246, 45⟩) ⟨246, 35, 246, 46⟩) (.dat (.list (intsD ((wordsQ n1 n2 n3 n4).map (·.2))))) := fun hn =>
    Ev.to (Ev.sliceL (a := some ((1 : Nat) : Int)) (b := none) (Ev.name hn rfl) (.of Ev.int) .no (Nat.le_of_ble_eq_true rfl) (fun _ _ => rfl)) (by rw [sliced_from _ 1 (Nat.le_of_ble_eq_true rfl)]; rfl)
  generalize hqs : wordsQ n1 n2 n3 n4 = qs at hz hlt hl4 hsig hnum ⊢
  rw [hsig]
  refine Thru.cons (P := fun W' ρ' => W' = [(a, qs.map fun q => .str (meantP q))] ∧ Sub [(S "meant", .val (.ref a)), (S "text", .dat (.str (textP qs))), (S "numbers", .dat (.list (intsD [n0, n1, n2, n3, n4])))] ρ') ?_ ?_
  · refine (Thru.loop (its := qs.map fun q => Tn.two (.dat (.str (sgS q.1))) (.dat (.int q.2))) (xs := [S "sign", S "number"])
      (hz ▸ Itr.zip (Ev.blt rfl rfl rfl (by decide) rfl) (.cons (fun _ => rfl) (Ev.name rfl rfl) (.cons (fun _ => rfl) (hnum rfl) .nil))) (fun _ => rfl) (.two (.inl rfl) (.inl rfl)) (fun it hit => by obtain ⟨q, _, rfl⟩ := List.mem_map.mp hit; trivial)
      (fun i W' ρ' => W' = [(a, (qs.take i).map fun q => .str (meantP q))] ∧ Sub [(S "meant", .val (.ref a)), (S "text", .dat (.str (textP (qs.take i)))), (S "numbers", .dat (.list (intsD [n0, n1, n2, n3, n4])))] ρ') ⟨rfl, rfl, rfl, rfl, trivial⟩ ?_).to ?_
    · rintro N' i it W' ρ' hit ⟨rfl, hs⟩
      rw [List.getElem?_map] at hit
      cases hq : qs[i]? with
      | none => rw [hq] at hit; cases hit
      | some q =>
        rw [hq] at hit
        cases hit
        have hmem := List.mem_of_getElem? hq
        have e1 : qs.take (i + 1) = qs.take i ++ [q] := by rw [List.take_add_one, hq]; rfl
        have hi : i < qs.length := by rw [List.getElem?_eq_some_iff] at hq; exact hq.1
        have hlt' : ∀ q ∈ qs.take i, q.1 < 7 := fun q h => hlt q (List.mem_of_mem_take h)
        have hx : (textP (qs.take i)).length ≤ 1000 := by
          have := textP_len hlt' (S "")
          have h0 : (S "").length = 0 := by decide +kernel
          rw [List.length_take] at this
          unfold textP; omega
        refine Thru.pre (ρ' := [(S "number", .dat (.int q.2)), (S "sign", .dat (.str (sgS q.1))), (S "text", .dat (.str (textP (qs.take i)))), (S "meant", .val (.ref a)), (S "numbers", .dat (.list (intsD [n0, n1, n2, n3, n4])))]) ?_ ((law_turn (hlt q hmem) hx (by rw [List.length_map, List.length_take]; omega)).to ?_)
        · exact ⟨rfl, rfl, (lookup_put (by decide +kernel)).trans ((lookup_put (by decide +kernel)).trans hs.2.1), (lookup_put (by decide +kernel)).trans ((lookup_put (by decide +kernel)).trans hs.1), (lookup_put (by decide +kernel)).trans ((lookup_put (by decide +kernel)).trans hs.2.2.1), trivial⟩
        · rintro W' ρ' ⟨rfl, h2⟩
          refine ⟨?_, ?_⟩
          · rw [e1, List.map_append]; rfl
          · rw [e1]
            unfold textP at h2 ⊢
            rw [List.foldl_append]
            exact ⟨h2.2.1, h2.1, h2.2.2.1, trivial⟩
    · rintro W' ρ' h
      rw [List.length_map, List.take_of_length_le (Nat.le_refl _)] at h
      exact h
  rintro W' ρ' ⟨rfl, hs⟩
  refine Thru.pre hs ?_
  refine (Thru.freeze (List.mem_cons_self ..) hna).to ?_
  rintro W' ρ' ⟨rfl, rfl⟩
  exact ⟨rfl, rfl, rfl, rfl, trivial⟩
end
end Mine
end
section
open PySem PySem.W PyProof.Rows PySem.Builtin PySem.Builtin.Str
namespace Mine
section
variable {X : Fx} {k : Nat} {W : Own} {ρ : Vars} {A : Around} {E : Value → Shared → Prop} {s : Shared}
/-- shunned objects change, and new ones are shunned -/
theorem Stt.butN {M : Addr → Prop} {wr : List Addr} {h h' : Heap} (T : Stt X W ρ h) (hM : ∀ a, M a → X.N₀ a ∨ h.get? a = none) (hwN : ∀ b ∈ wr, X.N₀ b) (hk : ∀ b o, b ∉ wr → h.get? b = some o → h'.get? b = some o)
    (hT : ∀ b ∈ wr, ¬ X.T W b) (hC : ∀ n c, X.env.cells.lookup n = some c → c ∉ wr) (h0 : ∀ b ∈ wr, X.h₀.get? b = none) (hl : ∀ a, M a → a < X.h₀.objs.size ∨ ∃ o, h'.get? a = some o) : Stt (X.sh M) W ρ h' := by
  have m1 : ∀ a o vs n, (X.N W a ∨ M a) → h.get? a = some o → o.data = .seq vs n → X.N W a := fun a o vs n q e _ => by
    rcases q with q | q
    · exact q
    · rcases hM a q with q | q
      · exact .inl q
      · rw [q] at e; cases e
  have rk : ∀ {v d}, Rd (X.N W) h v d → Rd ((X.sh M).N W) h' v d := fun r => (Rd.more m1 r).keepOn (fun a q => by rcases q with q | q; exact .inr q; exact .inl (.inr q)) fun b o vs n e _ hn => hk b o (fun q => hn (.inl (.inl (hwN b q)))) e
  have rka : ∀ {v d}, RdAll (X.N W) h v d → RdAll ((X.sh M).N W) h' v d := fun r => (RdAll.more m1 r).keepOn (fun a q => by rcases q with q | q; exact .inr q; exact .inl (.inr q)) fun b o vs n e _ hn => hk b o (fun q => hn (.inl (.inl (hwN b q)))) e
  have nl : X.env.locals ∉ wr := fun q => hT _ q (.inl rfl)
  have nc : ∀ {n c}, X.env.cells.lookup n = some c → c ∉ wr := fun e => hC _ _ e
  refine ⟨T.cx, hl, fun b o e => hk b o (fun q => by have := h0 b q; rw [show X.h₀.get? b = some o from e] at this; cases this) (T.keep b o e), T.en, ?_, T.above, T.cab, fun n c e => ?_, T.apart, fun p hp => ?_, fun p hp => ?_⟩
  · obtain ⟨m, q⟩ := T.loc; exact ⟨m, q.at' fun o e => hk _ o nl e⟩
  · obtain ⟨v, o, q, d⟩ := T.cel n c e; exact ⟨v, o, hk _ o (nc e) q, d⟩
  · obtain ⟨a, vs, n, b, c⟩ := T.own p hp
    exact ⟨a, vs, n, hk _ _ (fun q => hT _ q (.inr (.inr (List.mem_map.mpr ⟨p, hp, rfl⟩)))) b, rka c⟩
  · obtain ⟨v, H, r⟩ := T.vars p hp
    refine ⟨v, ⟨?_⟩, ?_⟩
    · rcases H.how with ⟨a, m, b, c⟩ | ⟨a, c, b, o, e, d⟩
      · exact .inl ⟨a, m, b.at' fun o e => hk _ o nl e, c⟩
      · exact .inr ⟨a, c, b, o, hk _ o (nc b) e, d⟩
    · cases hd : p.2 with
      | val u => rw [hd] at r; exact r
      | dat d => rw [hd] at r; exact rk r
/-- another base heap -/
theorem Stt.base {hb : Heap} {h : Heap} (T : Stt X W ρ h) (C : Cx X.w hb) (kb : Kp hb h) (hz : hb.objs.size = X.h₀.objs.size) : Stt { X with h₀ := hb } W ρ h :=
  ⟨C, fun a q => (T.low a q).imp (fun q => hz ▸ q) id, kb, T.en, T.loc, (show hb.objs.size ≤ _ from hz ▸ T.above), (fun p hp => show hb.objs.size ≤ _ from hz ▸ T.cab p hp), T.cel, T.apart, (fun p hp => let ⟨a, r⟩ := T.own p hp; ⟨show hb.objs.size ≤ _ from hz ▸ a, r⟩), T.vars⟩
theorem LexC.rebase {w : World} {l : Lx} {h hb : Heap} (C : LexC w l h) (Cb : Cx w hb) (kb : Kp hb h) (lo : ∀ a ∈ l.all, hb.objs.size ≤ a) : LexC w { l with hb := hb } h :=
  ⟨Cb, kb, lo, C.ox, C.oy, C.ody, C.opb, C.of, C.oct, C.ocg, C.ne⟩
theorem LexV.rebase {l : Lx} {p : Nat} {h hb : Heap} (V : LexV l p h) : LexV { l with hb := hb } p h := ⟨V.le, V.od, V.og⟩
/-- pyIter of a list at hand -/
theorem listV {target : Expr} {ds : List PyData} {its : List Tn} {v : Value} {Q : Value → Shared → Prop} (R : Rm k A s.toks) (T₁ : Stt X W ρ s.heap) (r : Rd (X.N W) s.heap v (.list ds)) (hd : Shps ds its)
    (h : ∀ I fp wr P Md St s', To s s' → KTurns pw X.w A target I fp wr its.length P Md St → St 0 s'.heap →
      (∀ b ∈ wr, s.heap.get? b = none) → (∀ b ∈ fp, (∃ o, s'.heap.get? b = some o) ∧ ¬ X.T W b) → (∀ i h, St i h → ∀ b ∈ wr, ∃ o, h.get? b = some o) →
      (∀ i it, its[i]? = some it → ∀ v h N', (∀ a, N' a → X.N W a ∨ a ∈ wr ∨ s'.heap.get? a = none) → (∀ b o, s'.heap.get? b = some o → ¬ X.T W b → b ∉ wr → h.get? b = some o) → P i v h → it.ok N' h v) →
      (∀ (A' : Around) (E : Value → Shared → Prop) (s : Shared) (Q : Value → Shared → Prop), St 0 s.heap → Q (.ref I) s → wpAny (mo X.w) A' (pyIter (.ref I)) Q E s) → Q (.ref I) s') : wpAny (mo X.w) A (pyIter v) Q E s := by
    cases r with
    | @list ax vs n _ p1 p2 p3 =>
      have hl : s.heap.IsList ax vs := ⟨_, p1, rfl, n, rfl⟩
      have hne : ax ≠ s.heap.objs.size := Nat.ne_of_lt (Heap.lt_size p1)
      have hlen : vs.size = its.length := by have := p3.length; rw [Array.length_toList] at this; rw [this, hd.length]
      refine wpAny_pyIter_list hl ?_
      have W₀ : Walks pw X.w A s.heap.objs.size [s.heap.objs.size, ax] [s.heap.objs.size] its.length (fun i v => vs[i]? = some v) (fun i h => h.IsListIter s.heap.objs.size ax i ∧ h.IsList ax vs) := hlen ▸ Walks.list R.handled s.heap.objs.size ax hne vs
      have kp : Kp s.heap (s.heap.push { cls := .type "list_iterator", data := .fields #[.ref ax, .int 0 0] }) := Kp.push _ _
      have hI : (s.heap.push { cls := .type "list_iterator", data := .fields #[.ref ax, .int 0 0] }).get? s.heap.objs.size = some { cls := .type "list_iterator", data := .fields #[.ref ax, .int 0 0] } := Heap.get?_push_size _ rfl
      refine h _ _ _ _ _ _ _ (To.push _ _) (KTurns.ofWalks (target := target) W₀ fun i v s Q E st hQ => letGo_listiter st.1 hQ) ⟨⟨_, hI, rfl, rfl⟩, hl.push _⟩ (fun b hb => ?_) (fun b hb => ?_) (fun i h st b hb => ?_) (fun i it e v h' N' hN hk hP => ?_) (fun A' E s Q st hQ => wpAny_pyIter_listiter st.1 hQ)
      · rw [List.mem_singleton.mp hb]
        exact get_none (Nat.le_refl _)
      · rcases List.mem_cons.mp hb with rfl | hb
        · exact ⟨⟨_, hI⟩, T₁.newNotT (Nat.le_refl _)⟩
        · rw [List.mem_singleton.mp hb]
          exact ⟨⟨_, kp _ _ p1⟩, T₁.seqNotT p1 rfl p2⟩
      · rw [List.mem_singleton.mp hb]
        obtain ⟨⟨o, e, _⟩, _⟩ := st; exact ⟨o, e⟩
      · obtain ⟨d, hd', sp⟩ := hd.get e
        obtain ⟨u, hu, ru⟩ := p3.get i hd'
        have huv : u = v := by
          have hP' : vs[i]? = some v := hP
          rw [Array.getElem?_toList] at hu
          rw [hu] at hP'; exact Option.some.inj hP'
        subst huv
        exact sp.ok (Stt.carry T₁ (fun b hb => by rw [List.mem_singleton.mp hb]; exact get_none (Nat.le_refl _)) kp hN hk ru)
end
end Mine
end
section
open PySem PySem.W PyProof.Rows PySem.Builtin PySem.Builtin.Str
namespace Mine
noncomputable def shN (l : Lx) : Addr → Prop := fun a => a = 185 ∨ a = l.dx ∨ a = l.g
/-- where law's frame and the lexer lie -/
noncomputable def exL (L : Nat) : List Addr := [L, L + 1, L + 2, L + 3]
noncomputable def OffL (l : Lx) (L : Nat) : Prop := ∀ b ∈ exL L, b ∉ l.all
theorem lwT {w : World} {hb : Heap} {N : Addr → Prop} {L : Nat} {b : Addr} (q : (lw w hb N L).T [] b) : b ∈ exL L := by
  rcases q with q | ⟨n, q, _⟩ | q
  · rw [show b = L from q]; simp [exL]
  · have q : List.lookup n [(S "order", L + 3), (S "words", L + 2), (S "meant", L + 1)] = some b := q
    have := mem_of_lookup q
    simp only [List.mem_cons, Prod.mk.injEq, List.not_mem_nil, or_false] at this
    rcases this with ⟨_, rfl⟩ | ⟨_, rfl⟩ | ⟨_, rfl⟩ <;> simp [exL]
  · simp at q
theorem lwC {w : World} {hb : Heap} {N : Addr → Prop} {L : Nat} {n : Str} {c : Addr} (q : (lw w hb N L).env.cells.lookup n = some c) : c ∈ exL L := by
  have q : List.lookup n [(S "order", L + 3), (S "words", L + 2), (S "meant", L + 1)] = some c := q
  have := mem_of_lookup q
  simp only [List.mem_cons, Prod.mk.injEq, List.not_mem_nil, or_false] at this
  rcases this with ⟨_, rfl⟩ | ⟨_, rfl⟩ | ⟨_, rfl⟩ <;> simp [exL]
section
variable {w : World} {A : Around} {E : Value → Shared → Prop} {s : Shared} {hb : Heap} {L : Nat}
theorem exL_alloc {N : Addr → Prop} {W : Own} {ρ : Vars} {h : Heap} (T : Stt (lw w hb N L) W ρ h) : ∀ b ∈ exL L, (b : Nat) < h.objs.size ∧ hb.objs.size ≤ b := fun b hb' => by
  have hab : hb.objs.size ≤ L := T.above
  simp only [exL, List.mem_cons, List.not_mem_nil, or_false] at hb'
  have cell : ∀ {n : Str} {c : Addr}, (lw w hb N L).env.cells.lookup n = some c → (c : Nat) < h.objs.size := fun e => by obtain ⟨v, hv⟩ := T.cel _ _ e; exact hv.lt
  rcases hb' with rfl | rfl | rfl | rfl
  · obtain ⟨m, hm⟩ := T.loc; exact ⟨hm.lt, hab⟩
  · exact ⟨cell (n := S "meant") rfl, Nat.le_trans hab (Nat.le_succ L)⟩
  · exact ⟨cell (n := S "words") rfl, Nat.le_trans hab (Nat.le_add_right L 2)⟩
  · exact ⟨cell (n := S "order") rfl, Nat.le_trans hab (Nat.le_add_right L 3)⟩
theorem LexC.lw {N : Addr → Prop} {W : Own} {ρ : Vars} {l : Lx} {h h' : Heap} (T : Stt (lw w hb N L) W ρ h) (C : LexC w l h) (hl : l.hb = hb) (o : OffL l L) (hk : ∀ b o, ¬ (lw w hb N L).T [] b → h.get? b = some o → h'.get? b = some o) : LexC w l h' :=
  C.keep (ex := exL L) (fun b o hb e => hk b o (fun q => hb (lwT q)) e) fun b hb => ⟨.inr (.inr (o b hb)), hl ▸ (exL_alloc T b hb).2⟩
theorem LexV.lw {N : Addr → Prop} {l : Lx} {p : Nat} {h h' : Heap} (C : LexV l p h) (o : OffL l L) (hk : ∀ b o, ¬ (lw w hb N L).T [] b → h.get? b = some o → h'.get? b = some o) : LexV l p h' :=
  C.keep (ex := exL L) (fun b o hb e => hk b o (fun q => hb (lwT q)) e) o
/-- lexer = _law_lexer(text) -/
theorem law_lexer {x : Str} {ρ : Vars} {Q : Flow → Shared → Prop} (R : Rm 8 A s.toks) (h0 : hb.get? 185 = none) (lt : 185 < hb.objs.size) (T : Stt (lw w hb (fun a => a = 185) L) [] ρ s.heap) (B : Bm s.heap) (ht : s.heap.get? 185 = some (o185_32 w.params))
    (hx : ρ.lookup (S "text") = some (.dat (.str x)))
    (h : ∀ s' l, l.text = x → l.hb = hb → LexC w l s'.heap → LexV l 0 s'.heap → Stt (lw w hb (shN l) L) [] (put (S "lexer") (.val (.ref l.x)) ρ) s'.heap → OffL l L → (∃ more, s'.heap.get? 185 = some (tabObj more)) → Gn s s' → Q .next s') :
    wpAny (mo w) A (exec (nth (dB (st 32)) 5) (envLaw L)) Q E s := by
  refine raw_assign rfl (wpAny_Call_NameR ((Ev.glob rfl rfl rfl : Ev (lw w hb (fun a => a = 185) L) 2 [] ρ _ _) A E s _ (R.less (by decide)) T fun v₁ s₁ t₁ r₁ => ?_))
  obtain rfl : v₁ = .ref 190 := r₁
  have T₁ := T.keeps t₁.heap
  have ha : EvAll (lw w hb (fun a => a = 185) L) 2 [] ρ [.Name (S "text") ⟨250, 23, 250, 27⟩] [.dat (.str x)] := .cons (fun _ => rfl) (Ev.name hx rfl) .nil
  refine Calls.callWith_function (o := o190_32 w.params) (fd := _) (ha.args A E s₁ _ ((R.to t₁).less (by decide)) T₁ fun vs s₂ t₂ r₂ => ⟨⟨(T₁.keeps t₂.heap).cxn.kin 190 _ (kF_at 33 rfl) (by decide), rfl⟩, ?_⟩)
  have T₂ := T₁.keeps t₂.heap
  obtain ⟨tt, rfl⟩ : ∃ tt, vs = [.str x tt] := by
    cases r₂ with
    | cons a b => cases b; change Rd _ _ _ _ at a; cases a; exact ⟨_, rfl⟩
  have k₂ : Kp s.heap s₂.heap := fun b o e => t₂.heap _ _ (t₁.heap _ _ e)
  obtain ⟨ob, b1, b2⟩ := B
  refine lexer_call (k := 4) (((R.to t₁).to t₂).less (by decide)) T₂.cxn ⟨ob, k₂ _ _ b1, b2⟩ (k₂ _ _ ht) fun s₃ l htx hlb e₃ C₃ V₃ hge tab => ?_
  have al := C₃.got V₃
  have off : OffL l L := fun b hb' q => by
    have h1 := (exL_alloc T₂ b hb').1
    have h2 := hge b q
    have h1 : (b : Nat) < s₂.heap.objs.size := h1
    have h2 : (s₂.heap.objs.size : Nat) ≤ b := h2
    exact Nat.lt_irrefl _ (Nat.lt_of_lt_of_le h1 h2)
  have new : ∀ b ∈ l.all, s₂.heap.get? b = none := fun b hb' => get_none (hge b hb')
  have T₃ : Stt (lw w hb (shN l) L) [] ρ s₃.heap := Stt.butN (X := lw w hb (fun a => a = 185) L) (M := shN l) (wr := [185]) T₂ (fun a q => by
      rcases q with q | q | q
      · exact .inl q
      · exact .inr (q ▸ new _ (by simp [Lx.all]))
      · exact .inr (q ▸ new _ (by simp [Lx.all]))) (fun b q => List.mem_singleton.mp q) (fun b o hb e => e₃.2 b o hb e) (fun b q => by rw [List.mem_singleton.mp q]; exact T₂.notT lt)
      (fun n c e q => by
        have := T₂.cab _ (mem_of_lookup e)
        have this : hb.objs.size ≤ c := this
        rw [List.mem_singleton.mp q] at this
        exact Nat.lt_irrefl _ (Nat.lt_of_lt_of_le lt this)) (fun b q => by rw [List.mem_singleton.mp q]; exact h0) (fun a q => by
      rcases q with q | q | q
      · exact .inl (by rw [q]; exact lt)
      · exact .inr (q ▸ al _ (by simp [Lx.all]))
      · exact .inr (q ▸ al _ (by simp [Lx.all])))
  have C₃' : LexC w { l with hb := hb } s₃.heap := C₃.rebase T.cx T₃.keep fun a ha => by
    have h1 := hge a ha
    have h2 : hb.objs.size ≤ s₂.heap.objs.size := by
      have := exL_alloc T₂ L (by simp [exL])
      exact Nat.le_of_lt (Nat.lt_of_le_of_lt this.2 this.1)
    exact Nat.le_trans h2 h1
  have V₃' : LexV { l with hb := hb } 0 s₃.heap := V₃.rebase
  refine Stt.store (X := lw w hb (shN l) L) (d := .val (.ref l.x)) T₃ (.inl rfl) rfl fun s₄ T₄ m₄ => ?_
  have mv : ∀ b o, ¬ (lw w hb (shN l) L).T [] b → s₃.heap.get? b = some o → s₄.heap.get? b = some o := (m₄.mv (W := [])).kept
  refine h s₄ { l with hb := hb } htx rfl (LexC.lw T₃ C₃' rfl off mv) (LexV.lw (w := w) (hb := hb) (N := shN l) V₃' off mv) T₄ off ?_ ?_
  · obtain ⟨more, e⟩ := tab
    exact ⟨more, mv _ _ (T₃.notT lt) e⟩
  · obtain ⟨⟨h3, k3, e3, q3⟩, _⟩ := e₃
    obtain ⟨h4, k4, e4, q4⟩ := m₄.same
    exact (((Gn.ofTo t₁).trans (Gn.ofTo t₂)).trans ⟨h3, k3, s₂.gens, e3, q3, id⟩).trans ⟨h4, k4, s₃.gens, e4, q4, id⟩
end
end Mine
end
section
open PySem PySem.W PyProof.Rows PySem.Builtin PySem.Builtin.Str
namespace Mine
noncomputable def asgE : Stmt → Expr | .Assign _ e _ => e | _ => .Name (S "x") p0
noncomputable abbrev wdElt : Expr := .Call (.Name (S "_law_prepared") ⟨251, 13, 251, 26⟩) [.Name (S "word") ⟨251, 27, 251, 31⟩] [] ⟨251, 13, 251, 32⟩
noncomputable abbrev wdTarget : Expr := .Name (S "word") ⟨251, 37, 251, 41⟩
noncomputable abbrev wdIter : Expr := .Call (.Name (S "_law_words") ⟨251, 45, 251, 55⟩) [.Name (S "lexer") ⟨251, 56, 251, 61⟩] [] ⟨251, 45, 251, 62⟩
noncomputable def wdScope : Scope := match asgE (nth (dB (st 32)) 6) with | .ListComp _ _ sc _ => sc | _ => dS (st 26)
theorem wd_eq : nth (dB (st 32)) 6 = .Assign [.Name (S "words") ⟨251, 4, 251, 9⟩] (.ListComp wdElt [⟨wdTarget, wdIter, [], 0⟩] wdScope ⟨251, 12, 251, 63⟩) ⟨251, 4, 251, 63⟩ := by rfl
noncomputable def prepT : Tn → Option PyData | .one (.dat (.str x)) => some (.str (prepF x)) | _ => none
theorem prepT_map (ws : List (List Nat)) : ((tokD ws).map fun d => Tn.one (.dat d)).filterMap prepT = ws.map fun t => .str (prepF (sl t)) := by
  unfold tokD
  rw [List.map_map, List.filterMap_map]
  simp [Function.comp_def, prepT, List.filterMap_eq_map]
section
variable {w : World} {A : Around} {E : Value → Shared → Prop} {s : Shared} {hb : Heap} {L : Nat}
theorem wd_comp {N : Addr → Prop} {ρ : Vars} {ws : List (List Nat)} (hlen : ws.length ≤ 1000) (hp : ∀ t ∈ ws, prepOk (sl t) = true) :
    CompB (lw w hb N L) 2 [] ρ wdElt wdTarget wdIter [] wdScope ((tokD ws).map fun d => Tn.one (.dat d)) prepT [S "word"] [] [] [] :=
  { hs := fun _ => rfl
    hclos := rfl
    hclo := by exact trivial
    hkind := rfl
    hnames := by decide
    hoc := .no (fun _ _ => rfl) (fun _ => rfl)
    hcap := by exact trivial
    hxs' := rfl
    hxc' := rfl
    htg := fun _ => .one (.inl rfl)
    hft := one_fits
    hsz := by rw [List.length_map]; unfold tokD; rw [List.length_map]; omega
    body := fun N' C it hit => by
      obtain ⟨d, hd, rfl⟩ := List.mem_map.mp hit
      obtain ⟨t, ht, rfl⟩ := List.mem_map.mp hd
      exact ⟨rfl, Ev.call (Ev.glob rfl rfl rfl) (.f (kF_at 37 rfl) (by decide) rfl) (.cons (fun _ => rfl) (Ev.name rfl rfl) .nil) (cn_prepared (sl t) (hp t ht))⟩ }
theorem law_wordsS {l : Lx} {ρ : Vars} {cs : List Nat} {ws : List (List Nat)} {Q : Flow → Shared → Prop} (R : Rm 9 A s.toks) (T : Stt (lw w hb (shN l) L) [] ρ s.heap) (C : LexC w l s.heap) (V : LexV l 0 s.heap) (hl : l.hb = hb) (off : OffL l L)
    (hx : ρ.lookup (S "lexer") = some (.val (.ref l.x))) (hsz : l.text.cps.size ≤ 100000) (hat : At l.text 0 cs) (hT : Tks cs ws) (hlen : ws.length ≤ 1000) (hlw : ∀ t ∈ ws, t.length ≤ 1000) (hp : ∀ t ∈ ws, prepOk (sl t) = true) (hdx : 185 ≠ l.dx ∧ 185 ≠ l.g) (h0 : ∃ o, s.heap.get? 185 = some o) (lt : 185 < hb.objs.size)
    (h : ∀ s' p, At l.text p [] → LexC w l s'.heap → LexV l p s'.heap → Stt (lw w hb (shN l) L) [] (put (S "words") (.dat (.list (ws.map fun t => .str (prepF (sl t))))) ρ) s'.heap → (∀ o, s.heap.get? 185 = some o → s'.heap.get? 185 = some o) → Gn s s' → Q .next s') :
    wpAny (mo w) A (exec (nth (dB (st 32)) 6) (envLaw L)) Q E s := by
  rw [wd_eq]
  refine raw_assign rfl ?_
  rw [eval_ListComp]
  refine wpAny_comprehension_free (use := none) (cl := []) rfl (fun _ => rfl) rfl rfl (by decide) ?_
  have ha : EvAll (lw w hb (shN l) L) 2 [] ρ [.Name (S "lexer") ⟨251, 56, 251, 61⟩] [.val (.ref l.x)] := .cons (fun _ => rfl) (Ev.name hx rfl) .nil
  refine wpAny_Call_NameR ((Ev.glob rfl rfl rfl : Ev (lw w hb (shN l) L) 2 [] ρ _ _) A E s _ (R.less (by decide)) T fun v₁ s₁ t₁ r₁ => ?_)
  obtain rfl : v₁ = .ref 197 := r₁
  have T₁ := T.keeps t₁.heap
  refine Calls.callWith_function (o := o197_32 w.params) (fd := _) (ha.args A E s₁ _ ((R.to t₁).less (by decide)) T₁ fun vs s₂ t₂ r₂ => ⟨⟨(T₁.keeps t₂.heap).cxn.kin 197 _ (kF_at 35 rfl) (by decide), rfl⟩, ?_⟩)
  have T₂ := T₁.keeps t₂.heap
  obtain rfl : vs = [.ref l.x] := by
    cases r₂ with
    | cons a b => cases b; have a : _ = Value.ref l.x := a; rw [a]
  have k₂ : Kp s.heap s₂.heap := fun b o e => t₂.heap _ _ (t₁.heap _ _ e)
  refine words_call (k := 4) ((R.to t₁).to t₂) (C.to k₂) (V.to k₂) hsz hat hT hlen hlw fun s₃ a vs n p e₃ C₃ V₃ hat₃ hnew hL hrd => ?_
  have al := C₃.got V₃
  have alo := (C.to k₂).got (V.to k₂)
  have offT : ∀ b ∈ [l.dx, l.g], ¬ (lw w hb (shN l) L).T [] b := fun b hb' q => off b (lwT q) (by
    rcases List.mem_cons.mp hb' with rfl | hb'
    · simp [Lx.all]
    · rw [List.mem_singleton.mp hb']; simp [Lx.all])
  have inall : ∀ b ∈ [l.dx, l.g], b ∈ l.all := fun b hb' => by
    rcases List.mem_cons.mp hb' with rfl | hb'
    · simp [Lx.all]
    · rw [List.mem_singleton.mp hb']; simp [Lx.all]
  have T₃ : Stt (lw w hb (shN l) L) [] ρ s₃.heap := Stt.butN (X := lw w hb (shN l) L) (M := shN l) (wr := [l.dx, l.g]) T₂ (fun a q => .inl q) (fun b q => by
      rcases List.mem_cons.mp q with rfl | q
      · exact .inr (.inl rfl)
      · rw [List.mem_singleton.mp q]; exact .inr (.inr rfl)) (fun b o hb e => e₃.2 b o hb e) offT (fun n c e q => off c (lwC e) (inall c q)) (fun b q => by
      have : l.hb.objs.size ≤ b := C.lo b (inall b q)
      rw [hl] at this
      exact get_none this) (fun a q => by
      rcases T₂.low a q with q | ⟨o, e⟩
      · exact .inl q
      · by_cases hw : a ∈ [l.dx, l.g]
        · exact .inr (al a (inall a hw))
        · exact .inr ⟨o, e₃.2 a o hw e⟩)
  have k185 : ∀ o, s.heap.get? 185 = some o → s₃.heap.get? 185 = some o := fun o e => e₃.2 _ _ (fun m => by
    rcases List.mem_cons.mp m with m | m
    · exact hdx.1 m
    · exact hdx.2 (List.mem_singleton.mp m)) (k₂ _ _ e)
  have r₃ : Rd ((lw w hb (shN l) L).N []) s₃.heap (.ref a) (.list (tokD ws)) := .list hL (fun q => by
    have ex : ∃ o, s₂.heap.get? a = some o := by
      rcases q with (q | q | q) | q
      · obtain ⟨o, e⟩ := h0; exact ⟨o, q ▸ k₂ _ _ e⟩
      · exact q ▸ alo _ (inall _ (by simp))
      · exact q ▸ alo _ (inall _ (by simp))
      · simp at q
    obtain ⟨o, e⟩ := ex
    rw [hnew] at e; cases e) (rd_strs hrd)
  have R₃ : Rm 9 A s₃.toks := ((R.to t₁).to t₂).up e₃.le
  refine listV (X := lw w hb (shN l) L) (k := 2) (target := wdTarget) (R₃.less (by decide)) T₃ r₃ (Shps.ones _) fun I fp wr P Md St s₄ t₄ W₀ hst hwr hfp hal hok hself => ?_
  refine (wd_comp (N := shN l) (ρ := ρ) hlen hp).inner (R₃.less (by decide)) T₃ (fun acc C => compPost (mo w) A E none _ acc C) (fun D C' m s₅ hD hC hDC t₅ hn r₅ => ?_) t₄ W₀ hst hwr hfp hal hok hself
  refine ⟨m, hn, fun h' hs => ?_⟩
  obtain ⟨hh, tk, rfl, kk, qq⟩ := t₅
  have t₆ : To s₃ { s₃ with heap := h', toks := tk } := To.mk (fun b o e => hs.extBut b o (fun q => by rw [q, hC] at e; cases e) (kk b o e)) qq
  have r₆ : Rd ((lw w hb (shN l) L).N []) h' (.ref D) (.list (ws.map fun t => .str (prepF (sl t)))) := by
    rw [← prepT_map]
    exact r₅.keepOn (fun _ q => q) fun b o vs n e hd _ => hs.extBut b o (Ne.symm (Ns_ne_seq hn e hd)) e
  have T₆ := T₃.keeps t₆.heap
  refine Stt.store (X := lw w hb (shN l) L) (s := { s₃ with heap := h', toks := tk }) (d := .dat (.list (ws.map fun t => .str (prepF (sl t))))) T₆ (.inr ⟨rfl, 1, rfl⟩) r₆ fun s₇ T₇ m₇ => ?_
  have mv : ∀ b o, ¬ (lw w hb (shN l) L).T [] b → h'.get? b = some o → s₇.heap.get? b = some o := (m₇.mv (W := [])).kept
  have n185 : ¬ (lw w hb (shN l) L).T [] 185 := T.notT lt
  refine h s₇ p hat₃ (LexC.lw T₆ (C₃.to t₆.heap) hl off mv) (LexV.lw (w := w) (hb := hb) (N := shN l) (V₃.to t₆.heap) off mv) T₇ (fun o e => mv _ _ n185 (t₆.heap _ _ (k185 o e))) ?_
  obtain ⟨⟨h3, k3, e3, q3⟩, _⟩ := e₃
  obtain ⟨h4, k4, e4, q4⟩ := m₇.same
  exact ((((Gn.ofTo t₁).trans (Gn.ofTo t₂)).trans ⟨h3, k3, s₂.gens, e3, q3, id⟩).trans (Gn.ofTo t₆)).trans ⟨h4, k4, s₃.gens, e4, q4, id⟩
end
end Mine
end
section
open PySem PySem.W PyProof.Rows PySem.Builtin PySem.Builtin.Str
namespace Mine
section
variable {w : World} {A : Around} {E : Value → Shared → Prop} {s : Shared} {hb : Heap} {L : Nat} {N : Addr → Prop}
/-- sizes, due = _law_sizes(numbers[0]) -/
theorem law_sizesS {ρ : Vars} {n0 n1 n2 n3 n4 : Int} {Q : Flow → Shared → Prop} (R : Rm 12 A s.toks) (T : Stt (lw w hb N L) [] ρ s.heap) (hx : ρ.lookup (S "numbers") = some (.dat (.list (intsD [n0, n1, n2, n3, n4]))))
    (h : ∀ s', Stt (lw w hb N L) [] (put (S "due") (.dat (.list (intsD (sizesF n0)))) (put (S "sizes") (.dat (.list (intsD (sizesF n0)))) ρ)) s'.heap → (∀ b o, ¬ (lw w hb N L).T [] b → s.heap.get? b = some o → s'.heap.get? b = some o) → Gn s s' → Q .next s') :
    wpAny (mo w) A (exec (nth (dB (st 32)) 7) (envLaw L)) Q E s := by
  refine Assign_Tuple (wpAny_Call_NameR ((Ev.glob rfl rfl rfl : Ev (lw w hb N L) 2 [] ρ _ _) A E s _ (R.less (by decide)) T fun v₁ s₁ t₁ r₁ => ?_)) rfl rfl
  obtain rfl : v₁ = .ref 226 := r₁
  have T₁ := T.keeps t₁.heap
  have ha : EvAll (lw w hb N L) 2 [] ρ [.Subscript (.Name (S "numbers") ⟨252, 28, 252, 35⟩) (.Constant (.int 0) 0 ⟨252, 36, 252, 37⟩) ⟨252, 28, 252, 38⟩] [.dat (.int n0)] := .cons (fun _ => rfl) (Ev.itemL (i := 0) (j := 0) (Ev.name hx rfl) Ev.int (by decide) (by decide) rfl rfl (fun _ _ => rfl)) .nil
  refine Calls.callWith_function (o := o226_32 w.params) (fd := _) (ha.args A E s₁ _ ((R.to t₁).less (by decide)) T₁ fun vs s₂ t₂ r₂ => ⟨⟨(T₁.keeps t₂.heap).cxn.kin 226 _ (kF_at 45 rfl) (by decide), rfl⟩, ?_⟩)
  have T₂ := T₁.keeps t₂.heap
  obtain ⟨tt, rfl⟩ : ∃ tt, vs = [.int n0 tt] := by
    cases r₂ with
    | cons a b => cases b; change Rd _ _ _ _ at a; cases a; exact ⟨_, rfl⟩
  refine sizes_call (N := (lw w hb N L).N []) ((R.to t₁).to t₂) T₂.cxn T₂.nlt fun v₃ s₃ g₃ k₃ r₃ => ?_
  have T₃ := T₂.keeps k₃
  have R₃ : Rm 12 A s₃.toks := ((R.to t₁).to t₂).up g₃.le
  refine Stt.assignT (X := lw w hb N L) (xs := [S "sizes", S "due"]) (it := .two (.dat (.list (intsD (sizesF n0)))) (.dat (.list (intsD (sizesF n0))))) R₃ T₃ (.two (.inl rfl) (.inl rfl)) trivial ((Shp.two _ _).ok r₃) fun s₄ T₄ m₄ => ?_
  refine h s₄ T₄ (fun b o hb' e => (m₄.mv (W := [])).kept b o hb' (k₃ _ _ (t₂.heap _ _ (t₁.heap _ _ e)))) ?_
  obtain ⟨h4, k4, e4, q4⟩ := m₄.same
  exact (((Gn.ofTo t₁).trans (Gn.ofTo t₂)).trans g₃).trans ⟨h4, k4, s₃.gens, e4, q4, id⟩
/-- the first test: it is not met -/
theorem law_test {l : Lx} {p : Nat} {ρ : Vars} {ws : List PyData} {sz : List PyData} {x : Str} {Q : Flow → Shared → Prop} (R : Rm 12 A s.toks) (T : Stt (lw w hb N L) [] ρ s.heap) (C : LexC w l s.heap) (V : LexV l p s.heap)
    (h1 : ρ.lookup (S "words") = some (.dat (.list ws))) (h2 : ρ.lookup (S "lexer") = some (.val (.ref l.x))) (h3 : ρ.lookup (S "sizes") = some (.dat (.list sz))) (h4 : ρ.lookup (S "meant") = some (.dat (.list ws))) (h5 : ρ.lookup (S "text") = some (.dat (.str x))) (h6 : ρ.lookup (S "due") = some (.dat (.list sz)))
    (hn : 1 + (Txt.count x (S "\n") : Int) = lnOf l.text p) (hlay : (PyData.tuple [.list ws, .int (lnOf l.text p), .list sz]).canLay0 = true) (hd : (PyData.tuple [.list ws, .int (lnOf l.text p), .list sz]).depth ≤ 16) (heq : PyData.eqv (.tuple [.list ws, .int (lnOf l.text p), .list sz]) (.tuple [.list ws, .int (lnOf l.text p), .list sz]) = true)
    (h : ∀ s', To s s' → Q .next s') : wpAny (mo w) A (exec (nth (dB (st 32)) 8) (envLaw L)) Q E s := by
  have R₂ : Rm 2 A s.toks := R.less (by decide)
  refine wpAny_If (wpAny_isTrue_Compare1 (Tuple_ ?_) rfl)
  refine Calls.spliced_cons ((Ev.name h1 rfl : Ev (lw w hb N L) 2 [] ρ _ _) A E s _ R₂ T fun v₁ s₁ t₁ r₁ => ?_)
  have T₁ := T.keeps t₁.heap
  refine Calls.spliced_cons (Attribute_name ((Ev.name h2 rfl : Ev (lw w hb N L) 2 [] ρ _ _) A E s₁ _ (R₂.to t₁) T₁ fun v₂ s₂ t₂ r₂ => ?_))
  obtain rfl : v₂ = .ref l.x := r₂
  have T₂ := T₁.keeps t₂.heap
  have k₂ : Kp s.heap s₂.heap := fun b o e => t₂.heap _ _ (t₁.heap _ _ e)
  refine get_lineno (C.to k₂) (n := lnOf l.text p) (V.to k₂).od fun tl => ?_
  obtain ⟨s₃, hs₃⟩ : ∃ s₃ : Shared, s₃ = ({ s₂ with toks := s₂.toks + 1 } : Shared) := ⟨_, rfl⟩
  refine at_state (s' := s₃) hs₃.symm ?_
  have t₃ : To s₂ s₃ := by rw [hs₃]; exact To.tok _ _
  have T₃ := T₂.keeps t₃.heap
  refine Calls.spliced_cons ((Ev.name h3 rfl : Ev (lw w hb N L) 2 [] ρ _ _) A E s₃ _ (((R₂.to t₁).to t₂).to t₃) T₃ fun v₄ s₄ t₄ r₄ => Calls.spliced_nil ?_)
  have T₄ := T₃.keeps t₄.heap
  refine wpAny_newObj_type ?_ (by show _ ≤ sizeLine; exact Nat.le_of_ble_eq_true rfl)
  obtain ⟨s₅, hs₅⟩ : ∃ s₅ : Shared, s₅ = ({ s₄ with heap := s₄.heap.push { cls := .type "tuple", data := .seq #[v₁, .int (lnOf l.text p) tl, v₄] } } : Shared) := ⟨_, rfl⟩
  refine at_state (s' := s₅) hs₅.symm ?_
  have t₅ : To s₄ s₅ := by rw [hs₅]; exact To.push _ _
  have T₅ := T₄.keeps t₅.heap
  have tt : To s s₅ := (((t₁.trans t₂).trans t₃).trans t₄).trans t₅
  have ru : Rd ((lw w hb N L).N []) s₅.heap (.ref s₄.heap.objs.size) (.tuple [.list ws, .int (lnOf l.text p), .list sz]) := by
    refine .tuple (vs := #[v₁, .int (lnOf l.text p) tl, v₄]) (n := 0) (by rw [hs₅]; exact Heap.get?_push_size _ rfl) (T₄.fresh fun _ _ e => e) ?_
    have a1 : Rd _ _ v₁ (.list ws) := r₁
    have a4 : Rd _ _ v₄ (.list sz) := r₄
    exact .cons ((((a1.keeps t₂.heap).keeps t₃.heap).keeps t₄.heap).keeps t₅.heap) (.cons (.int _ _) (.cons (a4.keeps t₅.heap) .nil))
  refine (Ev.tuple (ds := [.list ws, .int (lnOf l.text p), .list sz]) (.cons (fun _ => rfl) (Ev.name h4 rfl) (.cons (fun _ => rfl) (Ev.to (Ev.addI Ev.int (Ev.countS (y := S "\n") (Ev.name h5 rfl) (.cons (fun _ => rfl) Ev.str .nil) rfl rfl)) (by rw [hn])) (.cons (fun _ => rfl) (Ev.name h6 rfl) .nil))) (Nat.le_of_ble_eq_true rfl) : Ev (lw w hb N L) 2 [] ρ _ _) A E s₅ _ (R₂.to tt) T₅ fun v₆ s₆ t₆ r₆ => ?_
  refine Cmp.neD hlay hlay hd _ 2 A E s₆ _ _ _ ((R₂.to tt).to t₆) (Rd.keeps t₆.heap ru) r₆ (wpAny_truthy_bool ?_)
  rw [heq]
  exact wpAny_execs_nil (h s₆ (tt.trans t₆))
end
end Mine
end
section
open PySem PySem.W PyProof.Rows PySem.Builtin PySem.Builtin.Str
namespace Mine
noncomputable def slt (a b : Str) : Bool := decide (a.cps.toList < b.cps.toList)
noncomputable def sle (a b : Str) : Bool := !slt b a
theorem str_ext {a b : Str} (h : a.cps.toList = b.cps.toList) : a = b := by
  obtain ⟨a⟩ := a; obtain ⟨b⟩ := b
  have : a = b := Array.toList_inj.mp h
  rw [this]
theorem slt_irrefl (a : Str) : slt a a = false := decide_eq_false (List.lt_irrefl _)
theorem slt_trans {a b c : Str} (h : slt a b = true) (h' : slt b c = true) : slt a c = true := decide_eq_true (List.lt_trans (of_decide_eq_true h) (of_decide_eq_true h'))
theorem slt_asymm {a b : Str} (h : slt a b = true) : slt b a = false := decide_eq_false (List.lt_asymm (of_decide_eq_true h))
theorem slt_or {a b : Str} (h1 : slt a b = false) (h2 : slt b a = false) : a = b :=
  str_ext (List.le_antisymm (List.not_lt.mp (of_decide_eq_false h2)) (List.not_lt.mp (of_decide_eq_false h1)))
theorem sle_trans {a b c : Str} (h : sle a b = true) (h' : sle b c = true) : sle a c = true := by
  unfold sle at *
  simp only [Bool.not_eq_true'] at *
  cases e : slt c a with
  | false => rfl
  | true =>
    cases e2 : slt a b with
    | true => rw [slt_trans e e2] at h'; cases h'
    | false => have := slt_or e2 h; subst this; rw [e] at h'; cases h'
theorem sle_total (a b : Str) : (sle a b || sle b a) = true := by
  unfold sle
  cases e : slt b a with
  | false => rfl
  | true => rw [slt_asymm e]; rfl
theorem risingS_pairwise : ∀ (l : List Str) (p : Str), risingS p l = true → (p :: l).Pairwise fun a b => sle a b = true
  | [], p, _ => by simp
  | x :: r, p, h => by
    have h : (!PySem.Spec.ltCps x.cps.toList p.cps.toList && risingS x r) = true := h
    rw [ltCps_eq, Bool.and_eq_true] at h
    have ih := risingS_pairwise r x h.2
    have hpx : sle p x = true := h.1
    refine .cons (fun y hy => ?_) ih
    rcases List.mem_cons.mp hy with rfl | hy
    · exact hpx
    · exact sle_trans hpx ((List.pairwise_cons.mp ih).1 y hy)
theorem sortedS_pairwise {l : List Str} (h : sortedS l = true) : l.Pairwise fun a b => sle a b = true := by
  cases l with
  | nil => exact .nil
  | cons x r => exact risingS_pairwise r x h
noncomputable def sortF (rs : List Str) : List Str := rs.mergeSort sle
theorem sortF_pairwise (rs : List Str) : (sortF rs).Pairwise fun a b => sle a b = true := List.pairwise_mergeSort (le := sle) (fun a b c h h' => sle_trans h h') sle_total rs
theorem sortF_uniq {rs ss : List Str} (hp : ss.Perm rs) (hs : sortedS ss = true) : ss = sortF rs :=
  List.Perm.eq_of_pairwise (le := fun a b => sle a b = true) (fun a b _ _ h1 h2 => by
    unfold sle at h1 h2
    simp only [Bool.not_eq_true'] at h1 h2
    exact slt_or h2 h1) (sortedS_pairwise hs) (sortF_pairwise rs) (hp.trans (List.mergeSort_perm rs sle).symm)
/-- how many are less -/
noncomputable def rankF (rs : List Str) (a : Str) : Nat := rs.countP fun b => slt b a
theorem index_sorted : ∀ (os : List Str) (x : Str), os.Pairwise (fun a b => sle a b = true) → x ∈ os → ∃ h : rankF os x < os.length, os[rankF os x] = x ∧ ∀ m (hm : m < os.length), m < rankF os x → os[m] ≠ x
  | [], x, _, hx => by simp at hx
  | y :: r, x, hp, hx => by
    obtain ⟨hy, hr⟩ := List.pairwise_cons.mp hp
    cases e : slt y x with
    | true =>
      have hxr : x ∈ r := by
        rcases List.mem_cons.mp hx with rfl | h
        · rw [slt_irrefl] at e; cases e
        · exact h
      obtain ⟨h1, h2, h3⟩ := index_sorted r x hr hxr
      have er : rankF (y :: r) x = rankF r x + 1 := by unfold rankF; rw [List.countP_cons, e]; rfl
      rw [er]
      refine ⟨by simpa using h1, by simpa using h2, fun m hm hlt => ?_⟩
      cases m with
      | zero => intro q; have q : y = x := q; rw [q, slt_irrefl] at e; cases e
      | succ m => exact h3 m (by simpa using hm) (by omega)
    | false =>
      have hz : ∀ z ∈ r, slt z x = false := fun z hz => by
        have := hy z hz
        have h2 : sle x z = true := sle_trans (b := y) (by unfold sle; rw [e]; rfl) this
        unfold sle at h2
        simpa using h2
      have er : rankF (y :: r) x = 0 := by
        unfold rankF
        rw [List.countP_eq_zero]
        intro z hz'
        rcases List.mem_cons.mp hz' with rfl | h
        · rw [e]; simp
        · rw [hz z h]; simp
      have hxy : y = x := by
        rcases List.mem_cons.mp hx with rfl | h
        · rfl
        · have := hy x h
          unfold sle at this
          exact slt_or e (by simpa using this)
      rw [er]
      exact ⟨by simp, hxy, fun m _ h => absurd h (Nat.not_lt_zero m)⟩
theorem rank_sort (rs : List Str) (x : Str) : rankF (sortF rs) x = rankF rs x := (List.mergeSort_perm rs sle).countP_eq _
theorem index_sortF (rs : List Str) (x : Str) (hx : x ∈ rs) : ∃ h : rankF rs x < (sortF rs).length, (sortF rs)[rankF rs x] = x ∧ ∀ m (hm : m < (sortF rs).length), m < rankF rs x → (sortF rs)[m] ≠ x := by
  have := index_sorted (sortF rs) x (sortF_pairwise rs) ((List.mergeSort_perm rs sle).mem_iff.mpr hx)
  rw [rank_sort] at this
  exact this
theorem countP_lt {p q : Str → Bool} : ∀ (l : List Str) (a : Str), (∀ x, p x = true → q x = true) → a ∈ l → p a = false → q a = true → l.countP p < l.countP q
  | [], a, _, h, _, _ => by simp at h
  | y :: r, a, hpq, h, hp, hq => by
    have le : r.countP p ≤ r.countP q := List.countP_mono_left fun x _ => hpq x
    rw [List.countP_cons, List.countP_cons]
    rcases List.mem_cons.mp h with rfl | h
    · rw [hp, hq]; simp; omega
    · have ih := countP_lt r a hpq h hp hq
      cases e : p y with
      | false => cases q y <;> simp <;> omega
      | true => rw [hpq y e]; simp; omega
theorem rank_lt {rs : List Str} {a b : Str} (ha : a ∈ rs) (hb : b ∈ rs) : slt a b = decide (rankF rs a < rankF rs b) := by
  cases e : slt a b with
  | true =>
    exact (decide_eq_true (countP_lt (p := fun x => slt x a) (q := fun x => slt x b) rs a (fun x h => slt_trans h e) ha (slt_irrefl a) e)).symm
  | false =>
    symm; apply decide_eq_false
    cases e2 : slt b a with
    | true =>
      have := countP_lt (p := fun x => slt x b) (q := fun x => slt x a) rs b (fun x h => slt_trans h e2) hb (slt_irrefl b) e2
      unfold rankF; omega
    | false => rw [slt_or e e2]; omega
theorem rank_eq {rs : List Str} {a b : Str} (ha : a ∈ rs) (hb : b ∈ rs) : (a == b) = (rankF rs a == rankF rs b) := by
  have h1 := rank_lt ha hb
  have h2 := rank_lt hb ha
  cases e : a == b with
  | true => have := beq_iff_eq.mp e; subst this; simp
  | false =>
    have hne := beq_eq_false_iff_ne.mp e
    symm; rw [beq_eq_false_iff_ne]
    intro q
    rw [q] at h1 h2
    simp at h1 h2
    exact hne (slt_or h1 h2)
end Mine
end
section
open PySem PySem.W PyProof.Rows PySem.Builtin PySem.Builtin.Str
namespace Mine
noncomputable def collF (a b : Str) : Int := b2i (slt b a) - b2i (slt a b)
noncomputable def toldF (rs : List Str) : List (List Int) := rs.map fun a => rs.map fun b => collF a b
noncomputable def toldK (ks : List Nat) : List (List Int) := ks.map fun i => ks.map fun j => b2i (decide (j < i)) - b2i (decide (i < j))
noncomputable def countsG {α : Type} [BEq α] (l : List α) : List Int := l.zipIdx.filterMap fun p => if (l.take p.2).any (· == p.1) then none else some (l.countP (· == p.1) : Nat)
noncomputable def validK (ks : List Nat) : Bool := ks.all fun k => k == ks.countP fun j => decide (j < k)
noncomputable def shapesK : List (List Int) := [0, 1, 2].flatMap fun m => [(1, 1), (2, 1), (2, 2), (3, 1), (3, 2)].map fun p => dueG m p.1 p.2
noncomputable def lawK (ks : List Nat) (sz : List Int) : Bool :=
  (filledF (toldK ks) sz [-1, 0] [-1] == detF sz.length (tableF sz (singleF (countsG ks) [1, 2, 3, 4, 5]))) &&
  (filledF (toldK ks) sz [-1] [-1, 0] == detF sz.length (tableF sz (singleF (countsG ks) [5, 4, 3, 2, 1])))
noncomputable def vecsK : List (List Nat) := (List.range 4).flatMap fun a => (List.range 4).flatMap fun b => (List.range 4).flatMap fun c => (List.range 4).filterMap fun d => if c < d ∧ validK [a, b, c, d] then some [a, b, c, d] else none
theorem law_m0 : vecsK.all (fun ks => [[1, 1, 1], [2, 1, 1], [2, 2, 2]].all (lawK ks)) = true := by decide +kernel
theorem law_m0' : vecsK.all (fun ks => [[3, 1, 1], [3, 2, 2]].all (lawK ks)) = true := by decide +kernel
theorem law_m1 : vecsK.all (fun ks => [[1, 1], [2, 1], [2, 2], [3, 1], [3, 2]].all (lawK ks)) = true := by decide +kernel
theorem law_m2 : vecsK.all (fun ks => [[2, 2, 1], [3, 2, 1]].all (lawK ks)) = true := by decide +kernel
end Mine
end
section
open PySem PySem.W PyProof.Rows PySem.Builtin PySem.Builtin.Str
namespace Mine
theorem lawK_all {ks : List Nat} (hk : ks ∈ vecsK) (n : Int) : lawK ks (sizesF n) = true := by
  have m0 := List.all_eq_true.mp law_m0 ks hk
  have m0' := List.all_eq_true.mp law_m0' ks hk
  have m1 := List.all_eq_true.mp law_m1 ks hk
  have m2 := List.all_eq_true.mp law_m2 ks hk
  simp only [List.all_cons, List.all_nil, Bool.and_true, Bool.and_eq_true] at m0 m0' m1 m2
  have hf := szF_range n
  have hs : (szF n = 1 ∧ szS n = 1) ∨ (szF n = 2 ∧ szS n = 1) ∨ (szF n = 2 ∧ szS n = 2) ∨ (szF n = 3 ∧ szS n = 1) ∨ (szF n = 3 ∧ szS n = 2) := by
    have h1 := szD_range n
    have h2 := Int.fmod_nonneg_of_pos (n.fdiv 3) (b := if 2 < szF n then 2 else szF n) (by omega)
    have h3 := Int.fmod_lt_of_pos (n.fdiv 3) (b := if 2 < szF n then 2 else szF n) (by omega)
    unfold szS
    by_cases h : 2 < szF n
    · rw [if_pos h] at h2 h3 ⊢; omega
    · rw [if_neg h] at h2 h3 ⊢
      have : szF n = 1 ∨ szF n = 2 := by omega
      rcases this with e | e <;> rw [e] at h2 h3 ⊢ <;> omega
  have hm := szM_range n
  have hm3 : szM n = 0 ∨ szM n = 1 ∨ szM n = 2 := by omega
  unfold sizesF
  rcases hm3 with e | e | e <;> rw [e] <;> rcases hs with ⟨a, b⟩ | ⟨a, b⟩ | ⟨a, b⟩ | ⟨a, b⟩ | ⟨a, b⟩ <;> rw [a, b]
  · exact m0.1
  · exact m0.2.1
  · exact m0.2.2
  · exact m0'.1
  · exact m0'.2
  · exact m1.1
  · exact m1.2.1
  · exact m1.2.2.1
  · exact m1.2.2.2.1
  · exact m1.2.2.2.2
  · exact m0.1
  · exact m0.2.1
  · exact m2.1
  · exact m0'.1
  · exact m2.2
theorem toldF_rank (rs : List Str) : toldF rs = toldK (rs.map (rankF rs)) := by
  unfold toldF toldK
  rw [List.map_map]
  refine List.map_congr_left fun a ha => ?_
  show _ = (rs.map (rankF rs)).map _
  rw [List.map_map]
  refine List.map_congr_left fun b hb => ?_
  show collF a b = _
  unfold collF
  rw [rank_lt hb ha, rank_lt ha hb]; rfl
theorem filterMap_congr_mem {α β : Type} {f g : α → Option β} : ∀ {l : List α}, (∀ x ∈ l, f x = g x) → l.filterMap f = l.filterMap g
  | [], _ => rfl
  | x :: r, h => by rw [List.filterMap_cons, List.filterMap_cons, h x List.mem_cons_self, filterMap_congr_mem fun y hy => h y (List.mem_cons_of_mem _ hy)]
theorem any_congr_mem {α : Type} {f g : α → Bool} : ∀ {l : List α}, (∀ x ∈ l, f x = g x) → l.any f = l.any g
  | [], _ => rfl
  | x :: r, h => by rw [List.any_cons, List.any_cons, h x List.mem_cons_self, any_congr_mem fun y hy => h y (List.mem_cons_of_mem _ hy)]
theorem countsG_rank (rs : List Str) : countsG rs = countsG (rs.map (rankF rs)) := by
  unfold countsG
  rw [List.zipIdx_map, List.filterMap_map]
  refine filterMap_congr_mem fun p hp => ?_
  obtain ⟨x, i⟩ := p
  have hx : x ∈ rs := by
    have := List.mem_zipIdx hp
    rw [this.2.2]; exact List.getElem_mem _
  show (if (rs.take i).any (· == x) then none else some ((rs.countP (· == x) : Nat) : Int)) = if ((rs.map (rankF rs)).take i).any (· == rankF rs x) then none else some (((rs.map (rankF rs)).countP (· == rankF rs x) : Nat) : Int)
  have e1 : ((rs.map (rankF rs)).take i).any (· == rankF rs x) = (rs.take i).any (· == x) := by
    rw [← List.map_take, List.any_map]
    refine any_congr_mem fun y hy => ?_
    exact (rank_eq (List.mem_of_mem_take hy) hx).symm
  have e2 : (rs.map (rankF rs)).countP (· == rankF rs x) = rs.countP (· == x) := by
    rw [List.countP_map]
    refine List.countP_congr fun y hy => ?_
    show (rankF rs y == rankF rs x) = true ↔ (y == x) = true
    rw [rank_eq hy hx]
  rw [e1, e2]
theorem rank_valid (rs : List Str) : validK (rs.map (rankF rs)) = true := by
  unfold validK
  rw [List.all_eq_true]
  intro k hk
  obtain ⟨a, ha, rfl⟩ := List.mem_map.mp hk
  rw [beq_iff_eq, List.countP_map]
  refine List.countP_congr fun y hy => ?_
  show _ ↔ decide (rankF rs y < rankF rs a) = true
  rw [← rank_lt hy ha]
theorem rank_small {rs : List Str} {a : Str} (ha : a ∈ rs) : rankF rs a < rs.length := by
  have := countP_lt (p := fun x => slt x a) (q := fun _ => true) rs a (fun _ _ => rfl) ha (slt_irrefl a) rfl
  rw [List.countP_true] at this
  exact this
theorem ranks_vec {a b c d : Str} (h : slt c d = true) : [a, b, c, d].map (rankF [a, b, c, d]) ∈ vecsK := by
  have hv := rank_valid [a, b, c, d]
  have h1 := rank_small (rs := [a, b, c, d]) (a := a) (by simp)
  have h2 := rank_small (rs := [a, b, c, d]) (a := b) (by simp)
  have h3 := rank_small (rs := [a, b, c, d]) (a := c) (by simp)
  have h4 := rank_small (rs := [a, b, c, d]) (a := d) (by simp)
  have hlt := rank_lt (rs := [a, b, c, d]) (a := c) (b := d) (by simp) (by simp)
  rw [h] at hlt
  have hlt := of_decide_eq_true hlt.symm
  simp only [List.map_cons, List.map_nil] at hv ⊢
  generalize rankF [a, b, c, d] a = ka at *
  generalize rankF [a, b, c, d] b = kb at *
  generalize rankF [a, b, c, d] c = kc at *
  generalize rankF [a, b, c, d] d = kd at *
  unfold vecsK
  simp only [List.length_cons, List.length_nil] at h1 h2 h3 h4
  refine List.mem_flatMap.mpr ⟨ka, List.mem_range.mpr (by omega), List.mem_flatMap.mpr ⟨kb, List.mem_range.mpr (by omega), List.mem_flatMap.mpr ⟨kc, List.mem_range.mpr (by omega), List.mem_filterMap.mpr ⟨kd, List.mem_range.mpr (by omega), ?_⟩⟩⟩⟩
  rw [if_pos ⟨hlt, hv⟩]
theorem told_count (rs : List Str) : (toldF rs).map (fun r => r.countP (· == (1 : Int))) = rs.map (rankF rs) := by
  unfold toldF
  rw [List.map_map]
  refine List.map_congr_left fun a _ => ?_
  show (rs.map fun b => collF a b).countP _ = rs.countP _
  rw [List.countP_map]
  refine List.countP_congr fun b _ => ?_
  show (collF a b == 1) = true ↔ slt b a = true
  unfold collF
  cases e1 : slt b a with
  | false => cases slt a b <;> decide
  | true => rw [slt_asymm e1]; decide
end Mine
end
section
open PySem PySem.W PyProof.Rows PySem.Builtin PySem.Builtin.Str
namespace Mine
noncomputable def sqB (n : Nat) (t : List (List Int)) : Bool := t.length == n && t.all fun r => r.length == n && r.all fun e => decide (-1000000 ≤ e) && decide (e ≤ 1000000)
theorem sq_of {n : Nat} {t : List (List Int)} (h : sqB n t = true) : Sq n t := by
  unfold sqB at h
  rw [Bool.and_eq_true] at h
  refine ⟨beq_iff_eq.mp h.1, fun r hr => ?_⟩
  have h2 := List.all_eq_true.mp h.2 r hr
  rw [Bool.and_eq_true] at h2
  refine ⟨beq_iff_eq.mp h2.1, fun e he => ?_⟩
  have h3 := List.all_eq_true.mp h2.2 e he
  simp only [Bool.and_eq_true, decide_eq_true_eq] at h3
  exact h3
noncomputable def cntB (l : List Int) : Bool := l.all fun c => decide (0 ≤ c) && decide (c ≤ 4)
noncomputable def okK (ks : List Nat) (sz : List Int) : Bool :=
  cntB (countsG ks) && ([[1, 2, 3, 4, 5], [5, 4, 3, 2, 1]].all fun pl => (singleF (countsG ks) pl).length == 6 && sqB sz.length (tableF sz (singleF (countsG ks) pl)))
noncomputable def shapes : List (List Int) := [[1, 1, 1], [2, 1, 1], [2, 2, 2], [3, 1, 1], [3, 2, 2], [1, 1], [2, 1], [2, 2], [3, 1], [3, 2], [2, 2, 1], [3, 2, 1]]
theorem ok_all : vecsK.all (fun ks => shapes.all (okK ks)) = true := by decide +kernel
theorem sizesF_mem (n : Int) : sizesF n ∈ shapes := by
  have hf := szF_range n
  have hs : (szF n = 1 ∧ szS n = 1) ∨ (szF n = 2 ∧ szS n = 1) ∨ (szF n = 2 ∧ szS n = 2) ∨ (szF n = 3 ∧ szS n = 1) ∨ (szF n = 3 ∧ szS n = 2) := by
    have h1 := szD_range n
    have h2 := Int.fmod_nonneg_of_pos (n.fdiv 3) (b := if 2 < szF n then 2 else szF n) (by omega)
    have h3 := Int.fmod_lt_of_pos (n.fdiv 3) (b := if 2 < szF n then 2 else szF n) (by omega)
    unfold szS
    by_cases h : 2 < szF n
    · rw [if_pos h] at h2 h3 ⊢; omega
    · rw [if_neg h] at h2 h3 ⊢
      have : szF n = 1 ∨ szF n = 2 := by omega
      rcases this with e | e <;> rw [e] at h2 h3 ⊢ <;> omega
  have hm := szM_range n
  have hm3 : szM n = 0 ∨ szM n = 1 ∨ szM n = 2 := by omega
  unfold sizesF
  rcases hm3 with e | e | e <;> rw [e] <;> rcases hs with ⟨a, b⟩ | ⟨a, b⟩ | ⟨a, b⟩ | ⟨a, b⟩ | ⟨a, b⟩ <;> rw [a, b] <;> decide
theorem sizesF_ok (n : Int) : (∀ s ∈ sizesF n, 1 ≤ s ∧ s ≤ 3) ∧ (sizesF n).length ≤ 3 := by
  have h : ∀ sz ∈ shapes, (∀ s ∈ sz, 1 ≤ s ∧ s ≤ 3) ∧ sz.length ≤ 3 := by decide
  exact h _ (sizesF_mem n)
structure OkP (ks : List Nat) (sz : List Int) : Prop where
  cnt : ∀ c ∈ countsG ks, 0 ≤ c ∧ c ≤ 4
  l1 : (singleF (countsG ks) [1, 2, 3, 4, 5]).length = 6
  s1 : Sq sz.length (tableF sz (singleF (countsG ks) [1, 2, 3, 4, 5]))
  l2 : (singleF (countsG ks) [5, 4, 3, 2, 1]).length = 6
  s2 : Sq sz.length (tableF sz (singleF (countsG ks) [5, 4, 3, 2, 1]))
theorem okPv {ks : List Nat} (hk : ks ∈ vecsK) (n : Int) : OkP ks (sizesF n) := by
  have h := List.all_eq_true.mp (List.all_eq_true.mp ok_all ks hk) _ (sizesF_mem n)
  unfold okK at h
  simp only [List.all_cons, List.all_nil, Bool.and_true, Bool.and_eq_true] at h
  obtain ⟨h1, ⟨h2, h3⟩, h4, h5⟩ := h
  refine ⟨fun c hc => ?_, beq_iff_eq.mp h2, sq_of h3, beq_iff_eq.mp h4, sq_of h5⟩
  have := List.all_eq_true.mp h1 c hc
  simp only [Bool.and_eq_true, decide_eq_true_eq] at this
  exact this
end Mine
end
section
open PySem PySem.W PyProof.Rows PySem.Builtin PySem.Builtin.Str
namespace Mine
theorem intsD_dep (l : List Int) : PyData.depthAll (intsD l) = 0 := by
  induction l with
  | nil => rfl
  | cons x r ih => simp only [intsD, List.map_cons, PyData.depthAll, PyData.depth, Nat.zero_max]; exact ih
theorem strsD_lay (l : List Str) (h : ∀ x ∈ l, PyData.strOk x = true) : PyData.canLayAll0 (l.map .str) = true := by
  induction l with
  | nil => rfl
  | cons x r ih =>
    simp only [List.map_cons, PyData.canLayAll0, PyData.canLay0, Bool.and_eq_true]
    exact ⟨h x List.mem_cons_self, ih fun y hy => h y (List.mem_cons_of_mem _ hy)⟩
theorem strsD_depth (l : List Str) : PyData.depthAll (l.map .str) = 0 := by
  induction l with
  | nil => rfl
  | cons x r ih => simp only [List.map_cons, PyData.depthAll, PyData.depth, Nat.zero_max]; exact ih
noncomputable def strTn : Tn → Option Str | .one (.dat (.str x)) => some x | _ => none
theorem strs_filterMap (rs : List Str) (f : Str → PyData) : ((rs.map PyData.str).map fun d => Tn.one (.dat d)).filterMap (fun t => (strTn t).map f) = rs.map f := by
  rw [List.map_map, List.filterMap_map]
  simp [Function.comp_def, strTn, List.filterMap_eq_map]
theorem strs_mem {rs : List Str} {it : Tn} (h : it ∈ (rs.map PyData.str).map fun d => Tn.one (.dat d)) : ∃ x ∈ rs, it = .one (.dat (.str x)) := by
  obtain ⟨d, hd, rfl⟩ := List.mem_map.mp h
  obtain ⟨x, hx, rfl⟩ := List.mem_map.mp hd
  exact ⟨x, hx, rfl⟩
noncomputable def cntG (rs : List Str) : Tn → Option PyData
  | .two (.dat (.int i)) (.dat (.str x)) => if (rs.take i.toNat).any (· == x) then none else some (.int ((rs.countP (· == x) : Nat) : Int))
  | _ => none
theorem enum_strs : ∀ (l : List Str) (n : Nat), enumT n (l.map .str) = (l.zipIdx n).map fun p => Tn.two (.dat (.int (p.2 : Nat))) (.dat (.str p.1))
  | [], _ => rfl
  | x :: r, n => by
    show Tn.two _ _ :: enumT (n + 1) (r.map .str) = _
    rw [enum_strs r (n + 1)]; rfl
theorem cnt_filterMap (rs : List Str) : (enumT 0 (rs.map .str)).filterMap (cntG rs) = intsD (countsG rs) := by
  rw [enum_strs, List.filterMap_map]
  unfold countsG intsD
  rw [List.map_filterMap]
  refine filterMap_congr_mem fun p _ => ?_
  obtain ⟨x, i⟩ := p
  show cntG rs (Tn.two (.dat (.int (i : Nat))) (.dat (.str x))) = _
  unfold cntG
  simp only [Int.toNat_natCast]
  split <;> rfl
section
variable {w : World} {hb : Heap} {L : Nat} {N : Addr → Prop}
theorem law_told {rs : List Str} (hn : rs.length ≤ 100) {ρ : Vars} (hw : ρ.lookup (S "words") = some (.dat (.list (rs.map .str)))) : Thru (lw w hb N L) 6 [] ρ [nth (dB (st 32)) 9]
    (fun W' ρ' => W' = [] ∧ ρ' = put (S "told") (.dat (.list (rowsD (toldF rs)))) ρ) := by
  refine (Thru.comp (g := fun t => (strTn t).map fun a => .list (intsD (rs.map fun b => collF a b))) (xs := [S "one"]) (oc := [S "one"]) (ρc := [(S "words", .dat (.list (rs.map .str)))]) (its := (rs.map PyData.str).map fun d => Tn.one (.dat d))
    { hit := Itr.list (Ev.name hw rfl) (Shps.ones _)
      hs := fun _ => rfl
      hclos := rfl
      hclo := by exact ⟨rfl, rfl, trivial⟩
      hkind := rfl
      hnames := by decide
      hoc := .one (fun _ _ => rfl) (fun _ => rfl)
      hcap := by exact ⟨⟨hw, rfl, ⟨_, rfl, rfl⟩, rfl, rfl⟩, trivial⟩
      hxs' := rfl
      hxc' := rfl
      htg := fun _ => .one (.inr ⟨rfl, 0, rfl⟩)
      hft := one_fits
      hsz := by rw [List.length_map, List.length_map]; omega
      body := fun N' C it hit => by
        obtain ⟨a, _, rfl⟩ := strs_mem hit
        refine ⟨rfl, Ev.to (Ev.comp (g := fun t => (strTn t).map fun b => .int (collF a b)) (xs := [S "other"]) (oc := []) (ρc := [(S "one", .dat (.str a))]) (its := (rs.map PyData.str).map fun d => Tn.one (.dat d))
          { hit := Itr.list (Ev.name rfl rfl) (Shps.ones _)
            hs := fun _ => rfl
            hclos := rfl
            hclo := by exact ⟨rfl, rfl, trivial⟩
            hkind := rfl
            hnames := by decide
            hoc := .no (fun _ _ => rfl) (fun _ => rfl)
            hcap := by exact ⟨⟨rfl, rfl, ⟨_, rfl, rfl⟩, rfl, rfl⟩, trivial⟩
            hxs' := rfl
            hxc' := rfl
            htg := fun _ => .one (.inl rfl)
            hft := one_fits
            hsz := by rw [List.length_map, List.length_map]; omega
            body := fun N'' C' it hit => by
              obtain ⟨b, _, rfl⟩ := strs_mem hit
              exact ⟨rfl, Ev.call (Ev.glob rfl rfl rfl) (.f (kF_at 2 rfl) (by decide) rfl) (.cons (fun _ => rfl) (Ev.name rfl rfl) (.cons (fun _ => rfl) (Ev.name rfl rfl) .nil)) ((cn_strcoll a b (collF a b) rfl).less (by decide))⟩ }) ?_⟩
        rw [strs_filterMap]
        show _ = D.dat (.list ((rs.map fun b => collF a b).map .int))
        rw [List.map_map]
        rfl } (.inl rfl) rfl).to ?_
  rintro W' ρ' ⟨rfl, rfl⟩
  refine ⟨rfl, ?_⟩
  rw [strs_filterMap]
  unfold rowsD toldF
  rw [List.map_map]; rfl
theorem cnt_test {Y : Fx} {k : Nat} {W : Own} {rs : List Str} {x : Str} {i : Nat} {ρ : Vars} {p1 p2 p3 p4 p5 p6 : Pos} (hn : rs.length ≤ 100) (hok : ∀ x ∈ rs, PyData.strOk x = true) (hmem : x ∈ rs) (h1 : ρ.lookup (S "word") = some (.dat (.str x))) (h2 : ρ.lookup (S "meant") = some (.dat (.list (rs.map .str)))) (h3 : ρ.lookup (S "place") = some (.dat (.int ((i : Nat) : Int)))) :
    Tst Y k W ρ (.Compare (.Name (S "word") p1) [.NotIn] [.Subscript (.Name (S "meant") p2) (.Slice none (some (.Name (S "place") p3)) none p4) p5] p6) (!(rs.take i).any (· == x)) :=
  Tst.to (Tst.cmpD (Ev.name h1 rfl) (Ev.sliceL (a := none) (b := some ((i : Nat) : Int)) (Ev.name h2 rfl) .no (.of (Ev.name h3 rfl)) (by rw [List.length_map]; omega) (fun _ _ => rfl)) (Cmp.notInL (hok x hmem) (by rw [sliced_upto']; rw [← List.map_take]; exact strsD_lay _ fun y hy => hok y (List.mem_of_mem_take hy)) (Nat.zero_le _)) rfl) (by
    rw [sliced_upto', ← List.map_take, List.any_map]
    rfl)
theorem law_counts {rs : List Str} (hn : rs.length ≤ 100) (hok : ∀ x ∈ rs, PyData.strOk x = true) {ρ : Vars} (hm : ρ.lookup (S "meant") = some (.dat (.list (rs.map .str)))) : Thru (lw w hb N L) 6 [] ρ [nth (dB (st 32)) 10]
    (fun W' ρ' => W' = [] ∧ ρ' = put (S "counts") (.dat (.list (intsD (countsG rs)))) ρ) := by
  refine (Thru.comp (g := cntG rs) (xs := [S "place", S "word"]) (oc := []) (ρc := [(S "meant", .dat (.list (rs.map .str)))]) (its := enumT 0 (rs.map .str))
    { hit := Itr.enum (Ev.blt rfl rfl rfl (by decide) rfl) (.cons (fun _ => rfl) (Ev.name hm rfl) .nil)
      hs := fun _ => rfl
      hclos := rfl
      hclo := by exact ⟨rfl, rfl, trivial⟩
      hkind := rfl
      hnames := by decide
      hoc := .no (fun _ _ => rfl) (fun _ => rfl)
      hcap := by exact ⟨⟨hm, rfl, ⟨_, rfl, rfl⟩, rfl, rfl⟩, trivial⟩
      hxs' := rfl
      hxc' := rfl
      htg := fun _ => .two (.inl rfl) (.inl rfl)
      hft := enumT_fits _ _
      hsz := by rw [enumT_length, List.length_map]; omega
      body := fun N' C it hit => by
        obtain ⟨i, hi, e⟩ := List.mem_iff_getElem.mp hit
        have he := List.getElem?_eq_getElem hi
        rw [e] at he
        obtain ⟨d, hd, rfl⟩ := enumT_get _ _ _ he
        rw [List.getElem?_map] at hd
        cases hx : rs[i]? with
        | none => rw [hx] at hd; cases hd
        | some x =>
          rw [hx] at hd; cases hd
          have hmem := List.mem_of_getElem? hx
          have hil : i < rs.length := (List.getElem?_eq_some_iff.mp hx).1
          rw [Nat.zero_add]
          have hg : cntG rs (Tn.two (.dat (.int ((i : Nat) : Int))) (.dat (.str x))) = if (rs.take i).any (· == x) then none else some (.int ((rs.countP (· == x) : Nat) : Int)) := by
            unfold cntG; simp only [Int.toNat_natCast]
          rw [hg]
          cases hb' : (rs.take i).any (· == x) with
          | true => exact Tst.to (cnt_test hn hok hmem rfl rfl rfl) (by rw [hb']; rfl)
          | false =>
            refine ⟨Tst.to (cnt_test hn hok hmem rfl rfl rfl) (by rw [hb']; rfl), Ev.to (Ev.countL (Ev.name rfl rfl) (.cons (fun _ => rfl) (Ev.name rfl rfl) .nil) rfl rfl (hok x hmem) (strsD_lay _ hok) (Nat.zero_le _)) ?_⟩
            rw [List.countP_map]; rfl } (.inl rfl) rfl).to ?_
  rintro W' ρ' ⟨rfl, rfl⟩
  refine ⟨rfl, ?_⟩
  rw [cnt_filterMap]
end
end Mine
end
section
open PySem PySem.W PyProof.Rows PySem.Builtin PySem.Builtin.Str
namespace Mine
theorem rows_behind (t : List (List Int)) : ((rowsD t).map fun d => Tn.one (.dat d)).filterMap (fun tn => (rowOf tn).map fun r => .int ((r.countP (· == (1 : Int)) : Nat) : Int)) = intsD ((t.map fun r => r.countP (· == (1 : Int))).map fun n => ((n : Nat) : Int)) := by
  rw [rowsD_filterMap]
  unfold intsD
  rw [List.map_map, List.map_map]; rfl
theorem countP_ints (r : List Int) : (intsD r).countP (fun y => PyData.eqv y (.int 1)) = r.countP (· == (1 : Int)) := by
  unfold intsD
  rw [List.countP_map]; rfl
theorem toldF_ok (a b c d : Str) : ToldOk (toldF [a, b, c, d]) := ⟨rfl, fun r hr => by
  obtain ⟨x, _, rfl⟩ := List.mem_map.mp hr; rfl⟩
theorem pair_lay (d1 d2 : Int) (l : List Nat) : (PyData.tuple [.tuple [.int d1, .int d2], .list (l.map fun x => .int ((x : Nat) : Int))]).canLay0 = true := by
  have e : (l.map fun x => PyData.int ((x : Nat) : Int)) = intsD (l.map fun x => ((x : Nat) : Int)) := by unfold intsD; rw [List.map_map]; rfl
  rw [e]
  simp [PyData.canLay0, PyData.canLayAll0, intsD_lay]
theorem pair_dep (d1 d2 : Int) (l : List Nat) : (PyData.tuple [.tuple [.int d1, .int d2], .list (l.map fun x => .int ((x : Nat) : Int))]).depth ≤ 16 := by
  have e : (l.map fun x => PyData.int ((x : Nat) : Int)) = intsD (l.map fun x => ((x : Nat) : Int)) := by unfold intsD; rw [List.map_map]; rfl
  rw [e]
  simp [PyData.depth, PyData.depthAll, intsD_dep]
section
variable {w : World} {hb : Heap} {L : Nat} {N : Addr → Prop}
theorem law_rest {a b c d : Str} {n : Int} (hok : ∀ x ∈ [a, b, c, d], PyData.strOk x = true) (hlt : slt c d = true) :
    Bk (lw w hb N L) 6 [] [(S "counts", .dat (.list (intsD (countsG [a, b, c, d])))), (S "told", .dat (.list (rowsD (toldF [a, b, c, d])))), (S "meant", .dat (.list ([a, b, c, d].map .str))), (S "sizes", .dat (.list (intsD (sizesF n)))), (S "due", .dat (.list (intsD (sizesF n))))] ((dB (st 32)).drop 11) (.bool true) := by
  have hv := ranks_vec (a := a) (b := b) hlt
  have hL := lawK_all hv n
  have hS := sizesF_ok n
  unfold lawK at hL
  rw [← countsG_rank, ← toldF_rank, Bool.and_eq_true, beq_iff_eq, beq_iff_eq] at hL
  have hO : OkP ([a, b, c, d].map (rankF [a, b, c, d])) (sizesF n) := okPv hv n
  obtain ⟨o1, o2, o3, o4, o5⟩ := hO
  rw [← countsG_rank] at o1 o2 o3 o4 o5
  have hcnt := told_count [a, b, c, d]
  have ht := toldF_ok a b c d
  have h64 : [a, b, c, d].length < 64 := by simp
  generalize hcs : countsG [a, b, c, d] = cs at *
  generalize hsz : sizesF n = sz at *
  generalize htl : toldF [a, b, c, d] = tl at *
  generalize hrs : [a, b, c, d] = rs at *
  have l100 : sz.length ≤ 10 := by omega
  have dets : ∀ (pl : List Int), (∀ p ∈ pl, 1 ≤ p ∧ p ≤ 5) → (singleF cs pl).length = 6 → Sq sz.length (tableF sz (singleF cs pl)) → ∀ {ρ : Vars} {e : Expr} {p1 p2 p3 p4 p5 p6 p7 p8 : Pos}, ρ.lookup (S "counts") = some (.dat (.list (intsD cs))) → ρ.lookup (S "due") = some (.dat (.list (intsD sz))) →
      Ev (lw w hb N L) 6 [] ρ e (.dat (.list (intsD pl))) → (∀ r, starEach (e :: r) (lw w hb N L).env = (false, eval e (lw w hb N L).env) :: starEach r (lw w hb N L).env) → Ev (lw w hb N L) 6 [] ρ (.Call (.Name (S "_law_determinant") p1) [.Call (.Name (S "_law_table") p2) [.Name (S "due") p3, .Call (.Name (S "_law_single") p4) [.Name (S "counts") p5, e] [] p6] [] p7] [] p8) (.dat (.int (detF sz.length (tableF sz (singleF cs pl))))) :=
    fun pl h1 h2 h3 {ρ e p1 p2 p3 p4 p5 p6 p7 p8} hc hd he hst => Ev.call (Ev.glob rfl rfl rfl) (.f (kF_at 55 rfl) (by decide) rfl) (.cons (fun _ => rfl) (Ev.call (Ev.glob rfl rfl rfl) (.f (kF_at 53 rfl) (by decide) rfl) (.cons (fun _ => rfl) (Ev.name hd rfl) (.cons (fun _ => rfl) (Ev.call (Ev.glob rfl rfl rfl) (.f (kF_at 51 rfl) (by decide) rfl) (.cons (fun _ => rfl) (Ev.name hc rfl) (.cons hst he .nil)) ((cn_single cs pl o1 h1).less (by decide))) .nil)) ((cn_table sz _ hS.2 h2 hS.1).less (by decide))) .nil) ((cn_det sz.length _ l100 h3).less (by omega))
  refine Bk.cons (Thru.assign (dets [1, 2, 3, 4, 5] (by decide) o2 o3 rfl rfl (Ev.list (ds := intsD [1, 2, 3, 4, 5]) (.cons (fun _ => rfl) Ev.int (.cons (fun _ => rfl) Ev.int (.cons (fun _ => rfl) Ev.int (.cons (fun _ => rfl) Ev.int (.cons (fun _ => rfl) Ev.int .nil))))) (Nat.le_of_ble_eq_true rfl)) (fun _ => rfl)) (.inl rfl) rfl) ?_
  rintro W' ρ' ⟨rfl, rfl⟩
  generalize detF sz.length (tableF sz (singleF cs [1, 2, 3, 4, 5])) = d1 at *
  refine Bk.pre (ρ' := [(S "loose", .dat (.int d1)), (S "counts", .dat (.list (intsD cs))), (S "told", .dat (.list (rowsD tl))), (S "meant", .dat (.list (rs.map .str))), (S "sizes", .dat (.list (intsD sz))), (S "due", .dat (.list (intsD sz)))]) ⟨rfl, rfl, rfl, rfl, rfl, rfl, trivial⟩ ?_
  refine Bk.cons (Thru.assign (dets [5, 4, 3, 2, 1] (by decide) o4 o5 rfl rfl (Ev.list (ds := intsD [5, 4, 3, 2, 1]) (.cons (fun _ => rfl) Ev.int (.cons (fun _ => rfl) Ev.int (.cons (fun _ => rfl) Ev.int (.cons (fun _ => rfl) Ev.int (.cons (fun _ => rfl) Ev.int .nil))))) (Nat.le_of_ble_eq_true rfl)) (fun _ => rfl)) (.inl rfl) rfl) ?_
  rintro W' ρ' ⟨rfl, rfl⟩
  generalize detF sz.length (tableF sz (singleF cs [5, 4, 3, 2, 1])) = d2 at *
  refine Bk.pre (ρ' := [(S "strict", .dat (.int d2)), (S "loose", .dat (.int d1)), (S "told", .dat (.list (rowsD tl))), (S "meant", .dat (.list (rs.map .str))), (S "sizes", .dat (.list (intsD sz)))]) ⟨rfl, rfl, rfl, rfl, rfl, trivial⟩ ?_
  refine Bk.cons (Thru.assign (d := .dat (.tuple [.int d1, .int d2])) (Ev.tuple (.cons (fun _ => rfl) (Ev.to (Ev.call (Ev.glob rfl rfl rfl) (.f (kF_at 49 rfl) (by decide) rfl) (.cons (fun _ => rfl) (Ev.name rfl rfl) (.cons (fun _ => rfl) (Ev.name rfl rfl) (.cons (fun _ => rfl) (Ev.list (ds := intsD [-1, 0]) (.cons (fun _ => rfl) (Ev.neg Ev.int) (.cons (fun _ => rfl) Ev.int .nil)) (Nat.le_of_ble_eq_true rfl)) (.cons (fun _ => rfl) (Ev.list (ds := intsD [-1]) (.cons (fun _ => rfl) (Ev.neg Ev.int) .nil) (Nat.le_of_ble_eq_true rfl)) .nil)))) ((cn_filled tl sz [-1, 0] [-1] ht hS.1 l100).less (by decide))) (by rw [hL.1]))
    (.cons (fun _ => rfl) (Ev.to (Ev.call (Ev.glob rfl rfl rfl) (.f (kF_at 49 rfl) (by decide) rfl) (.cons (fun _ => rfl) (Ev.name rfl rfl) (.cons (fun _ => rfl) (Ev.name rfl rfl) (.cons (fun _ => rfl) (Ev.list (ds := intsD [-1]) (.cons (fun _ => rfl) (Ev.neg Ev.int) .nil) (Nat.le_of_ble_eq_true rfl)) (.cons (fun _ => rfl) (Ev.list (ds := intsD [-1, 0]) (.cons (fun _ => rfl) (Ev.neg Ev.int) (.cons (fun _ => rfl) Ev.int .nil)) (Nat.le_of_ble_eq_true rfl)) .nil)))) ((cn_filled tl sz [-1] [-1, 0] ht hS.1 l100).less (by decide))) (by rw [hL.2])) .nil)) (Nat.le_of_ble_eq_true rfl)) (.inl rfl) rfl) ?_
  rintro W' ρ' ⟨rfl, rfl⟩
  refine Bk.pre (ρ' := [(S "filled", .dat (.tuple [.int d1, .int d2])), (S "strict", .dat (.int d2)), (S "loose", .dat (.int d1)), (S "told", .dat (.list (rowsD tl))), (S "meant", .dat (.list (rs.map .str)))]) ⟨rfl, rfl, rfl, rfl, rfl, trivial⟩ ?_
  have hbl : (intsD ((tl.map fun r => r.countP (· == (1 : Int))).map fun n => ((n : Nat) : Int))) = ((rs.map (rankF rs)).map fun x => .int ((x : Nat) : Int)) := by
    rw [hcnt]; unfold intsD; rw [List.map_map]; rfl
  have htn : tl.length = 4 := ht.1
  refine Bk.cons (Thru.two (a := .list ((rs.map (rankF rs)).map fun x => .int ((x : Nat) : Int))) (b := .list ((sortF rs).map .str)) (Ev.tuple (.cons (fun _ => rfl) (Ev.to (Ev.comp (g := fun tn => (rowOf tn).map fun r => .int ((r.countP (· == (1 : Int)) : Nat) : Int)) (xs := [S "row"]) (oc := []) (ρc := []) (its := (rowsD tl).map fun d => Tn.one (.dat d))
    { hit := Itr.list (Ev.name rfl rfl) (Shps.ones _)
      hs := fun _ => rfl
      hclos := rfl
      hclo := by exact trivial
      hkind := rfl
      hnames := by decide
      hoc := .no (fun _ _ => rfl) (fun _ => rfl)
      hcap := by exact trivial
      hxs' := rfl
      hxc' := rfl
      htg := fun _ => .one (.inl rfl)
      hft := one_fits
      hsz := by rw [List.length_map]; unfold rowsD; rw [List.length_map]; omega
      body := fun N' C it hit => by
        obtain ⟨r, hr, rfl⟩ := rowsD_mem hit
        rw [rowOf_intsD]
        refine ⟨rfl, Ev.to (Ev.countL (Ev.name rfl rfl) (.cons (fun _ => rfl) Ev.int .nil) rfl rfl rfl (intsD_lay r) (Nat.zero_le _)) ?_⟩
        rw [countP_ints] }) (by rw [rows_behind, hbl]))
    (.cons (fun _ => rfl) (Ev.call (Ev.blt rfl rfl rfl (by decide) rfl) (.b _) (.cons (fun _ => rfl) (Ev.name rfl rfl) .nil) (Cn.sorted h64 fun ss' hp hs => sortF_uniq hp hs)) .nil)) (Nat.le_of_ble_eq_true rfl)) (.inl rfl) (.inr ⟨rfl, 2, rfl⟩) rfl rfl) ?_
  rintro W' ρ' ⟨rfl, rfl⟩
  refine Bk.pre (ρ' := [(S "order", .dat (.list ((sortF rs).map .str))), (S "behind", .dat (.list ((rs.map (rankF rs)).map fun x => .int ((x : Nat) : Int)))), (S "filled", .dat (.tuple [.int d1, .int d2])), (S "strict", .dat (.int d2)), (S "loose", .dat (.int d1)), (S "meant", .dat (.list (rs.map .str)))]) ⟨rfl, rfl, rfl, rfl, rfl, rfl, trivial⟩ ?_
  have hperm : (sortF rs).Perm rs := List.mergeSort_perm rs sle
  have hsok : ∀ x ∈ sortF rs, PyData.strOk x = true := fun x hx => hok x (hperm.mem_iff.mp hx)
  have hlen : (sortF rs).length = rs.length := hperm.length_eq
  refine Bk.ret (Ev.to (Ev.cmpD (a := .tuple [.tuple [.int d1, .int d2], .list ((rs.map (rankF rs)).map fun x => .int ((x : Nat) : Int))]) (b := .tuple [.tuple [.int d1, .int d2], .list ((rs.map (rankF rs)).map fun x => .int ((x : Nat) : Int))])
    (Ev.tuple (.cons (fun _ => rfl) (Ev.name rfl rfl) (.cons (fun _ => rfl) (Ev.name rfl rfl) .nil)) (Nat.le_of_ble_eq_true rfl))
    (Ev.tuple (.cons (fun _ => rfl) (Ev.tuple (ds := [.int d1, .int d2]) (.cons (fun _ => rfl) (Ev.name rfl rfl) (.cons (fun _ => rfl) (Ev.name rfl rfl) .nil)) (Nat.le_of_ble_eq_true rfl)) (.cons (fun _ => rfl) (Ev.to (Ev.comp (g := fun tn => (strTn tn).map fun x => .int ((rankF rs x : Nat) : Int)) (xs := [S "word"]) (oc := []) (ρc := [(S "order", .dat (.list ((sortF rs).map .str)))]) (its := (rs.map PyData.str).map fun d => Tn.one (.dat d))
      { hit := Itr.list (Ev.name rfl rfl) (Shps.ones _)
        hs := fun _ => rfl
        hclos := rfl
        hclo := by exact ⟨rfl, rfl, trivial⟩
        hkind := rfl
        hnames := by decide
        hoc := .no (fun _ _ => rfl) (fun _ => rfl)
        hcap := by exact ⟨⟨rfl, rfl, ⟨_, rfl, rfl⟩, rfl, rfl⟩, trivial⟩
        hxs' := rfl
        hxc' := rfl
        htg := fun _ => .one (.inl rfl)
        hft := one_fits
        hsz := by rw [List.length_map, List.length_map]; omega
        body := fun N' C it hit => by
          obtain ⟨x, hx, rfl⟩ := strs_mem hit
          obtain ⟨h1, h2, h3⟩ := index_sortF rs x hx
          refine ⟨rfl, Ev.indexL (j := rankF rs x) (Ev.name rfl rfl) (.cons (fun _ => rfl) (Ev.name rfl rfl) .nil) rfl rfl (hok x hx) (strsD_lay _ hsok) (Nat.zero_le _) (by rw [List.length_map]; omega) (by rw [List.length_map]; exact h1) ?_ ?_⟩
          · rw [List.getElem_map, h2]
            show (x == x) = true
            simp
          · intro m hm hlt'
            rw [List.getElem_map]
            show ((sortF rs)[m] == x) = false
            rw [beq_eq_false_iff_ne]
            exact h3 m (by rw [List.length_map] at hm; exact hm) hlt' }) (by rw [strs_filterMap, List.map_map]; rfl)) .nil)) (Nat.le_of_ble_eq_true rfl))
    (Cmp.eqD (pair_lay d1 d2 _) (pair_lay d1 d2 _) (pair_dep d1 d2 _)) rfl) ?_)
  rw [PySem.SeqAt.eqv_refl _ (pair_lay d1 d2 _)]
end
end Mine
end
section
open PySem PySem.W PyProof.Rows PySem.Builtin PySem.Builtin.Str
namespace Mine
theorem cnt_nat (c : Nat) : ∀ l : List Nat, PyProof.Rows.cnt c l = ((l.count c : Nat) : Int)
  | [] => rfl
  | n :: r => by
    rw [PyProof.Rows.cnt_cons, cnt_nat c r, List.count_cons]
    by_cases h : n = c
    · subst h; simp; omega
    · rw [if_neg h, show (n == c) = false from by simpa using h]; simp
theorem line_count (x : Str) {p : Nat} (hp : p ≤ x.cps.size) (h : At x p []) : 1 + (Txt.count x (S "\n") : Int) = lnOf x p := by
  have hpe := At.nil h hp
  have e : S "\n" = ⟨#[10]⟩ := by decide +kernel
  have h1 : (Txt.count x (S "\n") : Int) = ((x.cps.toList.count 10 : Nat) : Int) := by
    rw [e]
    exact (PyProof.Rows.count_is x 10).trans (cnt_nat 10 _)
  rw [h1]
  unfold lnOf
  rw [List.take_of_length_le (by rw [Array.length_toList]; omega)]
theorem sl_cps (x : Str) : sl x.cps.toList = x := by unfold sl; simp
theorem meant_ok : ((List.range 5).all fun k => (List.range 7).all fun i => PyData.strOk (meantF k (sgS i))) = true := by decide +kernel
theorem meant_lt : ((List.range 5).all fun k => (List.range 5).all fun k' => slt (meantF k (sgS 0)) (meantF k' (sgS 1))) = true := by decide +kernel
theorem meantP_ok {q : Nat × Int} (h : q.1 < 7) : PyData.strOk (meantP q) = true :=
  List.all_eq_true.mp (List.all_eq_true.mp meant_ok _ (List.mem_range.mpr (kdI_lt q.2))) _ (List.mem_range.mpr h)
theorem meantP_lt (n n' : Int) : slt (meantP (0, n)) (meantP (1, n')) = true :=
  List.all_eq_true.mp (List.all_eq_true.mp meant_lt _ (List.mem_range.mpr (kdI_lt n))) _ (List.mem_range.mpr (kdI_lt n'))
section
variable {w : World} {A : Around} {E : Value → Shared → Prop} {s : Shared} {hb : Heap} {L : Nat} {N : Addr → Prop}
theorem law_pre {ns : List Int} (hn : ns.length ≤ 63) {n0 n1 n2 n3 n4 : Int} (he : numsF ns = [n0, n1, n2, n3, n4]) : Thru (lw w hb N L) 4 [] [(S "script", .dat (.list (intsD ns)))] ((dB (st 32)).take 5)
    (fun W' ρ' => W' = [] ∧ Sub [(S "meant", .dat (.list ((wordsQ n1 n2 n3 n4).map fun q => .str (meantP q)))), (S "text", .dat (.str (textP (wordsQ n1 n2 n3 n4)))), (S "numbers", .dat (.list (intsD [n0, n1, n2, n3, n4])))] ρ') := by
  refine Thru.cons (law_drawn hn) ?_
  rintro W' ρ' ⟨rfl, hs⟩
  refine Thru.pre hs (Thru.cons law_numbers ?_)
  rintro W' ρ' ⟨rfl, hs⟩
  rw [he] at hs
  refine Thru.pre hs (Thru.cons law_signs ?_)
  rintro W' ρ' ⟨rfl, hs⟩
  exact Thru.pre hs law_words
theorem Cx.upd {w : World} {h : Heap} (C : Cx w h) (f : Obj → Obj) : Cx w (h.update 185 f) := by
  have ne : ∀ {b : Addr} {ob : Obj}, b ≠ 185 → h.get? b = some ob → (h.update 185 f).get? b = some ob := fun hb e => (Heap.get?_update_other h f (Ne.symm hb)).trans e
  refine ⟨fun a o m n => ne n (C.kin a o m n), ?_, ?_⟩
  · obtain ⟨mb, a, b⟩ := C.mb
    exact ⟨mb, a.at' fun o e => ne (by decide) e, b⟩
  · obtain ⟨m, a, b⟩ := C.nolimit
    exact ⟨m, a.at' fun o e => ne (by decide) e, b⟩
theorem Thru.raw {X : Fx} {k : Nat} {W : Own} {ρ : Vars} {ss rest : List Stmt} {P : Own → Vars → Prop} {Q : Flow → Shared → Prop} (h : Thru X k W ρ ss P) (R : Rm k A s.toks) (T : Stt X W ρ s.heap)
    (hq : ∀ W' ρ' s', P W' ρ' → Stt X W' ρ' s'.heap → Mv X W W' s s' → wpAny (mo X.w) A (execs rest X.env) Q E s') : wpAny (mo X.w) A (execs (ss ++ rest) X.env) Q E s := by
  rw [execs_append]
  exact wpAny_bind (h A E s _ R T fun W' ρ' s' p T' m => hq W' ρ' s' p T' m)
end
end Mine
end
section
open PySem PySem.W PyProof.Rows PySem.Builtin PySem.Builtin.Str
namespace Mine
theorem body_five : dB (st 32) = (dB (st 32)).take 5 ++ (nth (dB (st 32)) 5 :: nth (dB (st 32)) 6 :: nth (dB (st 32)) 7 :: nth (dB (st 32)) 8 :: ([nth (dB (st 32)) 9] ++ ([nth (dB (st 32)) 10] ++ (dB (st 32)).drop 11))) := by rfl
theorem tri_lay {a b : List PyData} (i : Int) (h1 : PyData.canLayAll0 a = true) (h2 : PyData.canLayAll0 b = true) : (PyData.tuple [.list a, .int i, .list b]).canLay0 = true := by simp [PyData.canLay0, PyData.canLayAll0, h1, h2]
theorem tri_dep {a b : List PyData} (i : Int) (h1 : PyData.depthAll a = 0) (h2 : PyData.depthAll b = 0) : (PyData.tuple [.list a, .int i, .list b]).depth ≤ 16 := by simp [PyData.depth, PyData.depthAll, h1, h2]
section
variable {w : World} {A : Around} {E : Value → Shared → Prop} {s : Shared} {L : Nat}
theorem law_body {ns : List Int} {h₀ : Heap} {Q : Flow → Shared → Prop} (hn : ns.length ≤ 63) (C0 : Cx w h₀) (ht0 : h₀.get? 185 = some (o185_32 w.params)) (R : Rm 14 A s.toks)
    (T : Stt (lw w (h₀.hide 185) (fun a => a = 185) L) [] [(S "script", .dat (.list (intsD ns)))] s.heap) (B : Bm s.heap) (ht : s.heap.get? 185 = some (o185_32 w.params))
    (h : ∀ s', Gn s s' → (∃ more, Kp (h₀.update 185 fun _ => tabObj more) s'.heap) → Q (.ret (.bool true)) s') : wpAny (mo w) A (execs (dB (st 32)) (envLaw L)) Q E s := by
  obtain ⟨n0, n1, n2, n3, n4, he, i0, i1, i2, i3, i4⟩ := numsF_five ns
  have hz : (h₀.hide 185).objs.size = h₀.objs.size := Heap.hide_size ..
  have lt : 185 < (h₀.hide 185).objs.size := by rw [hz]; exact Heap.lt_size ht0
  have h0 : (h₀.hide 185).get? 185 = none := Heap.hide_self ..
  rw [body_five]
  refine Thru.raw (law_pre hn he) (R.less (by decide)) T ?_
  rintro W' ρ' s₁ ⟨rfl, hs⟩ T₁ m₁
  have T₁ := T₁.less hs.mem
  have R₁ : Rm 14 A s₁.toks := R.up m₁.le
  obtain ⟨ob, b1, b2⟩ := B
  have old₁ : ∀ (b : Nat) o, b < (h₀.hide 185).objs.size → s.heap.get? b = some o → s₁.heap.get? b = some o := fun b o hb e => m₁.kept b o (T.notT hb) e
  generalize hqs : wordsQ n1 n2 n3 n4 = qs at *
  have hq7 : ∀ q ∈ qs, q.1 < 7 := hqs ▸ wordsQ_lt
  have hl4 : qs.length = 4 := by rw [← hqs]; rfl
  -- lexer
  refine raw_cons (law_lexer (R₁.less (by decide)) h0 lt T₁ ⟨ob, old₁ 4 ob (Nat.lt_trans (by decide) lt) b1, b2⟩ (old₁ 185 _ lt ht) rfl fun s₂ l htx hlb C₂ V₂ T₂ off tab g₂ => ?_)
  have T₂ := T₂.less (ρ' := [(S "lexer", .val (.ref l.x)), (S "meant", .dat (.list (qs.map fun q => .str (meantP q)))), (S "text", .dat (.str (textP qs))), (S "numbers", .dat (.list (intsD [n0, n1, n2, n3, n4])))]) (Sub.mem ⟨rfl, rfl, rfl, rfl, trivial⟩)
  have R₂ : Rm 14 A s₂.toks := R₁.up g₂.le
  have hcs : At l.text 0 (flatP (qs.map pcP)) := by
    rw [htx]
    unfold At
    rw [List.drop_zero]
    have := textP_cps hq7 (S "")
    have e0 : (S "").cps.toList = [] := by decide +kernel
    rw [e0] at this
    exact this
  have htks : Tks (flatP (qs.map pcP)) ((qs.map pcP).map (·.cs)) := tks_flat fun p hp => by obtain ⟨q, hq, rfl⟩ := List.mem_map.mp hp; exact pcP_ok (hq7 q hq)
  have hsz : l.text.cps.size ≤ 100000 := by
    rw [htx]
    have := textP_len hq7 (S "")
    have e0 : (S "").length = 0 := by decide +kernel
    have : (textP qs).length ≤ 0 + 203 * qs.length := by rw [← e0]; exact this
    have : (textP qs).cps.size ≤ 0 + 203 * qs.length := this
    omega
  have hmem : ∀ t ∈ (qs.map pcP).map (·.cs), ∃ q ∈ qs, t = (rawP q).cps.toList := fun t ht => by
    obtain ⟨p, hp, rfl⟩ := List.mem_map.mp ht
    obtain ⟨q, hq, rfl⟩ := List.mem_map.mp hp
    exact ⟨q, hq, rfl⟩
  have d185 : 185 ≠ l.dx ∧ 185 ≠ l.g := by
    have h1 : l.hb.objs.size ≤ l.dx := C₂.lo _ (by simp [Lx.all])
    have h2 : l.hb.objs.size ≤ l.g := C₂.lo _ (by simp [Lx.all])
    rw [hlb] at h1 h2
    exact ⟨Nat.ne_of_lt (Nat.lt_of_lt_of_le lt h1), Nat.ne_of_lt (Nat.lt_of_lt_of_le lt h2)⟩
  refine raw_cons (law_wordsS (R₂.less (by decide)) T₂ C₂ V₂ hlb off rfl hsz hcs htks (by rw [List.length_map, List.length_map]; omega) (fun t ht => by obtain ⟨q, hq, rfl⟩ := hmem t ht; have := (caseP (hq7 q hq)).len; omega) (fun t ht => by obtain ⟨q, hq, rfl⟩ := hmem t ht; rw [sl_cps]; exact (caseP (hq7 q hq)).prep) d185 (let ⟨more, e⟩ := tab; ⟨_, e⟩) lt fun s₃ p hat₃ C₃ V₃ T₃ k185 g₃ => ?_)
  have hws : (((qs.map pcP).map (·.cs)).map fun t => PyData.str (prepF (sl t))) = (qs.map meantP).map .str := by
    rw [List.map_map, List.map_map, List.map_map]
    refine List.map_congr_left fun q hq => ?_
    show PyData.str (prepF (sl (rawP q).cps.toList)) = .str (meantP q)
    rw [sl_cps, (caseP (hq7 q hq)).meant]; rfl
  rw [hws] at T₃
  have hme : (qs.map fun q => PyData.str (meantP q)) = (qs.map meantP).map .str := by rw [List.map_map]; rfl
  rw [hme] at T₃
  have T₃ := T₃.less (ρ' := [(S "words", .dat (.list ((qs.map meantP).map .str))), (S "lexer", .val (.ref l.x)), (S "meant", .dat (.list ((qs.map meantP).map .str))), (S "text", .dat (.str (textP qs))), (S "numbers", .dat (.list (intsD [n0, n1, n2, n3, n4])))]) (Sub.mem ⟨rfl, rfl, rfl, rfl, rfl, trivial⟩)
  have R₃ : Rm 14 A s₃.toks := R₂.up g₃.le
  -- sizes
  refine raw_cons (law_sizesS (R₃.less (by decide)) T₃ rfl fun s₄ T₄ mv₄ g₄ => ?_)
  have C₄ := LexC.lw T₃ C₃ hlb off mv₄
  have V₄ := LexV.lw (w := w) (hb := h₀.hide 185) (N := shN l) V₃ off mv₄
  have R₄ : Rm 14 A s₄.toks := R₃.up g₄.le
  have T₄ := T₄.less (ρ' := [(S "due", .dat (.list (intsD (sizesF n0)))), (S "sizes", .dat (.list (intsD (sizesF n0)))), (S "words", .dat (.list ((qs.map meantP).map .str))), (S "lexer", .val (.ref l.x)), (S "meant", .dat (.list ((qs.map meantP).map .str))), (S "text", .dat (.str (textP qs)))]) (Sub.mem ⟨rfl, rfl, rfl, rfl, rfl, rfl, trivial⟩)
  -- the test
  have hok : ∀ x ∈ qs.map meantP, PyData.strOk x = true := fun x hx => by obtain ⟨q, hq, rfl⟩ := List.mem_map.mp hx; exact meantP_ok (hq7 q hq)
  have hline : 1 + (Txt.count (textP qs) (S "\n") : Int) = lnOf l.text p := by rw [htx] at hat₃ ⊢; exact line_count _ (by have := V₃.le; rw [htx] at this; exact this) hat₃
  have hlay : (PyData.tuple [.list ((qs.map meantP).map .str), .int (lnOf l.text p), .list (intsD (sizesF n0))]).canLay0 = true := by
    exact tri_lay _ (strsD_lay _ hok) (intsD_lay _)
  have hdep : (PyData.tuple [.list ((qs.map meantP).map .str), .int (lnOf l.text p), .list (intsD (sizesF n0))]).depth ≤ 16 := by
    exact tri_dep _ (strsD_depth _) (intsD_dep _)
  refine raw_cons (law_test (R₄.less (by decide)) T₄ C₄ V₄ rfl rfl rfl rfl rfl rfl hline hlay hdep (PySem.SeqAt.eqv_refl _ hlay) fun s₅ t₅ => ?_)
  have T₅ := T₄.keeps t₅.heap
  have R₅ : Rm 14 A s₅.toks := R₄.to t₅
  -- the rest, over a base that holds the table of the code
  obtain ⟨more, tab⟩ := tab
  have tab₅ : s₅.heap.get? 185 = some (tabObj more) := t₅.heap _ _ (mv₄ _ _ (T₃.notT lt) (k185 _ tab))
  have zu : (h₀.update 185 fun _ => tabObj more).objs.size = (h₀.hide 185).objs.size := by rw [Heap.size_update, hz]
  have ku : Kp (h₀.update 185 fun _ => tabObj more) s₅.heap := fun b o e => by
    by_cases hb : b = 185
    · subst hb
      rw [Heap.get?_update_self _ ht0 rfl] at e
      cases e; exact tab₅
    · rw [Heap.get?_update_other _ _ (Ne.symm hb)] at e
      exact T₅.keep b o ((Heap.hide_ne h₀ hb).trans e)
  have T₆ : Stt (lw w (h₀.update 185 fun _ => tabObj more) (shN l) L) [] _ s₅.heap := Stt.base T₅ (C0.upd _) ku zu
  obtain ⟨a, b, c, d, hrs, hlt⟩ : ∃ a b c d, qs.map meantP = [a, b, c, d] ∧ slt c d = true := ⟨_, _, _, _, by rw [← hqs]; rfl, meantP_lt n3 n4⟩
  rw [hrs] at T₆ hok
  refine Bk.seq (X := lw w (h₀.update 185 fun _ => tabObj more) (shN l) L) (d := .bool true) (law_told (by simp) rfl) (fun W' ρ' hp => ?_) A E s₅ Q (R₅.less (by decide)) T₆ fun v s₆ kp hs₆ rv => ?_
  · obtain ⟨rfl, rfl⟩ := hp
    refine Bk.pre (ρ' := [(S "told", .dat (.list (rowsD (toldF [a, b, c, d])))), (S "meant", .dat (.list ([a, b, c, d].map .str))), (S "sizes", .dat (.list (intsD (sizesF n0)))), (S "due", .dat (.list (intsD (sizesF n0))))]) ⟨rfl, rfl, rfl, rfl, trivial⟩ ?_
    refine Bk.seq (law_counts (by simp) hok rfl) fun W' ρ' hp => ?_
    obtain ⟨rfl, rfl⟩ := hp
    refine Bk.pre (ρ' := [(S "counts", .dat (.list (intsD (countsG [a, b, c, d])))), (S "told", .dat (.list (rowsD (toldF [a, b, c, d])))), (S "meant", .dat (.list ([a, b, c, d].map .str))), (S "sizes", .dat (.list (intsD (sizesF n0)))), (S "due", .dat (.list (intsD (sizesF n0))))]) ⟨rfl, rfl, rfl, rfl, rfl, trivial⟩ (law_rest hok hlt)
  · have : v = .bool true := by cases rv; rfl
    subst this
    obtain ⟨h6, tk6, e6, q6⟩ := hs₆
    have g₁ : Gn s s₁ := by obtain ⟨h1, k1, e1, q1⟩ := m₁.same; exact ⟨h1, k1, s.gens, e1, q1, id⟩
    exact h s₆ (((((g₁.trans g₂).trans g₃).trans g₄).trans (Gn.ofTo t₅)).trans ⟨h6, tk6, s₅.gens, e6, q6, id⟩) ⟨more, kp⟩
end
end Mine
end
section
open PySem PySem.W PyProof.Rows PySem.Builtin PySem.Builtin.Str
namespace Mine
/-- a frame with one parameter: a token more is given out -/
theorem newEnv1 {M : Model} {A : Around} {E : Value → Shared → Prop} {s : Shared} {scope : Scope} {globals : Addr} {n : Str} {v : Value} {qual : Str} {func : Option Addr} {code : Value} {builtins : Addr} {Q : Env → Shared → Prop}
    (hk : scope.kind = .function) (hkind : scope.names.lookup n = some .local)
    (hQ : ∀ env, env = newEnv scope s.heap.objs.size globals (cellsFrom (s.heap.objs.size + 1) scope.names []) qual func code none builtins →
      ∀ s', InCallC s env.locals (bindL env.kindOf [(n, v)] fun _ => none) env.cells (bindC env.kindOf [(n, v)] fun _ => none) s' → s.toks < s'.toks → Q env s') :
    wpAny M A (newFunctionEnv scope globals [] [(n, v)] qual func code none builtins) Q E s := by
  simp only [newFunctionEnv, Option.isSome_none, Bool.false_eq_true, if_false]
  refine wpAny_bind (wpAny_alloc ?_)
  refine wpAny_bind (wpAny_layCells _ (fun name kind cells => by cases hkc : kind == NameKind.cell <;> simp [hkc]) _ _ _ _ ?_)
  have ok := cellsFrom_ok scope.names (s.heap.push { cls := .type "frame", data := .dict #[] }) (s.heap.objs.size + 1) [] ⟨fun _ _ hm => (nomatch hm), List.Pairwise.nil⟩ (by rw [Heap.size_push]; exact Nat.le_refl _)
  rw [Heap.size_push] at ok
  rw [show ({ s with heap := s.heap.push { cls := .type "frame", data := .dict #[] } } : Shared).heap.objs.size = s.heap.objs.size + 1 from Heap.size_push ..]
  have kp : Kp s.heap (pushCells (s.heap.push { cls := .type "frame", data := .dict #[] }) scope.names) := fun b o e => pushCells_keeps _ _ b o (Heap.get?_push_of_some _ e)
  have hns : (pushCells (s.heap.push { cls := .type "frame", data := .dict #[] }) scope.names).Ns s.heap.objs.size (fun _ => none) := (Heap.Ns.new s.heap (.type "frame")).keeps (pushCells_keeps _ _)
  refine wpAny_bind ?_
  rw [List.forIn_cons]
  refine wpAny_bind (wpAny_bind (wpAny_storeName_local (env := newEnv scope s.heap.objs.size globals (cellsFrom (s.heap.objs.size + 1) scope.names []) qual func code none builtins) hkind hns (fun h' hn' hs => wpAny_pure ?_) (by show (scope.kind == .class || (scope.kind == .module && _)) = false; rw [hk]; rfl)))
  dsimp only
  rw [List.forIn_nil]
  refine wpAny_pure (wpAny_pure (hQ _ rfl _ ⟨⟨⟨h', s.toks + 1, rfl⟩, ?_, fun b o e => ?_, Nat.le_refl _⟩, fun x c hc => ?_, ok.apart, fun n c hm => (ok.empty n c hm).2⟩ (Nat.lt_succ_self _)))
  · unfold bindL
    rw [if_pos (show (newEnv scope s.heap.objs.size globals (cellsFrom (s.heap.objs.size + 1) scope.names []) qual func code none builtins).kindOf n = some .local from hkind)]
    exact hn'
  · have := Heap.lt_size e
    exact hs.extBut b o (fun q => by rw [q] at this; exact Nat.lt_irrefl _ this) (kp b o e)
  · unfold bindC
    rw [if_pos (show (newEnv scope s.heap.objs.size globals (cellsFrom (s.heap.objs.size + 1) scope.names []) qual func code none builtins).kindOf n = some .local from hkind)]
    have h1 := ok.empty x c (mem_of_lookup hc)
    exact h1.1.sameBut hs (fun q => by have := h1.2; rw [q] at this; exact Nat.lt_irrefl _ this)
section
variable {w : World} {A : Around} {s : Shared}
/-- law(script) -/
theorem law_call {ns : List Int} {v : Value} {RR : Result → Shared → Prop} (hA : A.handled = none ∧ A.depth + 20 < 900 ∧ A.units + 160 < 9000) (C0 : Cx w s.heap) (ht0 : s.heap.get? 185 = some (o185_32 w.params)) (ht258 : s.heap.get? 258 = some (o258_32 w.params)) (ht257 : s.heap.get? 257 = some (o257_32 w.params)) (B : Bm s.heap)
    (hv : Rd (fun a => a = 185) s.heap v (.list (intsD ns))) (hn : ns.length ≤ 63) (h : ∀ s', Gn s s' → (∃ more, Kp (s.heap.update 185 fun _ => tabObj more) s'.heap) → RR (.ok (.ret (.bool true))) s') : codeAny (mo w) A (.call (.ref 258) ⟨[v], []⟩) RR s := by
  have hrec : s.heap.CodeRec (.ref 257) (S "law") := ⟨257, o257_32 w.params, _, _, rfl, ht257, rfl, rfl⟩
  refine codeAny_call_function (fd := Calls.docDef (S "law") (dA (st 32)) (dB (st 32)) (dS (st 32)) (.str (S "law_to0073_01") 2347) (.ref 257) .none) (by have := hA.2.1; have : recursionLimit = 1000 := rfl; omega) ht258 rfl rfl rfl rfl hrec ?_
  refine wpAny_of_eq (a := [(S "script", v)]) rfl ?_
  refine newEnv1 rfl rfl fun env he s' X htk => ?_
  subst he
  refine ⟨C0.nolimit.keeps X.toInCall.keep, codeAny_func ?_⟩
  obtain ⟨h₁, tk, rfl, _⟩ := X.done
  have htk : s.toks < tk := htk
  have F : Fr s.heap s.heap.objs.size h₁ _ := ⟨X.toInCall.ns, X.toInCall.keep, X.toInCall.fresh⟩
  have L : Cl s.heap.objs.size _ h₁ _ := ⟨X.cell, X.apart, X.above⟩
  have lt : 185 < s.heap.objs.size := Heap.lt_size ht0
  have T0 : Stt (fx w (S "law") (dS (st 32)) 258 (.ref 257) s.heap (fun a => a = 185)) [] [(S "script", .dat (.list (intsD ns)))] h₁ := Stt.enter (ns := [S "script"]) (vs := [v]) (ds := [.dat (.list (intsD ns))]) C0 (fun a q => by rw [q]; exact lt) (.cons hv .nil) rfl (by decide) ⟨.inl rfl, trivial⟩ F L
  have T : Stt (lw w (s.heap.hide 185) (fun a => a = 185) s.heap.objs.size) [] [(S "script", .dat (.list (intsD ns)))] h₁ := T0.base C0.hide (fun b o e => T0.keep b o (Heap.of_hide e)) (Heap.hide_size ..)
  have R : Rm 18 (A.deeper (envLaw s.heap.objs.size)) tk := ⟨hA.1, by show A.depth + 1 + 18 < 900; omega, by show A.units + 3 + 8 * 18 < 9000; omega, by omega⟩
  obtain ⟨ob, b1, b2⟩ := B
  refine wpAny_mono (law_body (A := A.deeper (envLaw s.heap.objs.size)) (E := fun _ _ => False) (s := { s with heap := h₁, toks := tk }) (Q := fun f s' => RR (.ok (.ret (match f with | .ret v => v | _ => .none))) s') hn C0 ht0 (R.less (by decide)) T ⟨ob, X.toInCall.keep _ _ b1, b2⟩ (X.toInCall.keep _ _ ht0) fun s' g k => ?_) (fun _ _ x => x) (fun _ _ x => x.elim)
  exact h s' (Gn.trans ⟨h₁, tk, s.gens, rfl, Nat.le_of_lt htk, id⟩ g) k
end
end Mine
end
section
open PySem PySem.W PyProof.Rows PySem.Builtin PySem.Builtin.Str
namespace Mine
theorem kA_nodup : kA.Nodup := by decide +kernel
theorem kin_mem {P : Params} {h : Heap} (y : (kF P).In h) : ∀ a o, (a, o) ∈ kF P → h.get? a = some o := fun a o hm => by
  refine y a o ?_
  have hnd : ((kF P).map (·.1)).Nodup := by rw [← kA_eq P]; exact kA_nodup
  have : ∀ (l : Frag), (l.map (·.1)).Nodup → (a, o) ∈ l → l.lookup a = some o := by
    intro l; induction l with
    | nil => intro _ h; cases h
    | cons p r ih =>
      intro hn hm
      obtain ⟨h1, h2⟩ := List.nodup_cons.mp hn
      rw [List.lookup_cons]
      rcases List.mem_cons.mp hm with rfl | hm
      · simp
      · have hne : (a == p.1) = false := by
          rw [beq_eq_false_iff_ne]; intro e; exact h1 (List.mem_map.mpr ⟨(a, o), hm, e⟩)
        rw [hne]; exact ih h2 hm
  exact this _ hnd hm
theorem ints_rd {N : Addr → Prop} {h : Heap} : ∀ {vs : List Value} {ns : List Int}, IntsAre vs ns → RdAll N h vs (intsD ns)
  | _, _, .nil => .nil
  | _, _, .cons n t r => .cons (.int n t) (ints_rd r)
theorem gmap_law (P : Params) : gmap P (S "law") = some (.ref 258) := by kernel_rfl
theorem gmap_bm (P : Params) : gmap P "__builtins__" = some (.ref 4) := by kernel_rfl
theorem call : WalkO qv looseN (XL qv []) HK.says rw_.row.toRowW dLaw [] fun f vs => PySem.call f vs := by
  intro w s₀ s₁ mg mb G y fa o pm cd doc dV kV ho hd hcd hD hmg hg args vals as hpre hlay hrd hwl hlo
  have T := G.T
  have kin := kin_mem (kIn_of y)
  have main : s₁.heap.Ns mainGlobals (gmap w.params) := ⟨o3_32 w.params, esOf (o3_32 w.params).data, epOf (o3_32 w.params).data, kin 3 _ (kF_at 0 rfl), main_data _, main_strs _, fun _ => rfl⟩
  have emg : mg = gmap w.params := Ns_agree T.g main
  have C0 : Cx w s₁.heap := ⟨fun a o h _ => kin a o h, ⟨mb, T.b, T.builtins⟩, T.nolimit⟩
  have ef : fa = 258 := by
    have : gmap w.params (S "law") = some (.ref fa) := emg ▸ hmg
    rw [gmap_law] at this
    cases this; rfl
  subst ef
  have B : Bm s₁.heap := by
    obtain ⟨bm, ob, h1, h2, h3, h4, h5, h6⟩ := T.bmain
    rw [emg, gmap_bm] at h1
    cases h1
    exact ⟨ob, h3, h4, h5, h6⟩
  wrow_args hpre hlay hrd hwl hlo
  rename_i ns hs0 hlay0 hL1 hr1 hl2 as1 as2 la vs as3 hL ra w1 r0 hI hr hc1 hc2
  refine enter_call ?_
  have hv : Rd (fun a => a = 185) s₁.heap (.ref la) (.list (intsD ns)) := by
    have w1 : Well w.params s₁.heap (.ref la) (.list (ofPys (ns.map .int))) := w1
    cases w1 with
    | list e _ =>
      obtain ⟨ob, e2, hc, n, hd2⟩ := hL
      rw [e] at e2
      cases e2
      cases hd2
      refine .list e (fun q => ?_) (ints_rd hI)
      have q : la = 185 := q
      rw [q, kin 185 _ (kF_at 31 rfl)] at e
      cases e
  refine law_call ⟨rfl, by show 1 + claimMargin + 20 < 900; decide, by show 4 + 160 < 9000; decide⟩ C0 (kin 185 _ (kF_at 31 rfl)) (kin 258 _ (kF_at 57 rfl)) (kin 257 _ (kF_at 56 rfl)) B hv (by omega) fun s' g k => ?_
  obtain ⟨more, k⟩ := k
  obtain ⟨h', tk, gs, e', q, hb⟩ := id g
  refine ⟨.inl ⟨.bool true, .bool true, [], rfl, fun cls => ?_, ?_, ?_, fun _ => ⟨List.nodup_nil, fun _ h => nomatch h⟩⟩, ?_, ?_, ?_⟩
  · rfl
  · exact .bool true
  · wrow_post
  · refine ⟨fun b o e => ?_, fun b o e => ?_⟩
    · by_cases hb185 : b = 185
      · subst hb185
        have e5 := kin 185 _ (kF_at 31 rfl)
        rw [e5] at e
        cases e
        refine .inr (.inl ⟨⟨189, o189_32 w.params, _, kin 189 _ (kF_at 32 rfl), rfl, rfl, rfl⟩, rfl, #[], more, rfl, ?_⟩)
        have := k 185 _ (Heap.get?_update_self _ e5 rfl)
        rw [this]
        show some (tabObj more) = some { cls := .none, data := .fields (#[] ++ more) }
        rw [Array.empty_append]
      · exact .inl (k b o ((Heap.get?_update_other _ _ (Ne.symm hb185)).trans e))
    · by_cases hb185 : b = 185
      · subst hb185
        exact ⟨_, k 185 _ (Heap.get?_update_self _ e rfl)⟩
      · exact ⟨o, k b o ((Heap.get?_update_other _ _ (Ne.symm hb185)).trans e)⟩
  · rw [e']
  · exact g.bare (AllBare.of_eq hg)
theorem holds : PySem.Challenge.rw_to0073_01.Holds := head call
end Mine
end
theorem PySem.Challenge.cw_to0073_01_holds : PySem.Challenge.rw_to0073_01.Holds :=
  Mine.holds
