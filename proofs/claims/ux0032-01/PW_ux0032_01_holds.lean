import PyProof.Rows.All
import Wide.All
import OpenK.AllK
import Wide.FinOn
import Lean
import PySem.Challenge.RW_ux0032_01
set_option Elab.async false
set_option maxRecDepth 100000
set_option maxHeartbeats 4000000
set_option linter.all false
noncomputable section
namespace Mine
open PySem PySem.W PySem.Calls PyProof.Rows

noncomputable abbrev pw : Program := PySem.Challenge.pw_ux0032_01
noncomputable def fdef (i : Nat) : Arguments × List Stmt × Scope := match pw.main.body[i]? with
  | some (.FunctionDef _ a b _ _ _ sc _ _ _) => (a, b, sc)
  | _ => default

noncomputable def o11 (P : Params) : Obj := ⟨(.type "tuple"), none, (.seq [].toArray 0), [].toArray⟩
noncomputable def o12 (P : Params) : Obj := ⟨.none, none, (.fields [].toArray), [].toArray⟩
noncomputable def o13 (P : Params) : Obj := ⟨(.type "code"), none, (.fields [(.str (Str.ofString "<module>") 182), (.str (Str.ofString "<module>") 183), (.str (Str.ofString "/claim/cut.py") 184), (.int 1 0), (.int 0 0), (.int 0 0), (.int 0 0), (.int 0 0), (.ref 11), (.bool false), (.int 181 0), (.ref 12), .none, .none, .none, .none, (.int 185 0), (.int 1 0), (.str (Str.ofString "/claim/cut.py") 186)].toArray), [].toArray⟩
noncomputable def o14 (P : Params) : Obj := ⟨(.type "frame"), none, .plain, [(some (.ref 13)), (some (.ref 3)), (some (.ref 3)), none, (some (.str (Str.ofString "__main__") 164)), none, (some (.ref 0))].toArray⟩
noncomputable def T_A (P : Params) : BT := (.node (boot_o_0 P) (.node (boot_o_1 P) (.node (boot_o_3 P) (.node (boot_o_7 P) .nil .nil) (.node (o11 P) .nil .nil)) (.node (boot_o_5 P) (.node (boot_o_9 P) .nil .nil) (.node (o13 P) .nil .nil))) (.node (boot_o_2 P) (.node (boot_o_4 P) (.node (boot_o_8 P) .nil .nil) (.node (o12 P) .nil .nil)) (.node (boot_o_6 P) (.node (boot_o_10 P) .nil .nil) (.node (o14 P) .nil .nil))))
noncomputable def T_B (P : Params) : BT := (.node (boot_o_0 P) (.node (boot_o_1 P) (.node (boot_o_3 P) (.node (boot_o_7 P) .nil .nil) (.node (o11 P) .nil .nil)) (.node (boot_o_5 P) (.node (boot_o_9 P) .nil .nil) (.node (o13 P) .nil .nil))) (.node (boot_o_2 P) (.node (boot_o_4 P) (.node (boot_o_8 P) .nil .nil) (.node (o12 P) .nil .nil)) (.node (boot_o_6 P) (.node (boot_o_10 P) .nil .nil) (.node (o14 P) .nil .nil))))
noncomputable def o2_8 (P : Params) : Obj := ⟨.none, none, (.dict [⟨PyData.keyHash P (Str.ofString "type.__subclasses__.Exception.0"), (.str (Str.ofString "type.__subclasses__.Exception.0") 248), (.int 51 0)⟩, ⟨PyData.keyHash P (Str.ofString "type.__subclasses__.Exception.n"), (.str (Str.ofString "type.__subclasses__.Exception.n") 249), (.int 1 0)⟩].toArray 2), [].toArray⟩
noncomputable def o3_8 (P : Params) : Obj := ⟨(.type "dict"), none, (.dict [⟨PyData.keyHash P (Str.ofString "__name__"), (.str (Str.ofString "__name__") 165), (.str (Str.ofString "cpy313.stringprep") 279)⟩, ⟨PyData.keyHash P (Str.ofString "__doc__"), (.str (Str.ofString "__doc__") 166), .none⟩, ⟨PyData.keyHash P (Str.ofString "__package__"), (.str (Str.ofString "__package__") 167), .none⟩, ⟨PyData.keyHash P (Str.ofString "__loader__"), (.str (Str.ofString "__loader__") 168), (.builtin "__main__.__loader__#opaque")⟩, ⟨PyData.keyHash P (Str.ofString "__spec__"), (.str (Str.ofString "__spec__") 169), .none⟩, ⟨PyData.keyHash P (Str.ofString "__annotations__"), (.str (Str.ofString "__annotations__") 170), (.ref 6)⟩, ⟨PyData.keyHash P (Str.ofString "__builtins__"), (.str (Str.ofString "__builtins__") 171), (.ref 4)⟩, ⟨PyData.keyHash P (Str.ofString "__file__"), (.str (Str.ofString "__file__") 173), (.str (Str.ofString "/claim/cut.py") 172)⟩, ⟨PyData.keyHash P (Str.ofString "__cached__"), (.str (Str.ofString "__cached__") 174), .none⟩, ⟨PyData.keyHash P (Str.ofString "bisect_right"), (.str (Str.ofString "bisect_right") 202), (.ref 23)⟩, ⟨PyData.keyHash P (Str.ofString "insort_left"), (.str (Str.ofString "insort_left") 215), (.ref 32)⟩, ⟨PyData.keyHash P (Str.ofString "bisect_left"), (.str (Str.ofString "bisect_left") 229), (.ref 41)⟩, ⟨PyData.keyHash P (Str.ofString "Error"), (.str (Str.ofString "Error") 251), (.ref 51)⟩, ⟨PyData.keyHash P (Str.ofString "error_reply"), (.str (Str.ofString "error_reply") 267), (.ref 64)⟩, ⟨PyData.keyHash P (Str.ofString "parse257"), (.str (Str.ofString "parse257") 278), (.ref 73)⟩].toArray 15), [].toArray⟩
noncomputable def o12_8 (P : Params) : Obj := ⟨.none, none, (.fields [(.int 2 0), (.int 0 0), (.ref 22), (.int 22 0), (.int 0 0), (.ref 31), (.int 28 0), (.int 0 0), (.ref 40), (.int 49 0), (.int 0 0), (.ref 47), (.int 51 0), (.int 0 0), (.ref 60), (.int 53 0), (.int 0 0), (.ref 72)].toArray), [].toArray⟩
noncomputable def o15 (P : Params) : Obj := ⟨(.type "tuple"), none, (.seq [(.int 0 189), .none].toArray 0), [].toArray⟩
noncomputable def o16 (P : Params) : Obj := ⟨(.type "dict"), none, (.dict [⟨PyData.keyHash P (Str.ofString "key"), (.str (Str.ofString "key") 190), .none⟩].toArray 1), [].toArray⟩
noncomputable def o17 (P : Params) : Obj := ⟨(.type "tuple"), none, (.seq [].toArray 0), [].toArray⟩
noncomputable def o18 (P : Params) : Obj := ⟨.none, none, (.fields [].toArray), [].toArray⟩
noncomputable def o19 (P : Params) : Obj := ⟨(.type "tuple"), none, (.seq [(.str (Str.ofString "a") 194), (.str (Str.ofString "x") 195), (.str (Str.ofString "lo") 196), (.str (Str.ofString "hi") 197), (.str (Str.ofString "key") 198), (.str (Str.ofString "mid") 199)].toArray 0), [].toArray⟩
noncomputable def o20 (P : Params) : Obj := ⟨(.type "tuple"), none, (.seq [].toArray 0), [].toArray⟩
noncomputable def o21 (P : Params) : Obj := ⟨.none, none, (.func (FuncData.mk (Str.ofString "bisect_right") (Str.ofString "bisect_right") (fdef 1).1 (.stmts (fdef 1).2.1) (fdef 1).2.2 0 [] .none .none .none .none none .none .none 0)), [].toArray⟩
noncomputable def o22 (P : Params) : Obj := ⟨(.type "code"), none, (.fields [(.str (Str.ofString "bisect_right") 191), (.str (Str.ofString "bisect_right") 192), (.str (Str.ofString "/claim/cut.py") 193), (.int 2 0), (.int 4 0), (.int 0 0), (.int 1 0), (.int 3 0), (.ref 17), (.bool true), (.int 181 0), (.ref 18), .none, (.ref 19), (.ref 20), (.ref 21), (.int 200 0), (.int 2 0), (.str (Str.ofString "/claim/cut.py") 201)].toArray), [].toArray⟩
noncomputable def o23 (P : Params) : Obj := ⟨(.type "function"), none, (.func (FuncData.mk (Str.ofString "bisect_right") (Str.ofString "bisect_right") (fdef 1).1 (.stmts (fdef 1).2.1) (fdef 1).2.2 3 [] (.ref 15) (.ref 16) .none (.str (Str.ofString "cpy313.bisect") 187) none (.ref 22) .none 0)), [].toArray⟩
noncomputable def o24 (P : Params) : Obj := ⟨(.type "tuple"), none, (.seq [(.int 0 203), .none].toArray 0), [].toArray⟩
noncomputable def o25 (P : Params) : Obj := ⟨(.type "dict"), none, (.dict [⟨PyData.keyHash P (Str.ofString "key"), (.str (Str.ofString "key") 204), .none⟩].toArray 1), [].toArray⟩
noncomputable def o26 (P : Params) : Obj := ⟨(.type "tuple"), none, (.seq [].toArray 0), [].toArray⟩
noncomputable def o27 (P : Params) : Obj := ⟨.none, none, (.fields [].toArray), [].toArray⟩
noncomputable def o28 (P : Params) : Obj := ⟨(.type "tuple"), none, (.seq [(.str (Str.ofString "a") 208), (.str (Str.ofString "x") 209), (.str (Str.ofString "lo") 210), (.str (Str.ofString "hi") 211), (.str (Str.ofString "key") 212)].toArray 0), [].toArray⟩
noncomputable def o29 (P : Params) : Obj := ⟨(.type "tuple"), none, (.seq [].toArray 0), [].toArray⟩
noncomputable def o30 (P : Params) : Obj := ⟨.none, none, (.func (FuncData.mk (Str.ofString "insort_left") (Str.ofString "insort_left") (fdef 2).1 (.stmts (fdef 2).2.1) (fdef 2).2.2 0 [] .none .none .none .none none .none .none 0)), [].toArray⟩
noncomputable def o31 (P : Params) : Obj := ⟨(.type "code"), none, (.fields [(.str (Str.ofString "insort_left") 205), (.str (Str.ofString "insort_left") 206), (.str (Str.ofString "/claim/cut.py") 207), (.int 22 0), (.int 4 0), (.int 0 0), (.int 1 0), (.int 3 0), (.ref 26), (.bool true), (.int 181 0), (.ref 27), .none, (.ref 28), (.ref 29), (.ref 30), (.int 213 0), (.int 22 0), (.str (Str.ofString "/claim/cut.py") 214)].toArray), [].toArray⟩
noncomputable def o32 (P : Params) : Obj := ⟨(.type "function"), none, (.func (FuncData.mk (Str.ofString "insort_left") (Str.ofString "insort_left") (fdef 2).1 (.stmts (fdef 2).2.1) (fdef 2).2.2 3 [] (.ref 24) (.ref 25) .none (.str (Str.ofString "cpy313.bisect") 187) none (.ref 31) .none 0)), [].toArray⟩
noncomputable def o33 (P : Params) : Obj := ⟨(.type "tuple"), none, (.seq [(.int 0 216), .none].toArray 0), [].toArray⟩
noncomputable def o34 (P : Params) : Obj := ⟨(.type "dict"), none, (.dict [⟨PyData.keyHash P (Str.ofString "key"), (.str (Str.ofString "key") 217), .none⟩].toArray 1), [].toArray⟩
noncomputable def o35 (P : Params) : Obj := ⟨(.type "tuple"), none, (.seq [].toArray 0), [].toArray⟩
noncomputable def o36 (P : Params) : Obj := ⟨.none, none, (.fields [].toArray), [].toArray⟩
noncomputable def o37 (P : Params) : Obj := ⟨(.type "tuple"), none, (.seq [(.str (Str.ofString "a") 221), (.str (Str.ofString "x") 222), (.str (Str.ofString "lo") 223), (.str (Str.ofString "hi") 224), (.str (Str.ofString "key") 225), (.str (Str.ofString "mid") 226)].toArray 0), [].toArray⟩
noncomputable def o38 (P : Params) : Obj := ⟨(.type "tuple"), none, (.seq [].toArray 0), [].toArray⟩
noncomputable def o39 (P : Params) : Obj := ⟨.none, none, (.func (FuncData.mk (Str.ofString "bisect_left") (Str.ofString "bisect_left") (fdef 3).1 (.stmts (fdef 3).2.1) (fdef 3).2.2 0 [] .none .none .none .none none .none .none 0)), [].toArray⟩
noncomputable def o40 (P : Params) : Obj := ⟨(.type "code"), none, (.fields [(.str (Str.ofString "bisect_left") 218), (.str (Str.ofString "bisect_left") 219), (.str (Str.ofString "/claim/cut.py") 220), (.int 28 0), (.int 4 0), (.int 0 0), (.int 1 0), (.int 3 0), (.ref 35), (.bool true), (.int 181 0), (.ref 36), .none, (.ref 37), (.ref 38), (.ref 39), (.int 227 0), (.int 28 0), (.str (Str.ofString "/claim/cut.py") 228)].toArray), [].toArray⟩
noncomputable def o41 (P : Params) : Obj := ⟨(.type "function"), none, (.func (FuncData.mk (Str.ofString "bisect_left") (Str.ofString "bisect_left") (fdef 3).1 (.stmts (fdef 3).2.1) (fdef 3).2.2 3 [] (.ref 33) (.ref 34) .none (.str (Str.ofString "cpy313.bisect") 187) none (.ref 40) .none 0)), [].toArray⟩
noncomputable def o42 (P : Params) : Obj := ⟨(.type "tuple"), none, (.seq [(.type "Exception")].toArray 0), [].toArray⟩
noncomputable def o43 (P : Params) : Obj := ⟨(.type "builtin_function_or_method"), none, (.fields [(.builtin "type.__prepare__"), (.type "type")].toArray), [].toArray⟩
noncomputable def o44 (P : Params) : Obj := ⟨(.type "dict"), none, (.dict [⟨PyData.keyHash P (Str.ofString "__module__"), (.str (Str.ofString "__module__") 239), (.str (Str.ofString "cpy313.ftplib") 230)⟩, ⟨PyData.keyHash P (Str.ofString "__qualname__"), (.str (Str.ofString "__qualname__") 241), (.str (Str.ofString "Error") 240)⟩, ⟨PyData.keyHash P (Str.ofString "__firstlineno__"), (.str (Str.ofString "__firstlineno__") 243), (.int 49 242)⟩, ⟨PyData.keyHash P (Str.ofString "__static_attributes__"), (.str (Str.ofString "__static_attributes__") 244), (.ref 49)⟩].toArray 4), [].toArray⟩
noncomputable def o45 (P : Params) : Obj := ⟨(.type "tuple"), none, (.seq [].toArray 0), [].toArray⟩
noncomputable def o46 (P : Params) : Obj := ⟨.none, none, (.fields [].toArray), [].toArray⟩
noncomputable def o47 (P : Params) : Obj := ⟨(.type "code"), none, (.fields [(.str (Str.ofString "Error") 234), (.str (Str.ofString "Error") 235), (.str (Str.ofString "/claim/cut.py") 236), (.int 49 0), (.int 0 0), (.int 0 0), (.int 0 0), (.int 0 0), (.ref 45), (.bool false), (.int 181 0), (.ref 46), .none, .none, .none, .none, (.int 237 0), (.int 49 0), (.str (Str.ofString "/claim/cut.py") 238)].toArray), [].toArray⟩
noncomputable def o48 (P : Params) : Obj := ⟨(.type "frame"), none, .plain, [(some (.ref 47)), (some (.ref 3)), (some (.ref 44)), none, (some (.str (Str.ofString "cpy313.ftplib") 230)), none, (some (.ref 0))].toArray⟩
noncomputable def o49 (P : Params) : Obj := ⟨(.type "tuple"), none, (.seq [].toArray 0), [].toArray⟩
noncomputable def o50 (P : Params) : Obj := ⟨(.type "dict"), none, (.dict [⟨PyData.keyHash P (Str.ofString "__module__"), (.str (Str.ofString "__module__") 239), (.str (Str.ofString "cpy313.ftplib") 230)⟩, ⟨PyData.keyHash P (Str.ofString "__firstlineno__"), (.str (Str.ofString "__firstlineno__") 243), (.int 49 242)⟩, ⟨PyData.keyHash P (Str.ofString "__static_attributes__"), (.str (Str.ofString "__static_attributes__") 244), (.ref 49)⟩, ⟨PyData.keyHash P (Str.ofString "__weakref__"), (.str (Str.ofString "__weakref__") 246), (.ref 52)⟩, ⟨PyData.keyHash P (Str.ofString "__doc__"), (.str (Str.ofString "__doc__") 247), .none⟩].toArray 3), [].toArray⟩
noncomputable def o51 (P : Params) : Obj := ⟨(.type "type"), none, (.cls (ClassData.mk (Str.ofString "Error") [(.type "Exception")] [(.ref 51), (.type "Exception"), (.type "BaseException"), (.type "object")] 50 (Str.ofString "Error") true [] [(.ref 64)] false none false)), [(some (.ref 42)), none, (some (.str (Str.ofString "Error") 232)), (some (.str (Str.ofString "Error") 240)), (some (.builtin "Exception.__new__")), (some (.bool true))].toArray⟩
noncomputable def o52 (P : Params) : Obj := ⟨(.type "getset_descriptor"), none, (.fields [(.str (Str.ofString "__weakref__") 245), (.ref 51), (.builtin "ExceptionGroup.__weakref__"), .none].toArray), [].toArray⟩
noncomputable def o53 (P : Params) : Obj := ⟨(.type "super"), none, (.fields [(.ref 51), (.ref 51), (.ref 51)].toArray), [].toArray⟩
noncomputable def o54 (P : Params) : Obj := ⟨(.type "builtin_function_or_method"), none, (.fields [(.builtin "object.__init_subclass__"), (.ref 51)].toArray), [].toArray⟩
noncomputable def o55 (P : Params) : Obj := ⟨(.type "tuple"), none, (.seq [(.ref 51)].toArray 0), [].toArray⟩
noncomputable def o56 (P : Params) : Obj := ⟨(.type "builtin_function_or_method"), none, (.fields [(.builtin "type.__prepare__"), (.type "type")].toArray), [].toArray⟩
noncomputable def o57 (P : Params) : Obj := ⟨(.type "dict"), none, (.dict [⟨PyData.keyHash P (Str.ofString "__module__"), (.str (Str.ofString "__module__") 259), (.str (Str.ofString "cpy313.ftplib") 230)⟩, ⟨PyData.keyHash P (Str.ofString "__qualname__"), (.str (Str.ofString "__qualname__") 261), (.str (Str.ofString "error_reply") 260)⟩, ⟨PyData.keyHash P (Str.ofString "__firstlineno__"), (.str (Str.ofString "__firstlineno__") 263), (.int 51 262)⟩, ⟨PyData.keyHash P (Str.ofString "__static_attributes__"), (.str (Str.ofString "__static_attributes__") 264), (.ref 62)⟩].toArray 4), [].toArray⟩
noncomputable def o58 (P : Params) : Obj := ⟨(.type "tuple"), none, (.seq [].toArray 0), [].toArray⟩
noncomputable def o59 (P : Params) : Obj := ⟨.none, none, (.fields [].toArray), [].toArray⟩
noncomputable def o60 (P : Params) : Obj := ⟨(.type "code"), none, (.fields [(.str (Str.ofString "error_reply") 254), (.str (Str.ofString "error_reply") 255), (.str (Str.ofString "/claim/cut.py") 256), (.int 51 0), (.int 0 0), (.int 0 0), (.int 0 0), (.int 0 0), (.ref 58), (.bool false), (.int 181 0), (.ref 59), .none, .none, .none, .none, (.int 257 0), (.int 51 0), (.str (Str.ofString "/claim/cut.py") 258)].toArray), [].toArray⟩
noncomputable def o61 (P : Params) : Obj := ⟨(.type "frame"), none, .plain, [(some (.ref 60)), (some (.ref 3)), (some (.ref 57)), none, (some (.str (Str.ofString "cpy313.ftplib") 230)), none, (some (.ref 0))].toArray⟩
noncomputable def o62 (P : Params) : Obj := ⟨(.type "tuple"), none, (.seq [].toArray 0), [].toArray⟩
noncomputable def o63 (P : Params) : Obj := ⟨(.type "dict"), none, (.dict [⟨PyData.keyHash P (Str.ofString "__module__"), (.str (Str.ofString "__module__") 259), (.str (Str.ofString "cpy313.ftplib") 230)⟩, ⟨PyData.keyHash P (Str.ofString "__firstlineno__"), (.str (Str.ofString "__firstlineno__") 263), (.int 51 262)⟩, ⟨PyData.keyHash P (Str.ofString "__static_attributes__"), (.str (Str.ofString "__static_attributes__") 264), (.ref 62)⟩, ⟨PyData.keyHash P (Str.ofString "__doc__"), (.str (Str.ofString "__doc__") 265), .none⟩].toArray 2), [].toArray⟩
noncomputable def o64 (P : Params) : Obj := ⟨(.type "type"), none, (.cls (ClassData.mk (Str.ofString "error_reply") [(.ref 51)] [(.ref 64), (.ref 51), (.type "Exception"), (.type "BaseException"), (.type "object")] 63 (Str.ofString "error_reply") true [] [] false none false)), [(some (.ref 55)), none, (some (.str (Str.ofString "error_reply") 252)), (some (.str (Str.ofString "error_reply") 260)), (some (.builtin "Exception.__new__")), (some (.bool true))].toArray⟩
noncomputable def o65 (P : Params) : Obj := ⟨(.type "super"), none, (.fields [(.ref 64), (.ref 64), (.ref 64)].toArray), [].toArray⟩
noncomputable def o66 (P : Params) : Obj := ⟨(.type "builtin_function_or_method"), none, (.fields [(.builtin "object.__init_subclass__"), (.ref 64)].toArray), [].toArray⟩
noncomputable def o67 (P : Params) : Obj := ⟨(.type "tuple"), none, (.seq [].toArray 0), [].toArray⟩
noncomputable def o68 (P : Params) : Obj := ⟨.none, none, (.fields [].toArray), [].toArray⟩
noncomputable def o69 (P : Params) : Obj := ⟨(.type "tuple"), none, (.seq [(.str (Str.ofString "resp") 271), (.str (Str.ofString "dirname") 272), (.str (Str.ofString "i") 273), (.str (Str.ofString "n") 274), (.str (Str.ofString "c") 275)].toArray 0), [].toArray⟩
noncomputable def o70 (P : Params) : Obj := ⟨(.type "tuple"), none, (.seq [].toArray 0), [].toArray⟩
noncomputable def o71 (P : Params) : Obj := ⟨.none, none, (.func (FuncData.mk (Str.ofString "parse257") (Str.ofString "parse257") (fdef 7).1 (.stmts (fdef 7).2.1) (fdef 7).2.2 0 [] .none .none .none .none none .none .none 0)), [].toArray⟩
noncomputable def o72 (P : Params) : Obj := ⟨(.type "code"), none, (.fields [(.str (Str.ofString "parse257") 268), (.str (Str.ofString "parse257") 269), (.str (Str.ofString "/claim/cut.py") 270), (.int 53 0), (.int 1 0), (.int 0 0), (.int 0 0), (.int 3 0), (.ref 67), (.bool true), (.int 181 0), (.ref 68), .none, (.ref 69), (.ref 70), (.ref 71), (.int 276 0), (.int 53 0), (.str (Str.ofString "/claim/cut.py") 277)].toArray), [].toArray⟩
noncomputable def o73 (P : Params) : Obj := ⟨(.type "function"), none, (.func (FuncData.mk (Str.ofString "parse257") (Str.ofString "parse257") (fdef 7).1 (.stmts (fdef 7).2.1) (fdef 7).2.2 3 [] .none .none .none (.str (Str.ofString "cpy313.ftplib") 230) none (.ref 72) .none 0)), [].toArray⟩
noncomputable def T_8 (P : Params) : BT := (.node (boot_o_0 P) (.node (boot_o_1 P) (.node (o3_8 P) (.node (boot_o_7 P) (.node (o15 P) (.node (o31 P) (.node (o63 P) .nil .nil) .nil) (.node (o47 P) .nil .nil)) (.node (o23 P) (.node (o39 P) (.node (o71 P) .nil .nil) .nil) (.node (o55 P) .nil .nil))) (.node (o11 P) (.node (o19 P) (.node (o35 P) (.node (o67 P) .nil .nil) .nil) (.node (o51 P) .nil .nil)) (.node (o27 P) (.node (o43 P) .nil .nil) (.node (o59 P) .nil .nil)))) (.node (boot_o_5 P) (.node (boot_o_9 P) (.node (o17 P) (.node (o33 P) (.node (o65 P) .nil .nil) .nil) (.node (o49 P) .nil .nil)) (.node (o25 P) (.node (o41 P) (.node (o73 P) .nil .nil) .nil) (.node (o57 P) .nil .nil))) (.node (o13 P) (.node (o21 P) (.node (o37 P) (.node (o69 P) .nil .nil) .nil) (.node (o53 P) .nil .nil)) (.node (o29 P) (.node (o45 P) .nil .nil) (.node (o61 P) .nil .nil))))) (.node (o2_8 P) (.node (boot_o_4 P) (.node (boot_o_8 P) (.node (o16 P) (.node (o32 P) (.node (o64 P) .nil .nil) .nil) (.node (o48 P) .nil .nil)) (.node (o24 P) (.node (o40 P) (.node (o72 P) .nil .nil) .nil) (.node (o56 P) .nil .nil))) (.node (o12_8 P) (.node (o20 P) (.node (o36 P) (.node (o68 P) .nil .nil) .nil) (.node (o52 P) .nil .nil)) (.node (o28 P) (.node (o44 P) .nil .nil) (.node (o60 P) .nil .nil)))) (.node (boot_o_6 P) (.node (boot_o_10 P) (.node (o18 P) (.node (o34 P) (.node (o66 P) .nil .nil) .nil) (.node (o50 P) .nil .nil)) (.node (o26 P) (.node (o42 P) .nil .nil) (.node (o58 P) .nil .nil))) (.node (o14 P) (.node (o22 P) (.node (o38 P) (.node (o70 P) .nil .nil) .nil) (.node (o54 P) .nil .nil)) (.node (o30 P) (.node (o46 P) .nil .nil) (.node (o62 P) .nil .nil))))))
noncomputable def o3_9 (P : Params) : Obj := ⟨(.type "dict"), none, (.dict [⟨PyData.keyHash P (Str.ofString "__name__"), (.str (Str.ofString "__name__") 165), (.str (Str.ofString "cpy313.stringprep") 279)⟩, ⟨PyData.keyHash P (Str.ofString "__doc__"), (.str (Str.ofString "__doc__") 166), .none⟩, ⟨PyData.keyHash P (Str.ofString "__package__"), (.str (Str.ofString "__package__") 167), .none⟩, ⟨PyData.keyHash P (Str.ofString "__loader__"), (.str (Str.ofString "__loader__") 168), (.builtin "__main__.__loader__#opaque")⟩, ⟨PyData.keyHash P (Str.ofString "__spec__"), (.str (Str.ofString "__spec__") 169), .none⟩, ⟨PyData.keyHash P (Str.ofString "__annotations__"), (.str (Str.ofString "__annotations__") 170), (.ref 6)⟩, ⟨PyData.keyHash P (Str.ofString "__builtins__"), (.str (Str.ofString "__builtins__") 171), (.ref 4)⟩, ⟨PyData.keyHash P (Str.ofString "__file__"), (.str (Str.ofString "__file__") 173), (.str (Str.ofString "/claim/cut.py") 172)⟩, ⟨PyData.keyHash P (Str.ofString "__cached__"), (.str (Str.ofString "__cached__") 174), .none⟩, ⟨PyData.keyHash P (Str.ofString "bisect_right"), (.str (Str.ofString "bisect_right") 202), (.ref 23)⟩, ⟨PyData.keyHash P (Str.ofString "insort_left"), (.str (Str.ofString "insort_left") 215), (.ref 32)⟩, ⟨PyData.keyHash P (Str.ofString "bisect_left"), (.str (Str.ofString "bisect_left") 229), (.ref 41)⟩, ⟨PyData.keyHash P (Str.ofString "Error"), (.str (Str.ofString "Error") 251), (.ref 51)⟩, ⟨PyData.keyHash P (Str.ofString "error_reply"), (.str (Str.ofString "error_reply") 267), (.ref 64)⟩, ⟨PyData.keyHash P (Str.ofString "parse257"), (.str (Str.ofString "parse257") 278), (.ref 73)⟩, ⟨PyData.keyHash P (Str.ofString "b1_set"), (.str (Str.ofString "b1_set") 340), (.ref 81)⟩].toArray 16), [].toArray⟩
noncomputable def o74 (P : Params) : Obj := ⟨(.type "list"), none, (.seq [(.int 173 281), (.int 847 282), (.int 6150 283), (.int 6155 284), (.int 6156 285), (.int 6157 286), (.int 8203 287), (.int 8204 288), (.int 8205 289), (.int 8288 290), (.int 65279 291)].toArray 0), [].toArray⟩
noncomputable def o75 (P : Params) : Obj := ⟨(.type "range"), none, (.fields [(.int 65024 292), (.int 65040 293), (.int 1 294)].toArray), [].toArray⟩
noncomputable def o76 (P : Params) : Obj := ⟨(.type "list"), none, (.seq [(.int 65024 297), (.int 65025 298), (.int 65026 299), (.int 65027 300), (.int 65028 301), (.int 65029 302), (.int 65030 303), (.int 65031 304), (.int 65032 305), (.int 65033 306), (.int 65034 307), (.int 65035 308), (.int 65036 309), (.int 65037 310), (.int 65038 311), (.int 65039 312)].toArray 18), [].toArray⟩
noncomputable def o77 (P : Params) : Obj := ⟨(.type "range_iterator"), none, (.fields [(.int 65040 0), (.int 0 0), (.int 1 0)].toArray), [].toArray⟩
noncomputable def o78 (P : Params) : Obj := ⟨(.type "tuple"), none, (.seq [].toArray 0), [].toArray⟩
noncomputable def o79 (P : Params) : Obj := ⟨(.type "StopIteration"), none, (.fields [(.ref 78), .none, .none, .none, (.bool false), .none].toArray), [].toArray⟩
noncomputable def o80 (P : Params) : Obj := ⟨(.type "list"), none, (.seq [(.int 173 281), (.int 847 282), (.int 6150 283), (.int 6155 284), (.int 6156 285), (.int 6157 286), (.int 8203 287), (.int 8204 288), (.int 8205 289), (.int 8288 290), (.int 65279 291), (.int 65024 297), (.int 65025 298), (.int 65026 299), (.int 65027 300), (.int 65028 301), (.int 65029 302), (.int 65030 303), (.int 65031 304), (.int 65032 305), (.int 65033 306), (.int 65034 307), (.int 65035 308), (.int 65036 309), (.int 65037 310), (.int 65038 311), (.int 65039 312)].toArray 0), [].toArray⟩
noncomputable def o81 (P : Params) : Obj := ⟨(.type "set"), none, (.set [(65024, (.int 65024 297)), (65025, (.int 65025 298)), (65026, (.int 65026 299)), (65027, (.int 65027 300)), (65028, (.int 65028 301)), (65029, (.int 65029 302)), (6150, (.int 6150 283)), (65030, (.int 65030 303)), (65031, (.int 65031 304)), (65032, (.int 65032 305)), (65033, (.int 65033 306)), (6155, (.int 6155 284)), (6156, (.int 6156 285)), (6157, (.int 6157 286)), (8203, (.int 8203 287)), (8204, (.int 8204 288)), (8205, (.int 8205 289)), (65034, (.int 65034 307)), (65035, (.int 65035 308)), (65036, (.int 65036 309)), (65037, (.int 65037 310)), (65038, (.int 65038 311)), (65039, (.int 65039 312)), (173, (.int 173 281)), (847, (.int 847 282)), (8288, (.int 8288 290)), (65279, (.int 65279 291))].toArray 29 ⟨127, [0, 1, 2, 3, 4, 5, 6, 7, 8, 9, 10, 11, 12, 13, 14, 15, 16, 17, 18, 19, 20, 21, 22, 45, 79, 96, 127].toArray, [].toArray, 0, !P.followText "set-order", 2, true⟩), [].toArray⟩
noncomputable def o82 (P : Params) : Obj := ⟨(.type "list_iterator"), none, (.fields [.none, (.int 27 0)].toArray), [].toArray⟩
noncomputable def o83 (P : Params) : Obj := ⟨(.type "tuple"), none, (.seq [].toArray 0), [].toArray⟩
noncomputable def o84 (P : Params) : Obj := ⟨(.type "StopIteration"), none, (.fields [(.ref 83), .none, .none, .none, (.bool false), .none].toArray), [].toArray⟩
noncomputable def T_9 (P : Params) : BT := (.node (boot_o_0 P) (.node (boot_o_1 P) (.node (o3_9 P) (.node (boot_o_7 P) (.node (o15 P) (.node (o31 P) (.node (o63 P) .nil .nil) .nil) (.node (o47 P) (.node (o79 P) .nil .nil) .nil)) (.node (o23 P) (.node (o39 P) (.node (o71 P) .nil .nil) .nil) (.node (o55 P) .nil .nil))) (.node (o11 P) (.node (o19 P) (.node (o35 P) (.node (o67 P) .nil .nil) .nil) (.node (o51 P) (.node (o83 P) .nil .nil) .nil)) (.node (o27 P) (.node (o43 P) (.node (o75 P) .nil .nil) .nil) (.node (o59 P) .nil .nil)))) (.node (boot_o_5 P) (.node (boot_o_9 P) (.node (o17 P) (.node (o33 P) (.node (o65 P) .nil .nil) .nil) (.node (o49 P) (.node (o81 P) .nil .nil) .nil)) (.node (o25 P) (.node (o41 P) (.node (o73 P) .nil .nil) .nil) (.node (o57 P) .nil .nil))) (.node (o13 P) (.node (o21 P) (.node (o37 P) (.node (o69 P) .nil .nil) .nil) (.node (o53 P) .nil .nil)) (.node (o29 P) (.node (o45 P) (.node (o77 P) .nil .nil) .nil) (.node (o61 P) .nil .nil))))) (.node (o2_8 P) (.node (boot_o_4 P) (.node (boot_o_8 P) (.node (o16 P) (.node (o32 P) (.node (o64 P) .nil .nil) .nil) (.node (o48 P) (.node (o80 P) .nil .nil) .nil)) (.node (o24 P) (.node (o40 P) (.node (o72 P) .nil .nil) .nil) (.node (o56 P) .nil .nil))) (.node (o12_8 P) (.node (o20 P) (.node (o36 P) (.node (o68 P) .nil .nil) .nil) (.node (o52 P) (.node (o84 P) .nil .nil) .nil)) (.node (o28 P) (.node (o44 P) (.node (o76 P) .nil .nil) .nil) (.node (o60 P) .nil .nil)))) (.node (boot_o_6 P) (.node (boot_o_10 P) (.node (o18 P) (.node (o34 P) (.node (o66 P) .nil .nil) .nil) (.node (o50 P) (.node (o82 P) .nil .nil) .nil)) (.node (o26 P) (.node (o42 P) (.node (o74 P) .nil .nil) .nil) (.node (o58 P) .nil .nil))) (.node (o14 P) (.node (o22 P) (.node (o38 P) (.node (o70 P) .nil .nil) .nil) (.node (o54 P) .nil .nil)) (.node (o30 P) (.node (o46 P) (.node (o78 P) .nil .nil) .nil) (.node (o62 P) .nil .nil))))))
noncomputable def o3_10 (P : Params) : Obj := ⟨(.type "dict"), none, (.dict [⟨PyData.keyHash P (Str.ofString "__name__"), (.str (Str.ofString "__name__") 165), (.str (Str.ofString "cpy313.stringprep") 279)⟩, ⟨PyData.keyHash P (Str.ofString "__doc__"), (.str (Str.ofString "__doc__") 166), .none⟩, ⟨PyData.keyHash P (Str.ofString "__package__"), (.str (Str.ofString "__package__") 167), .none⟩, ⟨PyData.keyHash P (Str.ofString "__loader__"), (.str (Str.ofString "__loader__") 168), (.builtin "__main__.__loader__#opaque")⟩, ⟨PyData.keyHash P (Str.ofString "__spec__"), (.str (Str.ofString "__spec__") 169), .none⟩, ⟨PyData.keyHash P (Str.ofString "__annotations__"), (.str (Str.ofString "__annotations__") 170), (.ref 6)⟩, ⟨PyData.keyHash P (Str.ofString "__builtins__"), (.str (Str.ofString "__builtins__") 171), (.ref 4)⟩, ⟨PyData.keyHash P (Str.ofString "__file__"), (.str (Str.ofString "__file__") 173), (.str (Str.ofString "/claim/cut.py") 172)⟩, ⟨PyData.keyHash P (Str.ofString "__cached__"), (.str (Str.ofString "__cached__") 174), .none⟩, ⟨PyData.keyHash P (Str.ofString "bisect_right"), (.str (Str.ofString "bisect_right") 202), (.ref 23)⟩, ⟨PyData.keyHash P (Str.ofString "insort_left"), (.str (Str.ofString "insort_left") 215), (.ref 32)⟩, ⟨PyData.keyHash P (Str.ofString "bisect_left"), (.str (Str.ofString "bisect_left") 229), (.ref 41)⟩, ⟨PyData.keyHash P (Str.ofString "Error"), (.str (Str.ofString "Error") 251), (.ref 51)⟩, ⟨PyData.keyHash P (Str.ofString "error_reply"), (.str (Str.ofString "error_reply") 267), (.ref 64)⟩, ⟨PyData.keyHash P (Str.ofString "parse257"), (.str (Str.ofString "parse257") 278), (.ref 73)⟩, ⟨PyData.keyHash P (Str.ofString "b1_set"), (.str (Str.ofString "b1_set") 340), (.ref 81)⟩, ⟨PyData.keyHash P (Str.ofString "in_table_b1"), (.str (Str.ofString "in_table_b1") 347), (.ref 91)⟩].toArray 17), [].toArray⟩
noncomputable def o12_10 (P : Params) : Obj := ⟨.none, none, (.fields [(.int 2 0), (.int 0 0), (.ref 22), (.int 22 0), (.int 0 0), (.ref 31), (.int 28 0), (.int 0 0), (.ref 40), (.int 49 0), (.int 0 0), (.ref 47), (.int 51 0), (.int 0 0), (.ref 60), (.int 53 0), (.int 0 0), (.ref 72), (.int 72 0), (.int 0 0), (.ref 90)].toArray), [].toArray⟩
noncomputable def o85 (P : Params) : Obj := ⟨(.type "tuple"), none, (.seq [].toArray 0), [].toArray⟩
noncomputable def o86 (P : Params) : Obj := ⟨.none, none, (.fields [].toArray), [].toArray⟩
noncomputable def o87 (P : Params) : Obj := ⟨(.type "tuple"), none, (.seq [(.str (Str.ofString "code") 344)].toArray 0), [].toArray⟩
noncomputable def o88 (P : Params) : Obj := ⟨(.type "tuple"), none, (.seq [].toArray 0), [].toArray⟩
noncomputable def o89 (P : Params) : Obj := ⟨.none, none, (.func (FuncData.mk (Str.ofString "in_table_b1") (Str.ofString "in_table_b1") (fdef 10).1 (.stmts (fdef 10).2.1) (fdef 10).2.2 0 [] .none .none .none .none none .none .none 0)), [].toArray⟩
noncomputable def o90 (P : Params) : Obj := ⟨(.type "code"), none, (.fields [(.str (Str.ofString "in_table_b1") 341), (.str (Str.ofString "in_table_b1") 342), (.str (Str.ofString "/claim/cut.py") 343), (.int 72 0), (.int 1 0), (.int 0 0), (.int 0 0), (.int 3 0), (.ref 85), (.bool true), (.int 181 0), (.ref 86), .none, (.ref 87), (.ref 88), (.ref 89), (.int 345 0), (.int 72 0), (.str (Str.ofString "/claim/cut.py") 346)].toArray), [].toArray⟩
noncomputable def o91 (P : Params) : Obj := ⟨(.type "function"), none, (.func (FuncData.mk (Str.ofString "in_table_b1") (Str.ofString "in_table_b1") (fdef 10).1 (.stmts (fdef 10).2.1) (fdef 10).2.2 3 [] .none .none .none (.str (Str.ofString "cpy313.stringprep") 279) none (.ref 90) .none 0)), [].toArray⟩
noncomputable def T_10 (P : Params) : BT := (.node (boot_o_0 P) (.node (boot_o_1 P) (.node (o3_10 P) (.node (boot_o_7 P) (.node (o15 P) (.node (o31 P) (.node (o63 P) .nil .nil) .nil) (.node (o47 P) (.node (o79 P) .nil .nil) .nil)) (.node (o23 P) (.node (o39 P) (.node (o71 P) .nil .nil) .nil) (.node (o55 P) (.node (o87 P) .nil .nil) .nil))) (.node (o11 P) (.node (o19 P) (.node (o35 P) (.node (o67 P) .nil .nil) .nil) (.node (o51 P) (.node (o83 P) .nil .nil) .nil)) (.node (o27 P) (.node (o43 P) (.node (o75 P) .nil .nil) .nil) (.node (o59 P) (.node (o91 P) .nil .nil) .nil)))) (.node (boot_o_5 P) (.node (boot_o_9 P) (.node (o17 P) (.node (o33 P) (.node (o65 P) .nil .nil) .nil) (.node (o49 P) (.node (o81 P) .nil .nil) .nil)) (.node (o25 P) (.node (o41 P) (.node (o73 P) .nil .nil) .nil) (.node (o57 P) (.node (o89 P) .nil .nil) .nil))) (.node (o13 P) (.node (o21 P) (.node (o37 P) (.node (o69 P) .nil .nil) .nil) (.node (o53 P) (.node (o85 P) .nil .nil) .nil)) (.node (o29 P) (.node (o45 P) (.node (o77 P) .nil .nil) .nil) (.node (o61 P) .nil .nil))))) (.node (o2_8 P) (.node (boot_o_4 P) (.node (boot_o_8 P) (.node (o16 P) (.node (o32 P) (.node (o64 P) .nil .nil) .nil) (.node (o48 P) (.node (o80 P) .nil .nil) .nil)) (.node (o24 P) (.node (o40 P) (.node (o72 P) .nil .nil) .nil) (.node (o56 P) (.node (o88 P) .nil .nil) .nil))) (.node (o12_10 P) (.node (o20 P) (.node (o36 P) (.node (o68 P) .nil .nil) .nil) (.node (o52 P) (.node (o84 P) .nil .nil) .nil)) (.node (o28 P) (.node (o44 P) (.node (o76 P) .nil .nil) .nil) (.node (o60 P) .nil .nil)))) (.node (boot_o_6 P) (.node (boot_o_10 P) (.node (o18 P) (.node (o34 P) (.node (o66 P) .nil .nil) .nil) (.node (o50 P) (.node (o82 P) .nil .nil) .nil)) (.node (o26 P) (.node (o42 P) (.node (o74 P) .nil .nil) .nil) (.node (o58 P) (.node (o90 P) .nil .nil) .nil))) (.node (o14 P) (.node (o22 P) (.node (o38 P) (.node (o70 P) .nil .nil) .nil) (.node (o54 P) (.node (o86 P) .nil .nil) .nil)) (.node (o30 P) (.node (o46 P) (.node (o78 P) .nil .nil) .nil) (.node (o62 P) .nil .nil))))))
noncomputable def o3_11 (P : Params) : Obj := ⟨(.type "dict"), none, (.dict [⟨PyData.keyHash P (Str.ofString "__name__"), (.str (Str.ofString "__name__") 165), (.str (Str.ofString "cpy313.stringprep") 279)⟩, ⟨PyData.keyHash P (Str.ofString "__doc__"), (.str (Str.ofString "__doc__") 166), .none⟩, ⟨PyData.keyHash P (Str.ofString "__package__"), (.str (Str.ofString "__package__") 167), .none⟩, ⟨PyData.keyHash P (Str.ofString "__loader__"), (.str (Str.ofString "__loader__") 168), (.builtin "__main__.__loader__#opaque")⟩, ⟨PyData.keyHash P (Str.ofString "__spec__"), (.str (Str.ofString "__spec__") 169), .none⟩, ⟨PyData.keyHash P (Str.ofString "__annotations__"), (.str (Str.ofString "__annotations__") 170), (.ref 6)⟩, ⟨PyData.keyHash P (Str.ofString "__builtins__"), (.str (Str.ofString "__builtins__") 171), (.ref 4)⟩, ⟨PyData.keyHash P (Str.ofString "__file__"), (.str (Str.ofString "__file__") 173), (.str (Str.ofString "/claim/cut.py") 172)⟩, ⟨PyData.keyHash P (Str.ofString "__cached__"), (.str (Str.ofString "__cached__") 174), .none⟩, ⟨PyData.keyHash P (Str.ofString "bisect_right"), (.str (Str.ofString "bisect_right") 202), (.ref 23)⟩, ⟨PyData.keyHash P (Str.ofString "insort_left"), (.str (Str.ofString "insort_left") 215), (.ref 32)⟩, ⟨PyData.keyHash P (Str.ofString "bisect_left"), (.str (Str.ofString "bisect_left") 229), (.ref 41)⟩, ⟨PyData.keyHash P (Str.ofString "Error"), (.str (Str.ofString "Error") 251), (.ref 51)⟩, ⟨PyData.keyHash P (Str.ofString "error_reply"), (.str (Str.ofString "error_reply") 267), (.ref 64)⟩, ⟨PyData.keyHash P (Str.ofString "parse257"), (.str (Str.ofString "parse257") 278), (.ref 73)⟩, ⟨PyData.keyHash P (Str.ofString "b1_set"), (.str (Str.ofString "b1_set") 340), (.ref 81)⟩, ⟨PyData.keyHash P (Str.ofString "in_table_b1"), (.str (Str.ofString "in_table_b1") 347), (.ref 91)⟩, ⟨PyData.keyHash P (Str.ofString "b3_exceptions"), (.str (Str.ofString "b3_exceptions") 2298), (.ref 92)⟩].toArray 18), [].toArray⟩
/-- the written table: its keys and values, as the text has them -/
noncomputable def b3pairs : List (Int × Str) := match (pw.main.body[11]? : Option Stmt) with
  | some (Stmt.Assign _ (Expr.Dict ks vs _) _) => (ks.zip vs).filterMap fun p => match p with
    | (some (Expr.Constant (Const.int i) _ _), Expr.Constant (Const.str x) _ _) => some (i, x)
    | _ => none
  | _ => []
noncomputable def ents (st : Nat) : Nat → List (Int × Str) → List DictEntry
  | _, [] => []
  | t, (i, x) :: r => ⟨i, .int i t, .str x (t + 1)⟩ :: ents st (t + st) r
noncomputable def b3ents : List DictEntry := ents 3 348 (b3pairs.take 646) ++ ents 2 2286 (b3pairs.drop 646)
noncomputable def o92 (P : Params) : Obj := ⟨.type "dict", none, .dict b3ents.toArray 650, [].toArray⟩
noncomputable def sub17 (k : Nat) : Obj := ⟨.type "dict", none, .dict (ents 3 (399 + 51 * k) ((b3pairs.drop (17 + 17 * k)).take 17)).toArray 17, [].toArray⟩
noncomputable def o93 (P : Params) : Obj := sub17 0
noncomputable def o94 (P : Params) : Obj := sub17 1
noncomputable def o95 (P : Params) : Obj := sub17 2
noncomputable def o96 (P : Params) : Obj := sub17 3
noncomputable def o97 (P : Params) : Obj := sub17 4
noncomputable def o98 (P : Params) : Obj := sub17 5
noncomputable def o99 (P : Params) : Obj := sub17 6
noncomputable def o100 (P : Params) : Obj := sub17 7
noncomputable def o101 (P : Params) : Obj := sub17 8
noncomputable def o102 (P : Params) : Obj := sub17 9
noncomputable def o103 (P : Params) : Obj := sub17 10
noncomputable def o104 (P : Params) : Obj := sub17 11
noncomputable def o105 (P : Params) : Obj := sub17 12
noncomputable def o106 (P : Params) : Obj := sub17 13
noncomputable def o107 (P : Params) : Obj := sub17 14
noncomputable def o108 (P : Params) : Obj := sub17 15
noncomputable def o109 (P : Params) : Obj := sub17 16
noncomputable def o110 (P : Params) : Obj := sub17 17
noncomputable def o111 (P : Params) : Obj := sub17 18
noncomputable def o112 (P : Params) : Obj := sub17 19
noncomputable def o113 (P : Params) : Obj := sub17 20
noncomputable def o114 (P : Params) : Obj := sub17 21
noncomputable def o115 (P : Params) : Obj := sub17 22
noncomputable def o116 (P : Params) : Obj := sub17 23
noncomputable def o117 (P : Params) : Obj := sub17 24
noncomputable def o118 (P : Params) : Obj := sub17 25
noncomputable def o119 (P : Params) : Obj := sub17 26
noncomputable def o120 (P : Params) : Obj := sub17 27
noncomputable def o121 (P : Params) : Obj := sub17 28
noncomputable def o122 (P : Params) : Obj := sub17 29
noncomputable def o123 (P : Params) : Obj := sub17 30
noncomputable def o124 (P : Params) : Obj := sub17 31
noncomputable def o125 (P : Params) : Obj := sub17 32
noncomputable def o126 (P : Params) : Obj := sub17 33
noncomputable def o127 (P : Params) : Obj := sub17 34
noncomputable def o128 (P : Params) : Obj := sub17 35
noncomputable def o129 (P : Params) : Obj := sub17 36
noncomputable def o130 (P : Params) : Obj := ⟨.type "dict", none, .dict (ents 2 2286 (b3pairs.drop 646)).toArray 4, [].toArray⟩
noncomputable def T_11 (P : Params) : BT := (.node (boot_o_0 P) (.node (boot_o_1 P) (.node (o3_11 P) (.node (boot_o_7 P) (.node (o15 P) (.node (o31 P) (.node (o63 P) (.node (o127 P) .nil .nil) .nil) (.node (o95 P) .nil .nil)) (.node (o47 P) (.node (o79 P) .nil .nil) (.node (o111 P) .nil .nil))) (.node (o23 P) (.node (o39 P) (.node (o71 P) .nil .nil) (.node (o103 P) .nil .nil)) (.node (o55 P) (.node (o87 P) .nil .nil) (.node (o119 P) .nil .nil)))) (.node (o11 P) (.node (o19 P) (.node (o35 P) (.node (o67 P) .nil .nil) (.node (o99 P) .nil .nil)) (.node (o51 P) (.node (o83 P) .nil .nil) (.node (o115 P) .nil .nil))) (.node (o27 P) (.node (o43 P) (.node (o75 P) .nil .nil) (.node (o107 P) .nil .nil)) (.node (o59 P) (.node (o91 P) .nil .nil) (.node (o123 P) .nil .nil))))) (.node (boot_o_5 P) (.node (boot_o_9 P) (.node (o17 P) (.node (o33 P) (.node (o65 P) (.node (o129 P) .nil .nil) .nil) (.node (o97 P) .nil .nil)) (.node (o49 P) (.node (o81 P) .nil .nil) (.node (o113 P) .nil .nil))) (.node (o25 P) (.node (o41 P) (.node (o73 P) .nil .nil) (.node (o105 P) .nil .nil)) (.node (o57 P) (.node (o89 P) .nil .nil) (.node (o121 P) .nil .nil)))) (.node (o13 P) (.node (o21 P) (.node (o37 P) (.node (o69 P) .nil .nil) (.node (o101 P) .nil .nil)) (.node (o53 P) (.node (o85 P) .nil .nil) (.node (o117 P) .nil .nil))) (.node (o29 P) (.node (o45 P) (.node (o77 P) .nil .nil) (.node (o109 P) .nil .nil)) (.node (o61 P) (.node (o93 P) .nil .nil) (.node (o125 P) .nil .nil)))))) (.node (o2_8 P) (.node (boot_o_4 P) (.node (boot_o_8 P) (.node (o16 P) (.node (o32 P) (.node (o64 P) (.node (o128 P) .nil .nil) .nil) (.node (o96 P) .nil .nil)) (.node (o48 P) (.node (o80 P) .nil .nil) (.node (o112 P) .nil .nil))) (.node (o24 P) (.node (o40 P) (.node (o72 P) .nil .nil) (.node (o104 P) .nil .nil)) (.node (o56 P) (.node (o88 P) .nil .nil) (.node (o120 P) .nil .nil)))) (.node (o12_10 P) (.node (o20 P) (.node (o36 P) (.node (o68 P) .nil .nil) (.node (o100 P) .nil .nil)) (.node (o52 P) (.node (o84 P) .nil .nil) (.node (o116 P) .nil .nil))) (.node (o28 P) (.node (o44 P) (.node (o76 P) .nil .nil) (.node (o108 P) .nil .nil)) (.node (o60 P) (.node (o92 P) .nil .nil) (.node (o124 P) .nil .nil))))) (.node (boot_o_6 P) (.node (boot_o_10 P) (.node (o18 P) (.node (o34 P) (.node (o66 P) (.node (o130 P) .nil .nil) .nil) (.node (o98 P) .nil .nil)) (.node (o50 P) (.node (o82 P) .nil .nil) (.node (o114 P) .nil .nil))) (.node (o26 P) (.node (o42 P) (.node (o74 P) .nil .nil) (.node (o106 P) .nil .nil)) (.node (o58 P) (.node (o90 P) .nil .nil) (.node (o122 P) .nil .nil)))) (.node (o14 P) (.node (o22 P) (.node (o38 P) (.node (o70 P) .nil .nil) (.node (o102 P) .nil .nil)) (.node (o54 P) (.node (o86 P) .nil .nil) (.node (o118 P) .nil .nil))) (.node (o30 P) (.node (o46 P) (.node (o78 P) .nil .nil) (.node (o110 P) .nil .nil)) (.node (o62 P) (.node (o94 P) .nil .nil) (.node (o126 P) .nil .nil)))))))
noncomputable def o3_20 (P : Params) : Obj := ⟨(.type "dict"), none, (.dict [⟨PyData.keyHash P (Str.ofString "__name__"), (.str (Str.ofString "__name__") 165), (.str (Str.ofString "law_ux0032_01") 2307)⟩, ⟨PyData.keyHash P (Str.ofString "__doc__"), (.str (Str.ofString "__doc__") 166), .none⟩, ⟨PyData.keyHash P (Str.ofString "__package__"), (.str (Str.ofString "__package__") 167), .none⟩, ⟨PyData.keyHash P (Str.ofString "__loader__"), (.str (Str.ofString "__loader__") 168), (.builtin "__main__.__loader__#opaque")⟩, ⟨PyData.keyHash P (Str.ofString "__spec__"), (.str (Str.ofString "__spec__") 169), .none⟩, ⟨PyData.keyHash P (Str.ofString "__annotations__"), (.str (Str.ofString "__annotations__") 170), (.ref 6)⟩, ⟨PyData.keyHash P (Str.ofString "__builtins__"), (.str (Str.ofString "__builtins__") 171), (.ref 4)⟩, ⟨PyData.keyHash P (Str.ofString "__file__"), (.str (Str.ofString "__file__") 173), (.str (Str.ofString "/claim/cut.py") 172)⟩, ⟨PyData.keyHash P (Str.ofString "__cached__"), (.str (Str.ofString "__cached__") 174), .none⟩, ⟨PyData.keyHash P (Str.ofString "bisect_right"), (.str (Str.ofString "bisect_right") 202), (.ref 23)⟩, ⟨PyData.keyHash P (Str.ofString "insort_left"), (.str (Str.ofString "insort_left") 215), (.ref 32)⟩, ⟨PyData.keyHash P (Str.ofString "bisect_left"), (.str (Str.ofString "bisect_left") 229), (.ref 41)⟩, ⟨PyData.keyHash P (Str.ofString "Error"), (.str (Str.ofString "Error") 251), (.ref 51)⟩, ⟨PyData.keyHash P (Str.ofString "error_reply"), (.str (Str.ofString "error_reply") 267), (.ref 64)⟩, ⟨PyData.keyHash P (Str.ofString "parse257"), (.str (Str.ofString "parse257") 278), (.ref 73)⟩, ⟨PyData.keyHash P (Str.ofString "b1_set"), (.str (Str.ofString "b1_set") 340), (.ref 81)⟩, ⟨PyData.keyHash P (Str.ofString "in_table_b1"), (.str (Str.ofString "in_table_b1") 347), (.ref 91)⟩, ⟨PyData.keyHash P (Str.ofString "b3_exceptions"), (.str (Str.ofString "b3_exceptions") 2298), (.ref 92)⟩, ⟨PyData.keyHash P (Str.ofString "map_table_b3"), (.str (Str.ofString "map_table_b3") 2306), (.ref 137)⟩, ⟨PyData.keyHash P (Str.ofString "_law_unseen"), (.str (Str.ofString "_law_unseen") 2315), (.ref 144)⟩, ⟨PyData.keyHash P (Str.ofString "_law_name"), (.str (Str.ofString "_law_name") 2321), (.ref 149)⟩, ⟨PyData.keyHash P (Str.ofString "_law_prepared"), (.str (Str.ofString "_law_prepared") 2327), (.ref 154)⟩, ⟨PyData.keyHash P (Str.ofString "_law_front"), (.str (Str.ofString "_law_front") 2335), (.ref 161)⟩, ⟨PyData.keyHash P (Str.ofString "_law_stretch"), (.str (Str.ofString "_law_stretch") 2349), (.ref 168)⟩, ⟨PyData.keyHash P (Str.ofString "_law_shared"), (.str (Str.ofString "_law_shared") 2358), (.ref 175)⟩, ⟨PyData.keyHash P (Str.ofString "law"), (.str (Str.ofString "law") 2364), (.ref 180)⟩].toArray 26), [].toArray⟩
noncomputable def o12_20 (P : Params) : Obj := ⟨.none, none, (.fields [(.int 2 0), (.int 0 0), (.ref 22), (.int 22 0), (.int 0 0), (.ref 31), (.int 28 0), (.int 0 0), (.ref 40), (.int 49 0), (.int 0 0), (.ref 47), (.int 51 0), (.int 0 0), (.ref 60), (.int 53 0), (.int 0 0), (.ref 72), (.int 72 0), (.int 0 0), (.ref 90), (.int 75 0), (.int 0 0), (.ref 136), (.int 81 0), (.int 0 0), (.ref 143), (.int 85 0), (.int 0 0), (.ref 148), (.int 92 0), (.int 0 0), (.ref 153), (.int 94 0), (.int 0 0), (.ref 160), (.int 96 0), (.int 0 0), (.ref 167), (.int 101 0), (.int 0 0), (.ref 174), (.int 106 0), (.int 0 0), (.ref 179)].toArray), [].toArray⟩
noncomputable def o131 (P : Params) : Obj := ⟨(.type "tuple"), none, (.seq [].toArray 0), [].toArray⟩
noncomputable def o132 (P : Params) : Obj := ⟨.none, none, (.fields [].toArray), [].toArray⟩
noncomputable def o133 (P : Params) : Obj := ⟨(.type "tuple"), none, (.seq [(.str (Str.ofString "code") 2302), (.str (Str.ofString "r") 2303)].toArray 0), [].toArray⟩
noncomputable def o134 (P : Params) : Obj := ⟨(.type "tuple"), none, (.seq [].toArray 0), [].toArray⟩
noncomputable def o135 (P : Params) : Obj := ⟨.none, none, (.func (FuncData.mk (Str.ofString "map_table_b3") (Str.ofString "map_table_b3") (fdef 12).1 (.stmts (fdef 12).2.1) (fdef 12).2.2 0 [] .none .none .none .none none .none .none 0)), [].toArray⟩
noncomputable def o136 (P : Params) : Obj := ⟨(.type "code"), none, (.fields [(.str (Str.ofString "map_table_b3") 2299), (.str (Str.ofString "map_table_b3") 2300), (.str (Str.ofString "/claim/cut.py") 2301), (.int 75 0), (.int 1 0), (.int 0 0), (.int 0 0), (.int 3 0), (.ref 131), (.bool true), (.int 181 0), (.ref 132), .none, (.ref 133), (.ref 134), (.ref 135), (.int 2304 0), (.int 75 0), (.str (Str.ofString "/claim/cut.py") 2305)].toArray), [].toArray⟩
noncomputable def o137 (P : Params) : Obj := ⟨(.type "function"), none, (.func (FuncData.mk (Str.ofString "map_table_b3") (Str.ofString "map_table_b3") (fdef 12).1 (.stmts (fdef 12).2.1) (fdef 12).2.2 3 [] .none .none .none (.str (Str.ofString "cpy313.stringprep") 279) none (.ref 136) .none 0)), [].toArray⟩
noncomputable def o138 (P : Params) : Obj := ⟨(.type "tuple"), none, (.seq [].toArray 0), [].toArray⟩
noncomputable def o139 (P : Params) : Obj := ⟨.none, none, (.fields [].toArray), [].toArray⟩
noncomputable def o140 (P : Params) : Obj := ⟨(.type "tuple"), none, (.seq [(.str (Str.ofString "k") 2312)].toArray 0), [].toArray⟩
noncomputable def o141 (P : Params) : Obj := ⟨(.type "tuple"), none, (.seq [].toArray 0), [].toArray⟩
noncomputable def o142 (P : Params) : Obj := ⟨.none, none, (.func (FuncData.mk (Str.ofString "_law_unseen") (Str.ofString "_law_unseen") (fdef 14).1 (.stmts (fdef 14).2.1) (fdef 14).2.2 0 [] .none .none .none .none none .none .none 0)), [].toArray⟩
noncomputable def o143 (P : Params) : Obj := ⟨(.type "code"), none, (.fields [(.str (Str.ofString "_law_unseen") 2309), (.str (Str.ofString "_law_unseen") 2310), (.str (Str.ofString "/claim/cut.py") 2311), (.int 81 0), (.int 1 0), (.int 0 0), (.int 0 0), (.int 3 0), (.ref 138), (.bool true), (.int 181 0), (.ref 139), .none, (.ref 140), (.ref 141), (.ref 142), (.int 2313 0), (.int 81 0), (.str (Str.ofString "/claim/cut.py") 2314)].toArray), [].toArray⟩
noncomputable def o144 (P : Params) : Obj := ⟨(.type "function"), none, (.func (FuncData.mk (Str.ofString "_law_unseen") (Str.ofString "_law_unseen") (fdef 14).1 (.stmts (fdef 14).2.1) (fdef 14).2.2 3 [] .none .none .none (.str (Str.ofString "law_ux0032_01") 2307) none (.ref 143) .none 0)), [].toArray⟩
noncomputable def o145 (P : Params) : Obj := ⟨(.type "tuple"), none, (.seq [].toArray 0), [].toArray⟩
noncomputable def o146 (P : Params) : Obj := ⟨.none, none, (.fields [].toArray), [].toArray⟩
noncomputable def o147 (P : Params) : Obj := ⟨.none, none, (.func (FuncData.mk (Str.ofString "_law_name") (Str.ofString "_law_name") (fdef 15).1 (.stmts (fdef 15).2.1) (fdef 15).2.2 0 [] .none .none .none .none none .none .none 0)), [].toArray⟩
noncomputable def o148 (P : Params) : Obj := ⟨(.type "code"), none, (.fields [(.str (Str.ofString "_law_name") 2316), (.str (Str.ofString "_law_name") 2317), (.str (Str.ofString "/claim/cut.py") 2318), (.int 85 0), (.int 1 0), (.int 0 0), (.int 0 0), (.int 3 0), (.ref 145), (.bool true), (.int 181 0), (.ref 146), .none, .none, .none, (.ref 147), (.int 2319 0), (.int 85 0), (.str (Str.ofString "/claim/cut.py") 2320)].toArray), [].toArray⟩
noncomputable def o149 (P : Params) : Obj := ⟨(.type "function"), none, (.func (FuncData.mk (Str.ofString "_law_name") (Str.ofString "_law_name") (fdef 15).1 (.stmts (fdef 15).2.1) (fdef 15).2.2 3 [] .none .none .none (.str (Str.ofString "law_ux0032_01") 2307) none (.ref 148) .none 0)), [].toArray⟩
noncomputable def o150 (P : Params) : Obj := ⟨(.type "tuple"), none, (.seq [].toArray 0), [].toArray⟩
noncomputable def o151 (P : Params) : Obj := ⟨.none, none, (.fields [].toArray), [].toArray⟩
noncomputable def o152 (P : Params) : Obj := ⟨.none, none, (.func (FuncData.mk (Str.ofString "_law_prepared") (Str.ofString "_law_prepared") (fdef 16).1 (.stmts (fdef 16).2.1) (fdef 16).2.2 0 [] .none .none .none .none none .none .none 0)), [].toArray⟩
noncomputable def o153 (P : Params) : Obj := ⟨(.type "code"), none, (.fields [(.str (Str.ofString "_law_prepared") 2322), (.str (Str.ofString "_law_prepared") 2323), (.str (Str.ofString "/claim/cut.py") 2324), (.int 92 0), (.int 1 0), (.int 0 0), (.int 0 0), (.int 3 0), (.ref 150), (.bool true), (.int 181 0), (.ref 151), .none, .none, .none, (.ref 152), (.int 2325 0), (.int 92 0), (.str (Str.ofString "/claim/cut.py") 2326)].toArray), [].toArray⟩
noncomputable def o154 (P : Params) : Obj := ⟨(.type "function"), none, (.func (FuncData.mk (Str.ofString "_law_prepared") (Str.ofString "_law_prepared") (fdef 16).1 (.stmts (fdef 16).2.1) (fdef 16).2.2 3 [] .none .none .none (.str (Str.ofString "law_ux0032_01") 2307) none (.ref 153) .none 0)), [].toArray⟩
noncomputable def o155 (P : Params) : Obj := ⟨(.type "tuple"), none, (.seq [].toArray 0), [].toArray⟩
noncomputable def o156 (P : Params) : Obj := ⟨.none, none, (.fields [].toArray), [].toArray⟩
noncomputable def o157 (P : Params) : Obj := ⟨(.type "tuple"), none, (.seq [(.str (Str.ofString "body") 2331), (.str (Str.ofString "cut") 2332)].toArray 0), [].toArray⟩
noncomputable def o158 (P : Params) : Obj := ⟨(.type "tuple"), none, (.seq [].toArray 0), [].toArray⟩
noncomputable def o159 (P : Params) : Obj := ⟨.none, none, (.func (FuncData.mk (Str.ofString "_law_front") (Str.ofString "_law_front") (fdef 17).1 (.stmts (fdef 17).2.1) (fdef 17).2.2 0 [] .none .none .none .none none .none .none 0)), [].toArray⟩
noncomputable def o160 (P : Params) : Obj := ⟨(.type "code"), none, (.fields [(.str (Str.ofString "_law_front") 2328), (.str (Str.ofString "_law_front") 2329), (.str (Str.ofString "/claim/cut.py") 2330), (.int 94 0), (.int 2 0), (.int 0 0), (.int 0 0), (.int 3 0), (.ref 155), (.bool true), (.int 181 0), (.ref 156), .none, (.ref 157), (.ref 158), (.ref 159), (.int 2333 0), (.int 94 0), (.str (Str.ofString "/claim/cut.py") 2334)].toArray), [].toArray⟩
noncomputable def o161 (P : Params) : Obj := ⟨(.type "function"), none, (.func (FuncData.mk (Str.ofString "_law_front") (Str.ofString "_law_front") (fdef 17).1 (.stmts (fdef 17).2.1) (fdef 17).2.2 3 [] .none .none .none (.str (Str.ofString "law_ux0032_01") 2307) none (.ref 160) .none 0)), [].toArray⟩
noncomputable def o162 (P : Params) : Obj := ⟨(.type "tuple"), none, (.seq [].toArray 0), [].toArray⟩
noncomputable def o163 (P : Params) : Obj := ⟨.none, none, (.fields [].toArray), [].toArray⟩
noncomputable def o164 (P : Params) : Obj := ⟨(.type "tuple"), none, (.seq [(.str (Str.ofString "book") 2339), (.str (Str.ofString "front") 2340), (.str (Str.ofString "start") 2341), (.str (Str.ofString "low") 2342), (.str (Str.ofString "high") 2343), (.str (Str.ofString "grown") 2344)].toArray 0), [].toArray⟩
noncomputable def o165 (P : Params) : Obj := ⟨(.type "tuple"), none, (.seq [(.str (Str.ofString "front") 2345), (.str (Str.ofString "start") 2346)].toArray 0), [].toArray⟩
noncomputable def o166 (P : Params) : Obj := ⟨.none, none, (.func (FuncData.mk (Str.ofString "_law_stretch") (Str.ofString "_law_stretch") (fdef 18).1 (.stmts (fdef 18).2.1) (fdef 18).2.2 0 [] .none .none .none .none none .none .none 0)), [].toArray⟩
noncomputable def o167 (P : Params) : Obj := ⟨(.type "code"), none, (.fields [(.str (Str.ofString "_law_stretch") 2336), (.str (Str.ofString "_law_stretch") 2337), (.str (Str.ofString "/claim/cut.py") 2338), (.int 96 0), (.int 5 0), (.int 0 0), (.int 0 0), (.int 3 0), (.ref 162), (.bool true), (.int 181 0), (.ref 163), .none, (.ref 164), (.ref 165), (.ref 166), (.int 2347 0), (.int 96 0), (.str (Str.ofString "/claim/cut.py") 2348)].toArray), [].toArray⟩
noncomputable def o168 (P : Params) : Obj := ⟨(.type "function"), none, (.func (FuncData.mk (Str.ofString "_law_stretch") (Str.ofString "_law_stretch") (fdef 18).1 (.stmts (fdef 18).2.1) (fdef 18).2.2 3 [] .none .none .none (.str (Str.ofString "law_ux0032_01") 2307) none (.ref 167) .none 0)), [].toArray⟩
noncomputable def o169 (P : Params) : Obj := ⟨(.type "tuple"), none, (.seq [].toArray 0), [].toArray⟩
noncomputable def o170 (P : Params) : Obj := ⟨.none, none, (.fields [].toArray), [].toArray⟩
noncomputable def o171 (P : Params) : Obj := ⟨(.type "tuple"), none, (.seq [(.str (Str.ofString "one") 2353), (.str (Str.ofString "other") 2354), (.str (Str.ofString "size") 2355)].toArray 0), [].toArray⟩
noncomputable def o172 (P : Params) : Obj := ⟨(.type "tuple"), none, (.seq [].toArray 0), [].toArray⟩
noncomputable def o173 (P : Params) : Obj := ⟨.none, none, (.func (FuncData.mk (Str.ofString "_law_shared") (Str.ofString "_law_shared") (fdef 19).1 (.stmts (fdef 19).2.1) (fdef 19).2.2 0 [] .none .none .none .none none .none .none 0)), [].toArray⟩
noncomputable def o174 (P : Params) : Obj := ⟨(.type "code"), none, (.fields [(.str (Str.ofString "_law_shared") 2350), (.str (Str.ofString "_law_shared") 2351), (.str (Str.ofString "/claim/cut.py") 2352), (.int 101 0), (.int 2 0), (.int 0 0), (.int 0 0), (.int 3 0), (.ref 169), (.bool true), (.int 181 0), (.ref 170), .none, (.ref 171), (.ref 172), (.ref 173), (.int 2356 0), (.int 101 0), (.str (Str.ofString "/claim/cut.py") 2357)].toArray), [].toArray⟩
noncomputable def o175 (P : Params) : Obj := ⟨(.type "function"), none, (.func (FuncData.mk (Str.ofString "_law_shared") (Str.ofString "_law_shared") (fdef 19).1 (.stmts (fdef 19).2.1) (fdef 19).2.2 3 [] .none .none .none (.str (Str.ofString "law_ux0032_01") 2307) none (.ref 174) .none 0)), [].toArray⟩
noncomputable def o176 (P : Params) : Obj := ⟨(.type "tuple"), none, (.seq [].toArray 0), [].toArray⟩
noncomputable def o177 (P : Params) : Obj := ⟨.none, none, (.fields [].toArray), [].toArray⟩
noncomputable def o178 (P : Params) : Obj := ⟨.none, none, (.func (FuncData.mk (Str.ofString "law") (Str.ofString "law") (fdef 20).1 (.stmts (fdef 20).2.1) (fdef 20).2.2 0 [] .none .none .none .none none .none .none 0)), [].toArray⟩
noncomputable def o179 (P : Params) : Obj := ⟨(.type "code"), none, (.fields [(.str (Str.ofString "law") 2359), (.str (Str.ofString "law") 2360), (.str (Str.ofString "/claim/cut.py") 2361), (.int 106 0), (.int 1 0), (.int 0 0), (.int 0 0), (.int 3 0), (.ref 176), (.bool true), (.int 181 0), (.ref 177), .none, .none, .none, (.ref 178), (.int 2362 0), (.int 106 0), (.str (Str.ofString "/claim/cut.py") 2363)].toArray), [].toArray⟩
noncomputable def o180 (P : Params) : Obj := ⟨(.type "function"), none, (.func (FuncData.mk (Str.ofString "law") (Str.ofString "law") (fdef 20).1 (.stmts (fdef 20).2.1) (fdef 20).2.2 3 [] .none .none .none (.str (Str.ofString "law_ux0032_01") 2307) none (.ref 179) .none 0)), [].toArray⟩
noncomputable def T_20 (P : Params) : BT := (.node (boot_o_0 P) (.node (boot_o_1 P) (.node (o3_20 P) (.node (boot_o_7 P) (.node (o15 P) (.node (o31 P) (.node (o63 P) (.node (o127 P) .nil .nil) .nil) (.node (o95 P) (.node (o159 P) .nil .nil) .nil)) (.node (o47 P) (.node (o79 P) (.node (o143 P) .nil .nil) .nil) (.node (o111 P) (.node (o175 P) .nil .nil) .nil))) (.node (o23 P) (.node (o39 P) (.node (o71 P) (.node (o135 P) .nil .nil) .nil) (.node (o103 P) (.node (o167 P) .nil .nil) .nil)) (.node (o55 P) (.node (o87 P) (.node (o151 P) .nil .nil) .nil) (.node (o119 P) .nil .nil)))) (.node (o11 P) (.node (o19 P) (.node (o35 P) (.node (o67 P) (.node (o131 P) .nil .nil) .nil) (.node (o99 P) (.node (o163 P) .nil .nil) .nil)) (.node (o51 P) (.node (o83 P) (.node (o147 P) .nil .nil) .nil) (.node (o115 P) (.node (o179 P) .nil .nil) .nil))) (.node (o27 P) (.node (o43 P) (.node (o75 P) (.node (o139 P) .nil .nil) .nil) (.node (o107 P) (.node (o171 P) .nil .nil) .nil)) (.node (o59 P) (.node (o91 P) (.node (o155 P) .nil .nil) .nil) (.node (o123 P) .nil .nil))))) (.node (boot_o_5 P) (.node (boot_o_9 P) (.node (o17 P) (.node (o33 P) (.node (o65 P) (.node (o129 P) .nil .nil) .nil) (.node (o97 P) (.node (o161 P) .nil .nil) .nil)) (.node (o49 P) (.node (o81 P) (.node (o145 P) .nil .nil) .nil) (.node (o113 P) (.node (o177 P) .nil .nil) .nil))) (.node (o25 P) (.node (o41 P) (.node (o73 P) (.node (o137 P) .nil .nil) .nil) (.node (o105 P) (.node (o169 P) .nil .nil) .nil)) (.node (o57 P) (.node (o89 P) (.node (o153 P) .nil .nil) .nil) (.node (o121 P) .nil .nil)))) (.node (o13 P) (.node (o21 P) (.node (o37 P) (.node (o69 P) (.node (o133 P) .nil .nil) .nil) (.node (o101 P) (.node (o165 P) .nil .nil) .nil)) (.node (o53 P) (.node (o85 P) (.node (o149 P) .nil .nil) .nil) (.node (o117 P) .nil .nil))) (.node (o29 P) (.node (o45 P) (.node (o77 P) (.node (o141 P) .nil .nil) .nil) (.node (o109 P) (.node (o173 P) .nil .nil) .nil)) (.node (o61 P) (.node (o93 P) (.node (o157 P) .nil .nil) .nil) (.node (o125 P) .nil .nil)))))) (.node (o2_8 P) (.node (boot_o_4 P) (.node (boot_o_8 P) (.node (o16 P) (.node (o32 P) (.node (o64 P) (.node (o128 P) .nil .nil) .nil) (.node (o96 P) (.node (o160 P) .nil .nil) .nil)) (.node (o48 P) (.node (o80 P) (.node (o144 P) .nil .nil) .nil) (.node (o112 P) (.node (o176 P) .nil .nil) .nil))) (.node (o24 P) (.node (o40 P) (.node (o72 P) (.node (o136 P) .nil .nil) .nil) (.node (o104 P) (.node (o168 P) .nil .nil) .nil)) (.node (o56 P) (.node (o88 P) (.node (o152 P) .nil .nil) .nil) (.node (o120 P) .nil .nil)))) (.node (o12_20 P) (.node (o20 P) (.node (o36 P) (.node (o68 P) (.node (o132 P) .nil .nil) .nil) (.node (o100 P) (.node (o164 P) .nil .nil) .nil)) (.node (o52 P) (.node (o84 P) (.node (o148 P) .nil .nil) .nil) (.node (o116 P) (.node (o180 P) .nil .nil) .nil))) (.node (o28 P) (.node (o44 P) (.node (o76 P) (.node (o140 P) .nil .nil) .nil) (.node (o108 P) (.node (o172 P) .nil .nil) .nil)) (.node (o60 P) (.node (o92 P) (.node (o156 P) .nil .nil) .nil) (.node (o124 P) .nil .nil))))) (.node (boot_o_6 P) (.node (boot_o_10 P) (.node (o18 P) (.node (o34 P) (.node (o66 P) (.node (o130 P) .nil .nil) .nil) (.node (o98 P) (.node (o162 P) .nil .nil) .nil)) (.node (o50 P) (.node (o82 P) (.node (o146 P) .nil .nil) .nil) (.node (o114 P) (.node (o178 P) .nil .nil) .nil))) (.node (o26 P) (.node (o42 P) (.node (o74 P) (.node (o138 P) .nil .nil) .nil) (.node (o106 P) (.node (o170 P) .nil .nil) .nil)) (.node (o58 P) (.node (o90 P) (.node (o154 P) .nil .nil) .nil) (.node (o122 P) .nil .nil)))) (.node (o14 P) (.node (o22 P) (.node (o38 P) (.node (o70 P) (.node (o134 P) .nil .nil) .nil) (.node (o102 P) (.node (o166 P) .nil .nil) .nil)) (.node (o54 P) (.node (o86 P) (.node (o150 P) .nil .nil) .nil) (.node (o118 P) .nil .nil))) (.node (o30 P) (.node (o46 P) (.node (o78 P) (.node (o142 P) .nil .nil) .nil) (.node (o110 P) (.node (o174 P) .nil .nil) .nil)) (.node (o62 P) (.node (o94 P) (.node (o158 P) .nil .nil) .nil) (.node (o126 P) .nil .nil)))))))
end Mine
end

namespace Mine
open PySem PySem.W PySem.Calls PyProof.Rows
noncomputable def envT : Env := { scope := pw.main.scope, locals := mainNs, globals := mainNs, cells := [], code := .ref 13, frame := some 14 }
noncomputable def cT : Code := .body (behindTheImports pw) envT
noncomputable def posZ : Pos := ⟨0, 0, 0, 0⟩
noncomputable def sts (a b : Nat) : List Stmt := (pw.main.body.drop a).take (b - a)
noncomputable def St (T : Params → BT) (n k : Nat) (w : World) (os : OsState) : SharedT := ⟨T w.params, n, {}, #[], boot_drawn, k, os⟩
theorem pre_go (w : World) (os : OsState) : topGo treeTable pw w 11 (some (.ref 6)) 12 ⟨boot_heap w.params, #[], boot_drawn, boot_toks, os⟩ (topStub pw) = some ((St T_A 15 187 w os).abs, ⟨denote treeTable cT, cT, posZ, [topFrame posZ]⟩) := by
  rw [PySem.W.Fast.te15667345088766844465, PySem.W.Fast.te14364793385576792824, PySem.W.Fast.te11892475500146522536]
  kernel_rfl
theorem g1 (w : World) (os : OsState) : segRunT treeTable pw w 11 (some (.ref 6)) 1 600 (St T_B 15 187 w os) (piecesOf (sts 0 9) envT cT posZ [topFrame posZ]) = some (.next, St T_8 74 281 w os, cT, ⟨70, 0, 70, 8⟩) := by
  rw [PySem.W.Fast.te10110043849684766642, PySem.W.Fast.te14364793385576792824]
  kernel_rfl
noncomputable def G2 (w : World) : Prop := ∀ os, segRunT treeTable pw w 11 (some (.ref 6)) 1 1100 (St T_8 74 281 w os) (piecesOf (sts 9 11) envT cT ⟨70, 0, 70, 8⟩ [topFrame posZ]) = some (.next, St T_10 92 348 w os, cT, ⟨72, 0, 73, 30⟩)
theorem g2f (w : World) : G2 (w.withFollow "special-get-raises" false) := fun os => by
  rw [PySem.W.Fast.te10110043849684766642, PySem.W.Fast.te14364793385576792824]
  kernel_rfl
theorem g2t (w : World) : G2 (w.withFollow "special-get-raises" true) := fun os => by
  rw [PySem.W.Fast.te10110043849684766642, PySem.W.Fast.te14364793385576792824]
  kernel_rfl
theorem g2 (w : World) : ∀ os, segRunT treeTable pw w 11 (some (.ref 6)) 1 1100 (St T_8 74 281 w os) (piecesOf (sts 9 11) envT cT ⟨70, 0, 70, 8⟩ [topFrame posZ]) = some (.next, St T_10 92 348 w os, cT, ⟨72, 0, 73, 30⟩) := byRow2 "special-get-raises" (P := G2) g2f g2t w
theorem g5 (w : World) (os : OsState) : segRunT treeTable pw w 11 (some (.ref 6)) 1 600 (St T_11 131 2299 w os) (piecesOf (sts 12 21) envT cT ⟨74, 0, 74, 13⟩ [topFrame posZ]) = some (.next, St T_20 181 2365 w os, cT, ⟨106, 0, 169, 89⟩) := by
  rw [PySem.W.Fast.te10110043849684766642, PySem.W.Fast.te14364793385576792824]
  kernel_rfl
end Mine

namespace Mine
open PySem PySem.W PySem.Calls PyProof.Rows

/-- a tree runs, step by step and with no step that the top may not make, from one state to another -/
noncomputable def SR {α : Type} (w : World) (m : Sem α) (s : Shared) (a : α) (s' : Shared) (b : Nat) : Prop :=
  ∀ (K : α → Sem Fin) (H : Value → Sem Fin) (gd : Bool → Bool) (lv : List Value → List Value) (p : Pos), ∃ n p', n ≤ b ∧
    segGo treeTable pw w 11 (some (.ref 6)) 1 n s ⟨m.wrap K H gd lv, cT, p, [topFrame posZ]⟩ = some (s', ⟨K a, cT, p', [topFrame posZ]⟩)

theorem segGo_add {w : World} : ∀ {n m : Nat} {s s1 : Shared} {t t1 : Thread} {r}, segGo treeTable pw w 11 (some (.ref 6)) 1 n s t = some (s1, t1) →
    segGo treeTable pw w 11 (some (.ref 6)) 1 m s1 t1 = r → segGo treeTable pw w 11 (some (.ref 6)) 1 (n + m) s t = r
  | 0, m, s, s1, t, t1, r, h, k => by
    obtain ⟨rfl, rfl⟩ : s = s1 ∧ t = t1 := by simpa [segGo] using h
    rw [Nat.zero_add]; exact k
  | n + 1, m, s, s1, t, t1, r, h, k => by
    rw [show n + 1 + m = n + m + 1 by omega]
    unfold segGo at h ⊢
    cases he : endAt 1 t with
    | some l => rw [he] at h; cases h
    | none =>
      rw [he] at h
      cases hk : stepOk 11 (some (.ref 6)) t with
      | false => rw [hk] at h; cases h
      | true =>
        rw [hk] at h
        cases hs : step (denote treeTable) pw w s t with
        | halt o s' => rw [hs] at h; cases h
        | go s' t' => rw [hs] at h; exact segGo_add h k

section
variable {w : World} {α β : Type} {s s1 s2 : Shared} {a : α} {b b1 b2 : Nat}
theorem sr_le {m : Sem α} (h : SR w m s a s1 b1) (hb : b1 ≤ b) : SR w m s a s1 b := fun K H gd lv p => by
  obtain ⟨n, p', hn, e⟩ := h K H gd lv p
  exact ⟨n, p', Nat.le_trans hn hb, e⟩
theorem sr_pure : SR w (pure a) s a s 0 := fun K H gd lv p => ⟨0, p, Nat.le_refl _, rfl⟩
theorem sr_bind {m : Sem α} {f : α → Sem β} {r : β} (h1 : SR w m s a s1 b1) (h2 : SR w (f a) s1 r s2 b2) : SR w (m >>= f) s r s2 (b1 + b2) := fun K H gd lv p => by
  obtain ⟨n1, p1, hn1, e1⟩ := h1 (fun a => (f a).wrap K H gd lv) (fun e => (Sem.raise e : Sem β).wrap K H gd lv) (fun g => gd (id g)) (fun l => lv (id l)) p
  obtain ⟨n2, p2, hn2, e2⟩ := h2 K H gd lv p1
  refine ⟨n1 + n2, p2, by omega, ?_⟩
  rw [Sem.bind_eq_wrap', Sem.wrap_wrap]
  exact segGo_add e1 e2
theorem sr_holding {m : Sem α} {vs : List Value} (h : SR w m s a s1 b) : SR w (holding vs m) s a s1 b := by
  unfold PySem.holding
  split
  · exact h
  · intro K H gd lv p
    rw [Sem.keep_eq_wrap, Sem.wrap_wrap]
    exact h _ _ _ _ p
theorem sr_onRaise {m : Sem α} {k : Value → Sem Unit} (h : SR w m s a s1 b) : SR w (m.onRaise k) s a s1 b := fun K H gd lv p => by
  rw [Sem.onRaise_eq_wrap, Sem.wrap_wrap]
  exact h _ _ _ _ p
theorem sr_standAt {q : Pos} : SR w (standAt q) s () s 1 := fun K H gd lv p => ⟨1, q, Nat.le_refl _, rfl⟩
theorem sr_rule {t : String} : SR w (rule t) s () s 1 := fun K H gd lv p => ⟨1, p, Nat.le_refl _, rfl⟩
theorem sr_ask : SR w ask s ⟨pw, w.params⟩ s 1 := fun K H gd lv p => ⟨1, p, Nat.le_refl _, rfl⟩
theorem sr_fresh : SR w fresh s s.toks { s with toks := s.toks + 1 } 1 := fun K H gd lv p => ⟨1, p, Nat.le_refl _, rfl⟩
theorem sr_alloc {o : Obj} : SR w (alloc o) s s.heap.objs.size { s with heap := s.heap.push o } 1 := fun K H gd lv p => ⟨1, p, Nat.le_refl _, rfl⟩
theorem sr_loadPart {d : Addr} {q : Option Value} {o : Obj} (ho : s.heap.get? d = some o) : SR w (loadPart d q) s o s 1 := fun K H gd lv p => by
  refine ⟨1, p, Nat.le_refl _, ?_⟩
  obtain ⟨heap, gens, drawn, toks, os⟩ := s
  have ho' : heap.get? d = some o := ho
  show (match step (denote treeTable) pw w ⟨heap, gens, drawn, toks, os⟩ ⟨.load d q fun x => K x, cT, p, [topFrame posZ]⟩ with | .go s' t' => some (s', t') | .halt _ _ => none) = _
  simp only [step, ho']
theorem sr_updatePart {d : Addr} {q : Option Value} {f : Obj → Obj} {o : Obj} (ho : s.heap.get? d = some o) (hd : 11 ≤ d) : SR w (updatePart d q f) s () { s with heap := s.heap.update d f } 1 := fun K H gd lv p => by
  refine ⟨1, p, Nat.le_refl _, ?_⟩
  obtain ⟨heap, gens, drawn, toks, os⟩ := s
  have ho' : heap.get? d = some o := ho
  have hk : stepOk 11 (some (.ref 6)) ⟨.update d q f fun x => K x, cT, p, [topFrame posZ]⟩ = true := by
    show (_ && (Nat.ble 11 d || d == mainNs || d == cStatics || _)) = true
    rw [Nat.ble_eq_true_of_le hd]; rfl
  show (match stepOk 11 (some (.ref 6)) ⟨.update d q f fun x => K x, cT, p, [topFrame posZ]⟩ with
    | false => none
    | true => match step (denote treeTable) pw w ⟨heap, gens, drawn, toks, os⟩ ⟨.update d q f fun x => K x, cT, p, [topFrame posZ]⟩ with | .go s' t' => some (s', t') | .halt _ _ => none) = _
  rw [hk]
  simp only [step, ho', Option.isSome_some, if_true]
end
theorem reduced_is (i : Int) : pyHashByItsType.reduced (rawHash i) = pure (hashInt i) := by
  have hr := rawHash_range i
  unfold pyHashByItsType.reduced
  rw [if_pos (by rw [decide_eq_true hr.1, decide_eq_true hr.2]; rfl)]
  rfl
theorem hash_run (w : World) : ∀ (h : Heap) (g : Array GenState) (d : Drawn) (k : Nat) (os : OsState) (i : Int) (t : Tok) (K : Int → Sem Fin) (H : Value → Sem Fin) (gd : Bool → Bool) (lv : List Value → List Value) (p : Pos),
    segGo treeTable pw w 11 (some (.ref 6)) 1 5 ⟨h, g, d, k, os⟩ ⟨(pyHash (.int i t)).wrap K H gd lv, cT, p, [topFrame posZ]⟩ =
      some (⟨h, g, d, k + 1, os⟩, ⟨(pyHashByItsType.reduced (rawHash i)).wrap K H gd lv, cT, p, [topFrame posZ]⟩) := by
  refine byRow2 "special-get-raises" (P := fun w => ∀ (h : Heap) (g : Array GenState) (d : Drawn) (k : Nat) (os : OsState) (i : Int) (t : Tok) (K : Int → Sem Fin) (H : Value → Sem Fin) (gd : Bool → Bool) (lv : List Value → List Value) (p : Pos),
    segGo treeTable pw w 11 (some (.ref 6)) 1 5 ⟨h, g, d, k, os⟩ ⟨(pyHash (.int i t)).wrap K H gd lv, cT, p, [topFrame posZ]⟩ =
      some (⟨h, g, d, k + 1, os⟩, ⟨(pyHashByItsType.reduced (rawHash i)).wrap K H gd lv, cT, p, [topFrame posZ]⟩)) (fun w h g d k os i t K H gd lv p => ?_) (fun w h g d k os i t K H gd lv p => ?_) w
  · kernel_rfl
  · kernel_rfl
theorem sr_pyHash {w : World} {s : Shared} {i : Int} {t : Tok} : SR w (pyHash (.int i t)) s (hashInt i) { s with toks := s.toks + 1 } 5 := fun K H gd lv p => by
  obtain ⟨heap, gens, drawn, toks, os⟩ := s
  refine ⟨5, p, Nat.le_refl _, ?_⟩
  rw [hash_run w, reduced_is]
  rfl

theorem sr_forIn_nil {w : World} {α β : Type} {s : Shared} {b : β} {f : α → β → Sem (ForInStep β)} : SR w (forIn ([] : List α) b f) s b s 0 := sr_pure
theorem sr_forIn_cons {w : World} {α β : Type} {s s1 s2 : Shared} {x : α} {xs : List α} {b b' r : β} {f : α → β → Sem (ForInStep β)} {n1 n2 : Nat}
    (h1 : SR w (f x b) s (.yield b') s1 n1) (h2 : SR w (forIn xs b' f) s1 r s2 n2) : SR w (forIn (x :: xs) b f) s r s2 (n1 + n2) := by
  rw [List.forIn_cons]
  exact sr_bind h1 h2

/-- heaps written as a list of objects -/
noncomputable def hp (l : List Obj) : Heap := ⟨l.toArray, {}⟩
noncomputable def dO (es : List DictEntry) (ep : Nat) : Obj := ⟨.type "dict", none, .dict es.toArray ep, #[]⟩
theorem hp_get {A B : List Obj} {es : List DictEntry} {ep : Nat} : (hp (A ++ dO es ep :: B)).get? A.length = some (dO es ep) := by
  unfold Heap.get? hp
  rw [List.getElem?_toArray, List.getElem?_append_right (Nat.le_refl _), Nat.sub_self]
  rfl
theorem hp_push {l : List Obj} {o : Obj} : (hp l).push o = hp (l ++ [o]) := by
  show Heap.mk _ _ = Heap.mk _ _
  rw [List.push_toArray]
theorem hp_size {l : List Obj} : (hp l).objs.size = l.length := by unfold hp; exact List.size_toArray
theorem hp_upd {A B : List Obj} {es : List DictEntry} {ep : Nat} {e : DictEntry} : (hp (A ++ dO es ep :: B)).update A.length (Obj.mapDictKeys (·.push e)) = hp (A ++ dO (es ++ [e]) (ep + 1) :: B) := by
  show Heap.mk _ _ = Heap.mk _ _
  congr 1
  apply Array.ext_getElem?
  intro i
  rw [Array.getElem?_modify]
  simp only [List.getElem?_toArray]
  by_cases h : A.length = i
  · subst h
    rw [if_pos rfl, List.getElem?_append_right (Nat.le_refl _), List.getElem?_append_right (Nat.le_refl _), Nat.sub_self]
    show some (Obj.mapDictKeys _ (dO es ep)) = some (dO (es ++ [e]) (ep + 1))
    unfold Obj.mapDictKeys dO
    simp
  · rw [if_neg h]
    rcases Nat.lt_or_ge i A.length with q | q
    · rw [List.getElem?_append_left q, List.getElem?_append_left q]
    · rw [List.getElem?_append_right q, List.getElem?_append_right q]
      obtain ⟨k, hk⟩ : ∃ k, i - A.length = k + 1 := ⟨i - A.length - 1, by omega⟩
      rw [hk]; rfl

/-- a key that no entry's hash meets -/
noncomputable def NoH (es : List DictEntry) (h : Int) : Prop := ∀ e ∈ es, e.hash ≠ h
theorem places_nil {es : List DictEntry} {h : Int} (n : NoH es h) : placesWithHash es.toArray.size (fun i => es.toArray[i]?.map (·.hash)) h = [] := by
  unfold placesWithHash
  rw [List.filter_eq_nil_iff]
  intro i _
  dsimp only
  rw [List.getElem?_toArray]
  cases q : es[i]? with
  | none => simp
  | some e =>
    have := n e (List.mem_of_getElem? q)
    simpa using this
section
variable {w : World} {A B : List Obj} {es : List DictEntry} {ep : Nat} {g : Array GenState} {d : Drawn} {k : Nat} {os : OsState}
theorem sr_find {i : Int} {t : Tok} {h : Int} (n : NoH es h) : SR w (dictFind A.length (.int i t) h) ⟨hp (A ++ dO es ep :: B), g, d, k, os⟩ none ⟨hp (A ++ dO es ep :: B), g, d, k, os⟩ 1 := by
  unfold dictFind
  refine sr_holding ?_
  refine sr_le (sr_bind (b2 := 0) (sr_bind (b2 := 0) (sr_loadPart hp_get) sr_pure) ?_) (by omega)
  show SR w (if (Value.int i t :: (placesWithHash es.toArray.size (fun i => es.toArray[i]?.map (·.hash)) h).filterMap fun i => es.toArray[i]?.map (·.key)).all carriedByValue then _ else _) _ _ _ _
  rw [places_nil n]
  exact sr_pure
theorem sr_pushKey {q : Option Value} {e : DictEntry} (hA : 11 ≤ A.length) (hz : es.length ≤ 1000) : SR w (updateDictKeys A.length (·.push e) q) ⟨hp (A ++ dO es ep :: B), g, d, k, os⟩ () ⟨hp (A ++ dO (es ++ [e]) (ep + 1) :: B), g, d, k, os⟩ 3 := by
  unfold updateDictKeys
  refine sr_le (sr_bind (b1 := 1) (b2 := 2) (sr_loadPart hp_get) ?_) (by omega)
  show SR w (do PySem.updatePart A.length q (Obj.mapDictKeys (·.push e)); lookBehind A.length q) _ _ _ _
  refine sr_le (sr_bind (b1 := 1) (b2 := 1) (sr_updatePart hp_get hA) ?_) (by omega)
  rw [show (⟨hp (A ++ dO es ep :: B), g, d, k, os⟩ : Shared).heap.update A.length (Obj.mapDictKeys (·.push e)) = hp (A ++ dO (es ++ [e]) (ep + 1) :: B) from hp_upd]
  unfold lookBehind
  refine sr_le (sr_bind (b1 := 1) (b2 := 0) (sr_loadPart hp_get) ?_) (by omega)
  have hp0 : (dO (es ++ [e]) (ep + 1)).data.pastItsLine = none := pastItsLine_dict (by
    rw [List.size_toArray, List.length_append]
    rw [sizeLine_eq]; simp; omega)
  rw [hp0]
  exact sr_pure
theorem sr_set {i : Int} {t : Tok} {v : Value} (n : NoH es (hashInt i)) (hA : 11 ≤ A.length) (hz : es.length ≤ 1000) :
    SR w (dictSet A.length (.int i t) v) ⟨hp (A ++ dO es ep :: B), g, d, k, os⟩ () ⟨hp (A ++ dO (es ++ [⟨hashInt i, .int i t, v⟩]) (ep + 1) :: B), g, d, k + 1, os⟩ 10 := by
  unfold dictSet
  refine sr_holding ?_
  refine sr_le (sr_bind (b1 := 5) (b2 := 5) sr_pyHash ?_) (by omega)
  unfold dictSetHashed
  refine sr_holding ?_
  refine sr_le (sr_bind (b1 := 1) (b2 := 4) (sr_find n) ?_) (by omega)
  exact sr_le (sr_bind (b1 := 1) (b2 := 3) sr_rule (sr_pushKey hA hz)) (by omega)
theorem sr_put {i : Int} {t : Tok} {h : Int} {v : Value} (n : NoH es h) (hA : 11 ≤ A.length) (hz : es.length ≤ 1000) :
    SR w (dictPut A.length h (.int i t) v) ⟨hp (A ++ dO es ep :: B), g, d, k, os⟩ () ⟨hp (A ++ dO (es ++ [⟨h, .int i t, v⟩]) (ep + 1) :: B), g, d, k, os⟩ 4 := by
  unfold dictPut
  refine sr_le (sr_bind (b1 := 1) (b2 := 3) (sr_find n) ?_) (by omega)
  exact sr_pushKey hA hz
end

noncomputable def prItem (q : Pos) (r : Int × Str) : Sem Value × Sem Value := (mkInt r.1, do let v ← mkText r.2; PySem.standAt q; pure v)
noncomputable def entsH (st : Nat) : Nat → List (Int × Str) → List DictEntry
  | _, [] => []
  | t, (i, x) :: r => ⟨hashInt i, .int i t, .str x (t + 1)⟩ :: entsH st (t + st) r
theorem entsH_len (st : Nat) : ∀ (t : Nat) (rs : List (Int × Str)), (entsH st t rs).length = rs.length
  | _, [] => rfl
  | t, (i, x) :: r => by show _ + 1 = _ + 1; rw [entsH_len st (t + st) r]
theorem entsH_hash {st : Nat} : ∀ {t : Nat} {rs : List (Int × Str)} {e : DictEntry}, e ∈ entsH st t rs → ∃ r ∈ rs, e.hash = hashInt r.1
  | t, [], e, h => by cases h
  | t, (i, x) :: r, e, h => by
    rcases List.mem_cons.mp h with rfl | h
    · exact ⟨(i, x), .head _, rfl⟩
    · obtain ⟨q, hq, e'⟩ := entsH_hash h
      exact ⟨q, .tail _ hq, e'⟩
/-- keys that none of the entries bears, and no two of them alike -/
noncomputable def Fresh (es : List DictEntry) (rs : List (Int × Str)) : Prop := (∀ r ∈ rs, NoH es (hashInt r.1)) ∧ rs.Pairwise (fun a b => hashInt a.1 ≠ hashInt b.1)
theorem Fresh.tail {es : List DictEntry} {r : Int × Str} {rs : List (Int × Str)} {e : DictEntry} (h : Fresh es (r :: rs)) (he : e.hash = hashInt r.1) : Fresh (es ++ [e]) rs := by
  refine ⟨fun q hq x hx => ?_, (List.pairwise_cons.mp h.2).2⟩
  rcases List.mem_append.mp hx with hx | hx
  · exact h.1 q (.tail _ hq) x hx
  · obtain rfl : x = e := by simpa using hx
    rw [he]
    exact (List.pairwise_cons.mp h.2).1 q hq
section
variable {w : World} {A B : List Obj} {g : Array GenState} {d : Drawn} {os : OsState} {q : Pos}
theorem sr_mkInt {s : Shared} {i : Int} : SR w (mkInt i) s (.int i s.toks) { s with toks := s.toks + 1 } 1 := sr_bind (b2 := 0) sr_fresh sr_pure
theorem sr_mkText {s : Shared} {x : Str} : SR w (mkText x) s (.str x s.toks) { s with toks := s.toks + 1 } 1 := sr_bind (b2 := 0) sr_fresh sr_pure
theorem sr_value {s : Shared} {x : Str} : SR w (do let v ← PySem.mkText x; PySem.standAt q; pure v) s (.str x s.toks) { s with toks := s.toks + 1 } 2 :=
  sr_bind (b1 := 1) (b2 := 1) sr_mkText (sr_bind (b1 := 1) (b2 := 0) sr_standAt sr_pure)
theorem sr_subLoop (hA : 11 ≤ A.length) {f : Sem Value × Sem Value → PUnit → Sem (ForInStep PUnit)}
    (hf : ∀ i x es ep k, NoH es (hashInt i) → es.length ≤ 1000 →
      SR w (f (prItem q (i, x)) PUnit.unit) ⟨hp (A ++ dO es ep :: B), g, d, k, os⟩ (.yield PUnit.unit) ⟨hp (A ++ dO (es ++ [⟨hashInt i, .int i k, .str x (k + 1)⟩]) (ep + 1) :: B), g, d, k + 3, os⟩ 13) :
    ∀ (rs : List (Int × Str)) (es : List DictEntry) (ep k : Nat), Fresh es rs → es.length + rs.length ≤ 1000 →
    SR w (forIn (rs.map (prItem q)) PUnit.unit f) ⟨hp (A ++ dO es ep :: B), g, d, k, os⟩ PUnit.unit ⟨hp (A ++ dO (es ++ entsH 3 k rs) (ep + rs.length) :: B), g, d, k + 3 * rs.length, os⟩ (13 * rs.length)
  | [], es, ep, k, _, _ => by
    simp only [List.map_nil, entsH, List.append_nil, List.length_nil, Nat.mul_zero, Nat.add_zero]
    exact sr_forIn_nil
  | (i, x) :: rs, es, ep, k, hF, hz => by
    have ih := sr_subLoop hA hf rs (es ++ [⟨hashInt i, .int i k, .str x (k + 1)⟩]) (ep + 1) (k + 3) (hF.tail rfl) (by simp only [List.length_append, List.length_cons, List.length_nil] at hz ⊢; omega)
    rw [List.append_assoc] at ih
    rw [List.map_cons]
    have e1 : 13 * ((i, x) :: rs).length = 13 + 13 * rs.length := by rw [List.length_cons]; omega
    have e2 : k + 3 * ((i, x) :: rs).length = k + 3 + 3 * rs.length := by rw [List.length_cons]; omega
    have e3 : ep + ((i, x) :: rs).length = ep + 1 + rs.length := by rw [List.length_cons]; omega
    rw [e1, e2, e3]
    refine sr_forIn_cons (n1 := 13) (b' := PUnit.unit) (s1 := ⟨hp (A ++ dO (es ++ [⟨hashInt i, .int i k, .str x (k + 1)⟩]) (ep + 1) :: B), g, d, k + 3, os⟩) ?_ ih
    exact hf i x es ep k (hF.1 _ (.head _)) (by simp only [List.length_cons] at hz; omega)
theorem sr_pairs : ∀ (rs : List (Int × Str)) (s : Shared), SR w (evalPairs (rs.map (prItem q))) s ((entsH 2 s.toks rs).map fun e => (e.key, e.val)) { s with toks := s.toks + 2 * rs.length } (3 * rs.length)
  | [], s => sr_pure
  | (i, x) :: rs, s => by
    have ih := sr_pairs rs { s with toks := s.toks + 1 + 1 }
    rw [List.map_cons]
    have e1 : 3 * ((i, x) :: rs).length = 1 + (2 + 3 * rs.length) := by rw [List.length_cons]; omega
    rw [e1]
    unfold prItem at ih ⊢
    rw [evalPairs]
    refine sr_bind sr_mkInt ?_
    refine sr_bind (sr_holding sr_value) ?_
    refine sr_le (sr_bind (b2 := 0) (sr_holding ih) ?_) (Nat.le_refl _)
    have e2 : s.toks + 2 * ((i, x) :: rs).length = s.toks + 1 + 1 + 2 * rs.length := by rw [List.length_cons]; omega
    rw [e2]
    exact sr_pure
theorem sr_setLoop (hA : 11 ≤ A.length) {f : Value × Value → PUnit → Sem (ForInStep PUnit)}
    (hf : ∀ r u, f r u = (do dictSet A.length r.1 r.2; pure (ForInStep.yield PUnit.unit))) :
    ∀ (rs : List (Int × Str)) (t : Nat) (es : List DictEntry) (ep k : Nat), Fresh es rs → es.length + rs.length ≤ 1000 →
    SR w (forIn ((entsH 2 t rs).map fun e => (e.key, e.val)) PUnit.unit f) ⟨hp (A ++ dO es ep :: B), g, d, k, os⟩ PUnit.unit ⟨hp (A ++ dO (es ++ entsH 2 t rs) (ep + rs.length) :: B), g, d, k + rs.length, os⟩ (10 * rs.length)
  | [], t, es, ep, k, _, _ => by
    simp only [List.map_nil, entsH, List.append_nil, List.length_nil, Nat.mul_zero, Nat.add_zero]
    exact sr_forIn_nil
  | (i, x) :: rs, t, es, ep, k, hF, hz => by
    have ih := sr_setLoop hA hf rs (t + 2) (es ++ [⟨hashInt i, .int i t, .str x (t + 1)⟩]) (ep + 1) (k + 1) (hF.tail rfl) (by simp only [List.length_append, List.length_cons, List.length_nil] at hz ⊢; omega)
    rw [List.append_assoc] at ih
    have e1 : 10 * ((i, x) :: rs).length = 10 + 10 * rs.length := by rw [List.length_cons]; omega
    have e2 : k + ((i, x) :: rs).length = k + 1 + rs.length := by rw [List.length_cons]; omega
    have e3 : ep + ((i, x) :: rs).length = ep + 1 + rs.length := by rw [List.length_cons]; omega
    rw [e1, e2, e3]
    show SR w (forIn ((Value.int i t, Value.str x (t + 1)) :: (entsH 2 (t + 2) rs).map fun e => (e.key, e.val)) PUnit.unit f) _ _ _ _
    refine sr_forIn_cons (n1 := 10) (b' := PUnit.unit) (s1 := ⟨hp (A ++ dO (es ++ [⟨hashInt i, .int i t, .str x (t + 1)⟩]) (ep + 1) :: B), g, d, k + 1, os⟩) ?_ ih
    rw [hf]
    exact sr_le (sr_bind (b1 := 10) (b2 := 0) (sr_set (hF.1 _ (.head _)) hA (by simp only [List.length_cons] at hz; omega)) sr_pure) (by omega)
theorem sr_subLong {l : List Obj} (hl : 11 ≤ l.length) (rs : List (Int × Str)) (k : Nat) (hF : Fresh [] rs) (hn : 15 < rs.length) (hz : rs.length ≤ 1000) :
    SR w (subDict (rs.map (prItem q))) ⟨hp l, g, d, k, os⟩ l.length ⟨hp (l ++ [dO (entsH 3 k rs) rs.length]), g, d, k + 3 * rs.length, os⟩ (2 + 13 * rs.length) := by
  unfold subDict
  have ha : SR w (PySem.alloc { cls := .type "dict", data := .dict #[] }) ⟨hp l, g, d, k, os⟩ l.length ⟨hp (l ++ dO [] 0 :: []), g, d, k, os⟩ 1 := by
    have := sr_alloc (w := w) (s := ⟨hp l, g, d, k, os⟩) (o := { cls := .type "dict", data := .dict #[] })
    rw [show (⟨hp l, g, d, k, os⟩ : Shared).heap.objs.size = l.length from hp_size, show (⟨hp l, g, d, k, os⟩ : Shared).heap.push { cls := .type "dict", data := .dict #[] } = hp (l ++ dO [] 0 :: []) from hp_push] at this
    exact this
  refine sr_le (sr_bind (b1 := 1) (b2 := 1 + 13 * rs.length) ha ?_) (by omega)
  refine sr_le (sr_bind (b1 := 1 + 13 * rs.length) (b2 := 0) (a := ()) (s1 := ⟨hp (l ++ [dO (entsH 3 k rs) rs.length]), g, d, k + 3 * rs.length, os⟩) (sr_holding ?_) sr_pure) (by omega)
  rw [if_neg (by rw [List.length_map]; omega)]
  refine sr_bind (b1 := 1) (b2 := 13 * rs.length) sr_rule ?_
  have e0 := fun f hf => sr_subLoop (w := w) (A := l) (B := []) (g := g) (d := d) (os := os) (q := q) hl (f := f) hf rs [] 0 k hF (by simpa using hz)
  rw [List.nil_append, Nat.zero_add] at e0
  refine sr_le (sr_bind (b2 := 0) (e0 _ fun i x es ep k hn hz => ?_) sr_pure) (Nat.le_refl _)
  dsimp only [prItem]
  refine sr_le (sr_bind (b1 := 1) (b2 := 12) sr_mkInt ?_) (by omega)
  refine sr_le (sr_bind (b1 := 2) (b2 := 10) (sr_holding sr_value) ?_) (by omega)
  exact sr_le (sr_bind (b1 := 10) (b2 := 0) (sr_holding (sr_set hn hl hz)) sr_pure) (by omega)
theorem sr_subShort {l : List Obj} (hl : 11 ≤ l.length) (rs : List (Int × Str)) (k : Nat) (hF : Fresh [] rs) (hn : rs.length ≤ 15) :
    SR w (subDict (rs.map (prItem q))) ⟨hp l, g, d, k, os⟩ l.length ⟨hp (l ++ [dO (entsH 2 k rs) rs.length]), g, d, k + 3 * rs.length, os⟩ (2 + 13 * rs.length) := by
  unfold subDict
  have ha : SR w (PySem.alloc { cls := .type "dict", data := .dict #[] }) ⟨hp l, g, d, k, os⟩ l.length ⟨hp (l ++ dO [] 0 :: []), g, d, k, os⟩ 1 := by
    have := sr_alloc (w := w) (s := ⟨hp l, g, d, k, os⟩) (o := { cls := .type "dict", data := .dict #[] })
    rw [show (⟨hp l, g, d, k, os⟩ : Shared).heap.objs.size = l.length from hp_size, show (⟨hp l, g, d, k, os⟩ : Shared).heap.push { cls := .type "dict", data := .dict #[] } = hp (l ++ dO [] 0 :: []) from hp_push] at this
    exact this
  refine sr_le (sr_bind (b1 := 1) (b2 := 1 + 13 * rs.length) ha ?_) (by omega)
  refine sr_le (sr_bind (b1 := 1 + 13 * rs.length) (b2 := 0) (a := ()) (s1 := ⟨hp (l ++ [dO (entsH 2 k rs) rs.length]), g, d, k + 3 * rs.length, os⟩) (sr_holding ?_) sr_pure) (by omega)
  rw [if_pos (by rw [List.length_map]; omega)]
  refine sr_le (sr_bind (b1 := 3 * rs.length) (b2 := 10 * rs.length) (sr_pairs rs _) (sr_holding ?_)) (by omega)
  have e0 := fun f hf => sr_setLoop (w := w) (A := l) (B := []) (g := g) (d := d) (os := os) hl (f := f) hf rs k [] 0 (k + 2 * rs.length) hF (by simp; omega)
  rw [List.nil_append, Nat.zero_add, show k + 2 * rs.length + rs.length = k + 3 * rs.length by omega] at e0
  exact sr_le (sr_bind (b2 := 0) (e0 _ fun _ _ => rfl) sr_pure) (Nat.le_refl _)
end

section
variable {w : World} {g : Array GenState} {d : Drawn} {os : OsState} {q : Pos}
theorem hp_get' {A B C : List Obj} {es : List DictEntry} {ep : Nat} {o : Obj} : (hp (A ++ o :: B ++ dO es ep :: C)).get? (A.length + 1 + B.length) = some (dO es ep) := by
  have := @hp_get (A ++ o :: B) C es ep
  rw [List.length_append, List.length_cons, ← Nat.add_assoc, Nat.add_right_comm] at this
  exact this
theorem isDict_run (s : Shared) (a : Addr) (es : List DictEntry) (ep : Nat) (h : s.heap.get? a = some (dO es ep)) : SR w (isInstance (.ref a) (.type "dict")) s true s 1 := by
  unfold isInstance
  refine sr_le (sr_bind (b1 := 1) (b2 := 0) (a := .type "dict") (s1 := s) (sr_bind (b2 := 0) (sr_loadPart h) sr_pure) ?_) (by omega)
  rw [show isSubtype (.type "dict") (.type "dict") = pure true by with_unfolding_all kernel_rfl]
  exact sr_pure
theorem iter_run (s : Shared) (a : Addr) (es : List DictEntry) (ep : Nat) (h : s.heap.get? a = some (dO es ep)) : SR w (specialOf (.ref a) "__iter__") s (some (.builtin "dict.__iter__")) s 1 := by
  unfold specialOf
  refine sr_le (sr_bind (b1 := 1) (b2 := 0) (a := .type "dict") (s1 := s) (sr_bind (b2 := 0) (sr_loadPart h) sr_pure) ?_) (by omega)
  rw [show typeLookup (.type "dict") "__iter__" = pure (some (.builtin "dict.__iter__")) by with_unfolding_all kernel_rfl]
  exact sr_pure
/-- the entries of a dict of ints as keys -/
noncomputable def IntE (e : DictEntry) : Prop := ∃ i t, e.key = .int i t
theorem entsH_int {st : Nat} : ∀ {t : Nat} {rs : List (Int × Str)} {e : DictEntry}, e ∈ entsH st t rs → IntE e
  | t, [], e, h => by cases h
  | t, (i, x) :: r, e, h => by
    rcases List.mem_cons.mp h with rfl | h
    · exact ⟨i, t, rfl⟩
    · exact entsH_int h
/-- no two of the entries of one hash, nor one with those that stand -/
noncomputable def FreshE (es : List DictEntry) (ns : List DictEntry) : Prop := (∀ r ∈ ns, NoH es r.hash) ∧ ns.Pairwise (fun a b => a.hash ≠ b.hash)
theorem FreshE.tail {es : List DictEntry} {r : DictEntry} {rs : List DictEntry} (h : FreshE es (r :: rs)) : FreshE (es ++ [r]) rs := by
  refine ⟨fun q hq x hx => ?_, (List.pairwise_cons.mp h.2).2⟩
  rcases List.mem_append.mp hx with hx | hx
  · exact h.1 q (.tail _ hq) x hx
  · obtain rfl : x = r := by simpa using hx
    exact (List.pairwise_cons.mp h.2).1 q hq
theorem sr_mergeLoop {A B C : List Obj} {epS : Nat} {ns : List DictEntry} {f : Nat → PUnit → Sem (ForInStep PUnit)}
    (hf : ∀ i es ep k e, ns[i]? = some e → NoH es e.hash → es.length ≤ 1000 →
      SR w (f i PUnit.unit) ⟨hp (A ++ dO es ep :: B ++ dO ns epS :: C), g, d, k, os⟩ (.yield PUnit.unit) ⟨hp (A ++ dO (es ++ [e]) (ep + 1) :: B ++ dO ns epS :: C), g, d, k, os⟩ 6) :
    ∀ (m i : Nat) (es : List DictEntry) (ep k : Nat), i + m = ns.length → FreshE es (ns.drop i) → es.length + m ≤ 1000 →
    SR w (forIn (List.range' i m) PUnit.unit f) ⟨hp (A ++ dO es ep :: B ++ dO ns epS :: C), g, d, k, os⟩ PUnit.unit ⟨hp (A ++ dO (es ++ ns.drop i) (ep + m) :: B ++ dO ns epS :: C), g, d, k, os⟩ (6 * m)
  | 0, i, es, ep, k, hm, hF, hz => by
    rw [List.drop_eq_nil_of_le (by omega), List.append_nil]
    exact sr_forIn_nil
  | m + 1, i, es, ep, k, hm, hF, hz => by
    have hi : i < ns.length := by omega
    have hdrop : ns.drop i = ns[i] :: ns.drop (i + 1) := List.drop_eq_getElem_cons hi
    rw [hdrop] at hF
    have ih := sr_mergeLoop (C := C) hf (k := k) m (i + 1) (es ++ [ns[i]]) (ep + 1) (by omega) hF.tail (by simp only [List.length_append, List.length_cons, List.length_nil]; omega)
    have e4 : es ++ [ns[i]] ++ ns.drop (i + 1) = es ++ ns.drop i := by rw [List.append_assoc, List.singleton_append, ← hdrop]
    rw [e4] at ih
    rw [show 6 * (m + 1) = 6 + 6 * m by omega, show ep + (m + 1) = ep + 1 + m by omega, List.range'_succ]
    refine sr_forIn_cons (n1 := 6) (b' := PUnit.unit) (s1 := ⟨hp (A ++ dO (es ++ [ns[i]]) (ep + 1) :: B ++ dO ns epS :: C), g, d, k, os⟩) ?_ ih
    exact hf i es ep k _ (List.getElem?_eq_getElem hi) (hF.1 _ (.head _)) (by omega)
theorem sr_merge {A B : List Obj} {n epS : Nat} {ns es : List DictEntry} {ep k : Nat} (hA : 11 ≤ A.length) (hn : n = A.length + 1 + B.length) (hI : ∀ e ∈ ns, IntE e) (he : es ≠ []) (hF : FreshE es ns) (hz : es.length + ns.length ≤ 1000) :
    SR w (mergeMapping A.length (.ref n) false) ⟨hp (A ++ dO es ep :: B ++ [dO ns epS]), g, d, k, os⟩ () ⟨hp (A ++ dO (es ++ ns) (ep + ns.length) :: B ++ [dO ns epS]), g, d, k, os⟩ (5 + 6 * ns.length) := by
  have hg : (⟨hp (A ++ dO es ep :: B ++ [dO ns epS]), g, d, k, os⟩ : Shared).heap.get? n = some (dO ns epS) := by rw [hn]; exact hp_get'
  have hm : (⟨hp (A ++ dO es ep :: B ++ [dO ns epS]), g, d, k, os⟩ : Shared).heap.get? A.length = some (dO es ep) := by
    show (hp (A ++ dO es ep :: B ++ [dO ns epS])).get? A.length = _
    rw [List.append_assoc, List.cons_append]; exact hp_get
  unfold mergeMapping
  refine sr_le (sr_bind (b1 := 1) (b2 := 4 + 6 * ns.length) (isDict_run _ n ns epS hg) ?_) (by omega)
  rw [if_pos rfl]
  refine sr_le (sr_bind (b1 := 1) (b2 := 3 + 6 * ns.length) (iter_run _ n ns epS hg) ?_) (by omega)
  refine sr_le (sr_bind (b1 := 0) (b2 := 3 + 6 * ns.length) sr_pure ?_) (by omega)
  rw [show (some (Value.builtin "dict.__iter__") == some (Value.builtin "dict.__iter__")) = true from by decide +kernel]
  · dsimp only
    have hsys : (n == sysModules) = false := beq_eq_false_iff_ne.mpr (by show n ≠ 1; omega)
    rw [hsys]
    refine sr_le (sr_bind (b1 := 1) (b2 := 2 + 6 * ns.length) (a := es.toArray) (sr_bind (b1 := 1) (b2 := 0) (sr_loadPart hm) sr_pure) ?_) (by omega)
    have hne : es.toArray.isEmpty = false := by
      cases es with
      | nil => exact absurd rfl he
      | cons a r => rfl
    rw [hne]
    refine sr_le (sr_bind (b1 := 1) (b2 := 1 + 6 * ns.length) (a := ns.toArray) (sr_bind (b1 := 1) (b2 := 0) (sr_loadPart hg) sr_pure) ?_) (by omega)
    refine sr_le (sr_bind (b1 := 1) (b2 := 6 * ns.length) (a := epS) (sr_bind (b1 := 1) (b2 := 0) (sr_loadPart hg) sr_pure) ?_) (by omega)
    have e0 := fun f hf => sr_mergeLoop (w := w) (A := A) (B := B) (C := []) (g := g) (d := d) (os := os) (epS := epS) (ns := ns) (f := f) hf ns.length 0 es ep k (by omega) (by simpa using hF) hz
    rw [List.drop_zero] at e0
    rw [List.size_toArray, List.range_eq_range']
    refine sr_le (sr_bind (b2 := 0) (e0 _ fun i es ep k e hi hx hz => ?_) sr_pure) (Nat.le_refl _)
    have hg : ∀ es ep, (⟨hp (A ++ dO es ep :: B ++ dO ns epS :: []), g, d, k, os⟩ : Shared).heap.get? n = some (dO ns epS) := fun es ep => by rw [hn]; exact hp_get'
    refine sr_le (sr_bind (b1 := 1) (b2 := 5) (a := ns.toArray) (sr_bind (b1 := 1) (b2 := 0) (sr_loadPart (hg _ _)) sr_pure) ?_) (by omega)
    have e1 : ns.toArray[i]? = some e := by rw [List.getElem?_toArray]; exact hi
    obtain ⟨j, t, hj⟩ := hI e (List.mem_of_getElem? hi)
    rw [e1]
    refine sr_le (sr_bind (b1 := 4) (b2 := 1) (a := ()) (s1 := ⟨hp (A ++ dO (es ++ [e]) (ep + 1) :: B ++ dO ns epS :: []), g, d, k, os⟩) (sr_holding ?_) ?_) (by omega)
    · have := sr_put (w := w) (A := A) (B := B ++ dO ns epS :: []) (es := es) (ep := ep) (g := g) (d := d) (k := k) (os := os) (i := j) (t := t) (h := e.hash) (v := e.val) hx hA hz
      rw [← hj] at this
      rw [if_neg Bool.false_ne_true]
      simp only [List.append_assoc, List.cons_append] at this ⊢
      exact this
    · refine sr_le (sr_bind (b1 := 1) (b2 := 0) (a := epS) (sr_bind (b1 := 1) (b2 := 0) (sr_loadPart (hg _ _)) sr_pure) ?_) (by omega)
      rw [if_neg (by simp)]
      exact sr_pure
end

noncomputable abbrev DSt := Option (List DictEntry) × List Obj × Nat
noncomputable def entsX (k : Nat) (rs : List (Int × Str)) : List DictEntry := if rs.length ≤ 15 then entsH 2 k rs else entsH 3 k rs
noncomputable def flushS (rs : List (Int × Str)) : DSt → DSt
  | (none, subs, k) => (some (entsX k rs), subs, k + 3 * rs.length)
  | (some es, subs, k) => (some (es ++ entsX k rs), subs ++ [dO (entsX k rs) rs.length], k + 3 * rs.length)
noncomputable def esOf (st : DSt) : List DictEntry := st.1.getD []
noncomputable def heapOf (L : List Obj) (st : DSt) : Heap := match st.1 with
  | none => hp L
  | some es => hp (L ++ dO es es.length :: st.2.1)
noncomputable def mainOf (L : List Obj) (st : DSt) : Option Addr := st.1.map fun _ => L.length
noncomputable def simD : List (Int × Str) → List (Int × Str) → DSt → List (Int × Str) × DSt
  | [], rs, st => (rs, st)
  | p :: ps, rs, st => if rs.length + 1 = 17 then simD ps [] (flushS (rs ++ [p]) st) else simD ps (rs ++ [p]) st
theorem entsX_len {k : Nat} {rs : List (Int × Str)} : (entsX k rs).length = rs.length := by unfold entsX; split <;> exact entsH_len _ _ _
theorem entsH_map (st : Nat) : ∀ (t : Nat) (rs : List (Int × Str)), (entsH st t rs).map (·.hash) = rs.map fun r => hashInt r.1
  | _, [] => rfl
  | t, (i, x) :: r => by show _ :: _ = _ :: _; rw [entsH_map st (t + st) r]
theorem entsX_map {k : Nat} {rs : List (Int × Str)} : (entsX k rs).map (·.hash) = rs.map fun r => hashInt r.1 := by unfold entsX; split <;> exact entsH_map _ _ _
theorem entsX_int {k : Nat} {rs : List (Int × Str)} : ∀ e ∈ entsX k rs, IntE e := by unfold entsX; split <;> exact fun e h => entsH_int h
theorem fresh_of {rs : List (Int × Str)} (h : (rs.map fun r => hashInt r.1).Nodup) : Fresh [] rs := ⟨fun r _ e he => (by cases he), List.pairwise_map.mp h⟩
theorem freshE_of {es ns : List DictEntry} (h : (es.map (·.hash) ++ ns.map (·.hash)).Nodup) : FreshE es ns := by
  obtain ⟨h1, h2, h3⟩ := List.nodup_append.mp h
  refine ⟨fun r hr e he q => ?_, List.pairwise_map.mp h2⟩
  exact h3 _ (List.mem_map_of_mem he) _ (List.mem_map_of_mem hr) q
section
variable {w : World} {g : Array GenState} {d : Drawn} {os : OsState} {q : Pos}
theorem sr_sub {l : List Obj} (hl : 11 ≤ l.length) (rs : List (Int × Str)) (k : Nat) (hF : Fresh [] rs) (hz : rs.length ≤ 1000) :
    SR w (subDict (rs.map (prItem q))) ⟨hp l, g, d, k, os⟩ l.length ⟨hp (l ++ [dO (entsX k rs) rs.length]), g, d, k + 3 * rs.length, os⟩ (2 + 13 * rs.length) := by
  unfold entsX
  split
  · exact sr_subShort hl rs k hF (by omega)
  · exact sr_subLong hl rs k hF (by omega) hz
/-- what it is to lay one stretch of pairs into the dict so far, if there is one -/
noncomputable def Flushes (w : World) (g : Array GenState) (d : Drawn) (os : OsState) (q : Pos) (L : List Obj) (fl : List (Sem Value × Sem Value) → Option Addr → Sem (Option Addr)) : Prop :=
  ∀ (rs : List (Int × Str)) (st : DSt), rs ≠ [] → ((esOf st).map (·.hash) ++ rs.map fun r => hashInt r.1).Nodup → (esOf st).length + rs.length ≤ 1000 → (esOf st = [] → st.1 = none) → (st.1 = none → st.2.1 = []) →
    SR w (fl (rs.map (prItem q)) (mainOf L st)) ⟨heapOf L st, g, d, st.2.2, os⟩ (mainOf L (flushS rs st)) ⟨heapOf L (flushS rs st), g, d, (flushS rs st).2.2, os⟩ (10 + 19 * rs.length)
theorem sr_flush {L : List Obj} (hL : 11 ≤ L.length) {fl : List (Sem Value × Sem Value) → Option Addr → Sem (Option Addr)}
    (f0 : ∀ run s n s' b, run ≠ [] → SR w (subDict run) s n s' b → SR w (fl run none) s (some n) s' b)
    (f1 : ∀ run a s n s1 s2 b1 b2, run ≠ [] → SR w (subDict run) s n s1 b1 → SR w (mergeMapping a (.ref n) false) s1 () s2 b2 → SR w (fl run (some a)) s (some a) s2 (b1 + b2)) : Flushes w g d os q L fl := by
  intro rs st h0 hN hz he hs
  obtain ⟨m, subs, k⟩ := st
  have hne : rs.map (prItem q) ≠ [] := by cases rs with
    | nil => exact absurd rfl h0
    | cons a r => exact List.cons_ne_nil _ _
  cases m with
  | none =>
    obtain rfl : subs = [] := hs rfl
    have hF : Fresh [] rs := fresh_of (by simpa [esOf] using hN)
    have := sr_sub (w := w) (g := g) (d := d) (os := os) (q := q) hL rs k hF (by simp [esOf] at hz; omega)
    show SR w _ _ (some L.length) ⟨hp (L ++ dO (entsX k rs) (entsX k rs).length :: []), g, d, k + 3 * rs.length, os⟩ _
    rw [entsX_len]
    exact sr_le (f0 _ _ _ _ _ hne this) (by omega)
  | some es =>
    have hN' : (es.map (·.hash) ++ rs.map fun r => hashInt r.1).Nodup := hN
    have hz' : es.length + rs.length ≤ 1000 := hz
    have hF : Fresh [] rs := fresh_of (List.nodup_append.mp hN').2.1
    have h1 := sr_sub (w := w) (g := g) (d := d) (os := os) (q := q) (l := L ++ dO es es.length :: subs) (by rw [List.length_append]; omega) rs k hF (by omega)
    have hl : (L ++ dO es es.length :: subs).length = L.length + 1 + subs.length := by rw [List.length_append, List.length_cons]; omega
    have h2 := sr_merge (w := w) (g := g) (d := d) (os := os) (A := L) (B := subs) (n := (L ++ dO es es.length :: subs).length) (epS := rs.length) (ns := entsX k rs) (es := es) (ep := es.length) (k := k + 3 * rs.length) hL hl entsX_int
      (fun q => by cases (show (some es : Option (List DictEntry)) = none from he q)) (freshE_of (by rw [entsX_map]; exact hN')) (by rw [entsX_len]; exact hz')
    rw [entsX_len] at h2
    show SR w _ _ (some L.length) ⟨hp (L ++ dO (es ++ entsX k rs) (es ++ entsX k rs).length :: (subs ++ [dO (entsX k rs) rs.length])), g, d, k + 3 * rs.length, os⟩ _
    rw [List.length_append, entsX_len, show L ++ dO (es ++ entsX k rs) (es.length + rs.length) :: (subs ++ [dO (entsX k rs) rs.length]) = L ++ dO (es ++ entsX k rs) (es.length + rs.length) :: subs ++ [dO (entsX k rs) rs.length] by simp]
    exact sr_le (f1 _ _ _ _ _ _ _ _ hne h1 h2) (by omega)
theorem esOf_flush {rs : List (Int × Str)} {st : DSt} (hs : st.1 = none → st.2.1 = []) : (esOf (flushS rs st)).map (·.hash) = (esOf st).map (·.hash) ++ rs.map fun r => hashInt r.1 := by
  obtain ⟨m, subs, k⟩ := st
  cases m with
  | none => show (entsX k rs).map _ = _; rw [entsX_map]; rfl
  | some es => show (es ++ entsX k rs).map _ = _; rw [List.map_append, entsX_map]; rfl
theorem sr_items {L : List Obj} (hL : 11 ≤ L.length) {f : Option (Sem Value) × Sem Value → Option Addr × List (Sem Value × Sem Value) → Sem (ForInStep (Option Addr × List (Sem Value × Sem Value)))}
    {fl : List (Sem Value × Sem Value) → Option Addr → Sem (Option Addr)} (hfl : Flushes w g d os q L fl)
    (h17 : ∀ p (rs : List (Int × Str)) m m' s s' b, (rs ++ [p]).length = 17 → SR w (fl ((rs ++ [p]).map (prItem q)) m) s m' s' b → SR w (f (some (prItem q p).1, (prItem q p).2) (m, rs.map (prItem q))) s (.yield (m', [])) s' b)
    (hn : ∀ p (rs : List (Int × Str)) m s, (rs ++ [p]).length ≠ 17 → SR w (f (some (prItem q p).1, (prItem q p).2) (m, rs.map (prItem q))) s (.yield (m, (rs ++ [p]).map (prItem q))) s 0) :
    ∀ (ps rs : List (Int × Str)) (st : DSt), ((esOf st).map (·.hash) ++ (rs ++ ps).map fun r => hashInt r.1).Nodup → (esOf st).length + (rs ++ ps).length ≤ 1000 → (esOf st = [] → st.1 = none) → (st.1 = none → st.2.1 = []) → rs.length < 17 →
    SR w (forIn (ps.map fun r => (some (prItem q r).1, (prItem q r).2)) (mainOf L st, rs.map (prItem q)) f) ⟨heapOf L st, g, d, st.2.2, os⟩ (mainOf L (simD ps rs st).2, (simD ps rs st).1.map (prItem q)) ⟨heapOf L (simD ps rs st).2, g, d, (simD ps rs st).2.2.2, os⟩ (400 * ps.length)
  | [], rs, st, _, _, _, _, _ => sr_forIn_nil
  | p :: ps, rs, st, hN, hz, he, hs, hr => by
    rw [List.map_cons, show 400 * (p :: ps).length = 400 + 400 * ps.length by rw [List.length_cons]; omega]
    unfold simD
    have eN : rs ++ p :: ps = rs ++ [p] ++ ps := by simp
    rw [eN] at hN hz
    by_cases hc : rs.length + 1 = 17
    · rw [if_pos hc]
      have hN1 : ((esOf st).map (·.hash) ++ (rs ++ [p]).map fun r => hashInt r.1).Nodup := by
        rw [List.map_append, ← List.append_assoc] at hN
        exact (List.nodup_append.mp hN).1
      have hz1 : (esOf st).length + (rs ++ [p]).length ≤ 1000 := by rw [List.length_append] at hz; omega
      have hf1 := hfl (rs ++ [p]) st (by simp) hN1 hz1 he hs
      have eL : (esOf (flushS (rs ++ [p]) st)).length = (esOf st).length + (rs ++ [p]).length := by
        have := congrArg List.length (esOf_flush (rs := rs ++ [p]) hs)
        simpa using this
      have e1 : (flushS (rs ++ [p]) st).1 ≠ none := by
        obtain ⟨m, subs, k⟩ := st
        cases m <;> (intro q; cases q)
      have ih := sr_items hL hfl h17 hn ps [] (flushS (rs ++ [p]) st) (by
          rw [esOf_flush hs, List.nil_append, List.append_assoc, ← List.map_append]; exact hN) (by rw [eL]; simp only [List.length_append, List.length_cons, List.length_nil] at hz ⊢; omega)
        (fun q => by rw [q] at eL; simp at eL) (fun q => absurd q e1) (by simp)
      refine sr_forIn_cons (n1 := 400) (b' := (mainOf L (flushS (rs ++ [p]) st), [])) (s1 := ⟨heapOf L (flushS (rs ++ [p]) st), g, d, (flushS (rs ++ [p]) st).2.2, os⟩) ?_ ih
      refine sr_le (h17 p rs _ _ _ _ _ (by simp; omega) hf1) ?_
      rw [List.length_append]; simp; omega
    · rw [if_neg hc]
      have ih := sr_items hL hfl h17 hn ps (rs ++ [p]) st hN hz he hs (by simp; omega)
      refine sr_forIn_cons (n1 := 400) (b' := (mainOf L st, (rs ++ [p]).map (prItem q))) (s1 := ⟨heapOf L st, g, d, st.2.2, os⟩) ?_ ih
      exact sr_le (hn p rs _ _ (by simp; omega)) (by omega)
theorem simD_run : ∀ (ps rs : List (Int × Str)) (st : DSt), (st.1 = none → st.2.1 = []) → ((esOf (simD ps rs st).2).map (·.hash) ++ (simD ps rs st).1.map fun r => hashInt r.1) = (esOf st).map (·.hash) ++ (rs ++ ps).map fun r => hashInt r.1
  | [], rs, st, _ => by simp [simD]
  | p :: ps, rs, st, hs => by
    unfold simD
    split
    · have e1 : (flushS (rs ++ [p]) st).1 ≠ none := by
        obtain ⟨m, subs, k⟩ := st
        cases m <;> (intro q; cases q)
      rw [simD_run ps [] _ (fun q => absurd q e1), esOf_flush hs]
      simp
    · rw [simD_run ps (rs ++ [p]) st hs]
      simp
theorem sr_display {L : List Obj} (hL : 11 ≤ L.length) {ps : List (Int × Str)} {k : Nat} {rs : List (Int × Str)} {st : DSt} (hsim : simD ps [] (none, [], k) = (rs, st)) (h0 : rs ≠ []) (h1 : esOf st ≠ []) (hz : ps.length ≤ 1000) (hN : (ps.map fun r => hashInt r.1).Nodup) :
    SR w (dictDisplay (ps.map fun r => (some (prItem q r).1, (prItem q r).2))) ⟨hp L, g, d, k, os⟩ (.ref L.length) ⟨heapOf L (flushS rs st), g, d, (flushS rs st).2.2, os⟩ (400 * ps.length + (10 + 19 * rs.length)) := by
  unfold dictDisplay
  extract_lets fl main0 run0
  have hfl : Flushes w g d os q L fl := by
    refine sr_flush hL (fun run s n s' b hr h => ?_) (fun run a s n s1 s2 b1 b2 hr h1 h2 => ?_)
    · cases run with
      | nil => exact absurd rfl hr
      | cons a r => exact sr_le (sr_bind (b2 := 0) h sr_pure) (Nat.le_refl _)
    · cases run with
      | nil => exact absurd rfl hr
      | cons c r => exact sr_le (sr_bind (sr_holding h1) (sr_bind (b2 := 0) (sr_onRaise (sr_holding h2)) sr_pure)) (Nat.le_refl _)
  have hrun := simD_run ps [] (none, [], k) (fun _ => rfl)
  rw [hsim] at hrun
  have hN2 : ((esOf st).map (·.hash) ++ rs.map fun r => hashInt r.1).Nodup := by rw [hrun]; simpa [esOf] using hN
  have hz2 : (esOf st).length + rs.length ≤ 1000 := by
    have q := congrArg List.length hrun
    simp only [List.length_append, List.length_map] at q
    have q' : (esOf st).length + rs.length = 0 + (0 + ps.length) := q
    omega
  have hst : st.1 ≠ none := fun q => h1 (by unfold esOf; rw [q]; rfl)
  have hf1 := hfl rs st h0 hN2 hz2 (fun q => absurd q h1) (fun q => absurd q hst)
  refine sr_le (sr_bind (b1 := 400 * ps.length) (b2 := 10 + 19 * rs.length) (a := (mainOf L st, rs.map (prItem q))) (s1 := ⟨heapOf L st, g, d, st.2.2, os⟩) ?_ ?_) (by omega)
  · have hi := fun f h17 hn => sr_items (w := w) (g := g) (d := d) (os := os) (q := q) hL (f := f) hfl h17 hn ps [] (none, [], k) (by simpa [esOf] using hN) (by simpa [esOf] using hz) (fun _ => rfl) (fun _ => rfl) (by simp)
    rw [hsim] at hi
    refine hi _ (fun p rs m m' s s' b hl h => ?_) (fun p rs m s hl => ?_)
    · dsimp only
      rw [if_pos (by simpa using hl)]
      rw [List.map_append] at h
      exact sr_le (sr_bind (b2 := 0) h sr_pure) (Nat.le_refl _)
    · dsimp only
      rw [if_neg (by simpa using hl), List.map_append]
      exact sr_pure
  · refine sr_le (sr_bind (b2 := 0) hf1 ?_) (by omega)
    have : mainOf L (flushS rs st) = some L.length := by
      obtain ⟨m, subs, k⟩ := st
      cases m <;> rfl
    rw [this]
    exact sr_pure
end
end Mine

namespace Mine
open PySem PySem.W PySem.Calls PyProof.Rows
noncomputable def parts11 : List Expr × List (Option Expr) × List Expr × Pos × Pos := match (pw.main.body[11]? : Option Stmt) with
  | some (Stmt.Assign tg (Expr.Dict ks vs q) p) => (tg, ks, vs, q, p)
  | _ => ([], [], [], posZ, posZ)
theorem sts11 : sts 11 12 = [Stmt.Assign parts11.1 (Expr.Dict parts11.2.1 parts11.2.2.1 parts11.2.2.2.1) parts11.2.2.2.2] := by kernel_rfl
theorem items11 : (evalEachOpt parts11.2.1 envT).zip ((evalEach parts11.2.2.1 envT).map fun v => do let x ← v; standAt parts11.2.2.2.1; pure x) = b3pairs.map fun r => (some (prItem parts11.2.2.2.1 r).1, (prItem parts11.2.2.2.1 r).2) := by kernel_rfl
noncomputable def T_11a (P : Params) : BT := (T_11 P).set 3 fun _ => o3_10 P
noncomputable def asc : List Int → Bool
  | a :: b :: r => a < b && asc (b :: r)
  | _ => true
theorem asc_pairwise : ∀ {l : List Int}, asc l = true → l.Pairwise (· < ·)
  | [], _ => .nil
  | [a], _ => List.pairwise_singleton _ _
  | a :: b :: r, h => by
    unfold asc at h
    obtain ⟨h1, h2⟩ := Bool.and_eq_true_iff.mp h
    have h1 : a < b := of_decide_eq_true h1
    have ih := asc_pairwise h2
    refine List.pairwise_cons.mpr ⟨fun x hx => ?_, ih⟩
    rcases List.mem_cons.mp hx with rfl | hx
    · exact h1
    · exact Int.lt_trans h1 ((List.pairwise_cons.mp ih).1 x hx)
theorem nodup11 : (b3pairs.map fun r => hashInt r.1).Nodup := by
  have : asc (b3pairs.map fun r => hashInt r.1) = true := by decide +kernel
  exact (asc_pairwise this).imp fun h => Int.ne_of_lt h
theorem len11 : b3pairs.length = 650 := by decide +kernel
noncomputable def rs11 : List (Int × Str) := (simD b3pairs [] (none, [], 348)).1
noncomputable def st11 : DSt := (simD b3pairs [] (none, [], 348)).2
theorem rs11_len : rs11.length = 4 := by decide +kernel
theorem es11_len : (esOf st11).length = 646 := by decide +kernel
theorem heap11 (P : Params) : heapOf ((T_10 P).list 92) (flushS rs11 st11) = absHeap (T_11a P) 131 {} := by kernel_rfl
theorem toks11 : (flushS rs11 st11).2.2 = 2298 := by decide +kernel
theorem bind11 (w : World) (os : OsState) (K : Flow → Sem Fin) (H : Value → Sem Fin) (gd : Bool → Bool) (lv : List Value → List Value) (p : Pos) :
    segGo treeTable pw w 11 (some (.ref 6)) 1 7 (St T_11a 131 2298 w os).abs ⟨(do assignStores envT (.ref 92) (← swappedStores parts11.1 (Expr.Dict parts11.2.1 parts11.2.2.1 parts11.2.2.2.1) envT) ((PySem.assignEach parts11.1 envT).map fun (x : Bool × (Value → Sem Unit)) => x.2)).wrap K H gd lv, cT, p, [topFrame posZ]⟩ =
      some ((St T_11 131 2299 w os).abs, ⟨K .next, cT, ⟨74, 0, 74, 13⟩, [topFrame posZ]⟩) := by
  refine segGo_of ?_
  kernel_rfl

/-- as SR, with the place at the end said -/
noncomputable def SRp {α : Type} (w : World) (m : Sem α) (s : Shared) (a : α) (s' : Shared) (b : Nat) (p' : Pos) : Prop :=
  ∀ (K : α → Sem Fin) (H : Value → Sem Fin) (gd : Bool → Bool) (lv : List Value → List Value) (p : Pos), ∃ n, n ≤ b ∧
    segGo treeTable pw w 11 (some (.ref 6)) 1 n s ⟨m.wrap K H gd lv, cT, p, [topFrame posZ]⟩ = some (s', ⟨K a, cT, p', [topFrame posZ]⟩)
theorem srp_bind {w : World} {α β : Type} {s s1 s2 : Shared} {a : α} {b1 b2 : Nat} {p' : Pos} {m : Sem α} {f : α → Sem β} {r : β} (h1 : SR w m s a s1 b1) (h2 : SRp w (f a) s1 r s2 b2 p') : SRp w (m >>= f) s r s2 (b1 + b2) p' := fun K H gd lv p => by
  obtain ⟨n1, p1, hn1, e1⟩ := h1 (fun a => (f a).wrap K H gd lv) (fun e => (Sem.raise e : Sem β).wrap K H gd lv) (fun g => gd (id g)) (fun l => lv (id l)) p
  obtain ⟨n2, hn2, e2⟩ := h2 K H gd lv p1
  refine ⟨n1 + n2, by omega, ?_⟩
  rw [Sem.bind_eq_wrap', Sem.wrap_wrap]
  exact segGo_add e1 e2
theorem srp_ret {w : World} {α β : Type} {s s1 : Shared} {a : α} {b : Nat} {p' : Pos} {m : Sem α} {f : α → β} (h : SRp w m s a s1 b p') : SRp w (m >>= fun x => pure (f x)) s (f a) s1 b p' := fun K H gd lv p => by
  obtain ⟨n, hn, e⟩ := h (fun a => (pure (f a) : Sem β).wrap K H gd lv) (fun e => (Sem.raise e : Sem β).wrap K H gd lv) (fun g => gd (id g)) (fun l => lv (id l)) p
  refine ⟨n, hn, ?_⟩
  rw [Sem.bind_eq_wrap', Sem.wrap_wrap]
  exact e
theorem exec11 : exec (Stmt.Assign parts11.1 (Expr.Dict parts11.2.1 parts11.2.2.1 parts11.2.2.2.1) parts11.2.2.2.2) envT = (do
        standAt parts11.2.2.2.2
        let v ← (do
          standAt parts11.2.2.2.1
          dictDisplay ((evalEachOpt parts11.2.1 envT).zip ((evalEach parts11.2.2.1 envT).map fun v => do let x ← v; standAt parts11.2.2.2.1; pure x)))
        assignStores envT v (← swappedStores parts11.1 (Expr.Dict parts11.2.1 parts11.2.2.1 parts11.2.2.2.1) envT) ((PySem.assignEach parts11.1 envT).map fun (x : Bool × (Value → Sem Unit)) => x.2)) := by
  kernel_rfl
theorem g4 (w : World) (os : OsState) : ∃ n, Nat.ble n 500000 = true ∧ segRun treeTable pw w 11 (some (.ref 6)) 1 n (St T_10 92 348 w os).abs (piecesOf (sts 11 12) envT cT ⟨72, 0, 73, 30⟩ [topFrame posZ]) = some (.next, (St T_11 131 2299 w os).abs, cT, ⟨74, 0, 74, 13⟩) := by
  have hd := sr_display (w := w) (g := #[]) (d := boot_drawn) (os := os) (q := parts11.2.2.2.1) (L := (T_10 w.params).list 92) (by unfold BT.list; rw [List.length_map, List.length_range]; decide) (ps := b3pairs) (k := 348) (rs := rs11) (st := st11) rfl
    (fun q => by have := rs11_len; rw [q] at this; cases this) (fun q => by have := es11_len; rw [q] at this; cases this) (by rw [len11]; decide) nodup11
  have hL : ((T_10 w.params).list 92).length = 92 := by unfold BT.list; rw [List.length_map, List.length_range]
  rw [heap11, toks11, len11, rs11_len, hL, ← items11] at hd
  have hb : SRp w (do assignStores envT (.ref 92) (← swappedStores parts11.1 (Expr.Dict parts11.2.1 parts11.2.2.1 parts11.2.2.2.1) envT) ((PySem.assignEach parts11.1 envT).map fun (x : Bool × (Value → Sem Unit)) => x.2)) (St T_11a 131 2298 w os).abs .next (St T_11 131 2299 w os).abs 7 ⟨74, 0, 74, 13⟩ :=
    fun K H gd lv p => ⟨7, Nat.le_refl _, bind11 w os K H gd lv p⟩
  have he : SRp w (exec (Stmt.Assign parts11.1 (Expr.Dict parts11.2.1 parts11.2.2.1 parts11.2.2.2.1) parts11.2.2.2.2) envT) (St T_10 92 348 w os).abs .next (St T_11 131 2299 w os).abs (1 + (1 + (400 * 650 + (10 + 19 * 4)) + 7)) ⟨74, 0, 74, 13⟩ := by
    rw [exec11]
    exact srp_bind sr_standAt (srp_bind (sr_bind sr_standAt hd) hb)
  have hx : SRp w (execs (sts 11 12) envT) (St T_10 92 348 w os).abs .next (St T_11 131 2299 w os).abs (1 + (1 + (400 * 650 + (10 + 19 * 4)) + 7)) ⟨74, 0, 74, 13⟩ := by
    intro K H gd lv p
    rw [sts11, execs_cons_wrap]
    obtain ⟨n, hn, e⟩ := he (fun f => match f with | .next => (execs [] envT).wrap K H gd lv | f => K f) H gd lv p
    exact ⟨n, hn, e⟩
  obtain ⟨n, hn, e⟩ := hx doneF deadEnd id id ⟨72, 0, 73, 30⟩
  refine ⟨n + 1, Nat.ble_eq_true_of_le (by omega), ?_⟩
  exact seg_go e rfl
end Mine

namespace Mine
open PySem PySem.W PySem.Calls PyProof.Rows
theorem body_is : behindTheImports pw = sts 0 9 ++ (sts 9 11 ++ (sts 11 12 ++ (sts 12 21 ++ []))) := by kernel_rfl
theorem blk (w : World) (os : OsState) : segRun treeTable pw w 11 (some (.ref 6)) 1 1 (St T_A 15 187 w os).abs (blockOf (behindTheImports pw) envT cT posZ [topFrame posZ]) = some (.next, (St T_B 15 187 w os).abs, cT, posZ) := by
  rw [PySem.W.Fast.te14374325043358763698, PySem.W.Fast.te14364793385576792824]
  kernel_rfl
theorem fin_run (w : World) (os : OsState) : topRun treeTable pw w 11 (some (.ref 6)) 2 (St T_20 181 2365 w os).abs ⟨doneF .next, cT, ⟨106, 0, 169, 89⟩, [topFrame posZ]⟩ = some (St T_20 181 2365 w os).abs := by
  rw [PySem.W.Fast.te14082659384304107361, PySem.W.Fast.te14364793385576792824]
  kernel_rfl
theorem run_top (w : World) (os : OsState) : topRun treeTable pw w 11 (some (.ref 6)) 600000 ⟨boot_heap w.params, #[], boot_drawn, boot_toks, os⟩ (topStub pw) = some (St T_20 181 2365 w os).abs := by
  obtain ⟨n, hn, h4⟩ := g4 w os
  have k5 := piece_app (rest := []) (segRun_of (g5 w os)) (fin_run w os)
  have k4 := piece_app h4 k5
  have k2 := piece_app (segRun_of (g2 w os)) k4
  have k1 := piece_app (segRun_of (g1 w os)) k2
  have hb := blk w os
  have k0 := piece_block (b := behindTheImports pw) hb (by rw [body_is]; exact k1)
  have k := go_top (pre_go w os) k0
  have hle : n ≤ 500000 := Nat.le_of_ble_eq_true hn
  have e : 12 + (1 + (600 + (1100 + (n + (600 + 2))))) + (600000 - (12 + (1 + (600 + (1100 + (n + (600 + 2))))))) = 600000 := by omega
  have r := topRun_mono (600000 - (12 + (1 + (600 + (1100 + (n + (600 + 2))))))) _ _ _ _ k
  rw [e] at r
  exact r
end Mine

namespace Mine
open PySem PySem.W PySem.Calls PyProof.Rows
noncomputable def qv : Program := { pw with main := { pw.main with body := sts 20 21 } }
noncomputable def looseN : List Str := ["bisect_right", "insort_left", "bisect_left", "Error", "error_reply", "parse257", "b1_set", "in_table_b1", "b3_exceptions", "map_table_b3", "_law_unseen", "_law_name", "_law_prepared", "_law_front", "_law_stretch", "_law_shared"]
noncomputable def K (P : Params) : Frag := [(3, o3_20 P), (15, o15 P), (16, o16 P), (22, o22 P), (23, o23 P), (24, o24 P), (25, o25 P), (31, o31 P), (32, o32 P), (33, o33 P), (34, o34 P), (40, o40 P), (41, o41 P), (72, o72 P), (73, o73 P), (81, o81 P), (90, o90 P), (91, o91 P), (92, o92 P), (136, o136 P), (137, o137 P), (143, o143 P), (144, o144 P), (148, o148 P), (149, o149 P), (153, o153 P), (154, o154 P), (160, o160 P), (161, o161 P), (167, o167 P), (168, o168 P), (174, o174 P), (175, o175 P), (179, o179 P), (180, o180 P)]
noncomputable def Ka : List Addr := [3, 15, 16, 22, 23, 24, 25, 31, 32, 33, 34, 40, 41, 72, 73, 81, 90, 91, 92, 136, 137, 143, 144, 148, 149, 153, 154, 160, 161, 167, 168, 174, 175, 179, 180]
abbrev rw1 : OpenLaw := PySem.Challenge.rw_ux0032_01
noncomputable def Xt1 (s : Shared) : Bool := xlAt qv [] s && recOk (RowW.records rw1.row.toRowW) s
theorem open1 : ∀ w : World, (fencedOpening treeTable pw w 700000).map (fun s => (s.heap, s.gens, s.drawn, s.toks)) = some (boot_heap w.params, Array.mk [], boot_drawn, boot_toks) :=
  boot_open (by kernel_rfl) (by decide +kernel) (fun s => by kernel_rfl)
theorem size1 (w : World) : ((boot_heap w.params).isNs mainGlobals && (#[] : Array GenState).size == 0, (boot_heap w.params).objs.size, (boot_heap w.params).nsMap mainGlobals "__annotations__") = (true, 11, some (.ref 6)) := by
  kernel_rfl
noncomputable def Hp1 (P : Params) : Heap := absHeap (T_20 P) 181 {}
end Mine

namespace Mine
open PySem PySem.W PySem.Calls PyProof.Rows
noncomputable def dLaw : DefRec × List (Str × Expr) := (⟨Str.ofString "law", (fdef 20).1, (fdef 20).2.1, (fdef 20).2.2, ⟨106, 0, 169, 89⟩⟩, [])
end Mine

namespace Mine
open PySem PySem.W PySem.Calls PyProof.Rows

/-! ## the rules of the walk, for trees that never raise -/
noncomputable abbrev Wp {α : Type} (w : World) (A : Around) (t : Sem α) (Q : α → Shared → Prop) (s : Shared) : Prop := wpAny (model pw w) A t Q (fun _ _ => False) s
theorem Wp.lift {α : Type} {w : World} {A : Around} {t : Sem α} {Q : α → Shared → Prop} {E : Value → Shared → Prop} {s : Shared} (h : Wp w A t Q s) : wpAny (model pw w) A t Q E s := wpAny_mono h (fun _ _ x => x) fun _ _ x => x.elim
theorem Wp.mono {α : Type} {w : World} {A : Around} {t : Sem α} {Q Q' : α → Shared → Prop} {s : Shared} (h : Wp w A t Q s) (hQ : ∀ a s, Q a s → Q' a s) : Wp w A t Q' s := wpAny_mono h hQ fun _ _ x => x
noncomputable abbrev Ext (h h' : Heap) : Prop := ∀ b o, h.get? b = some o → h'.get? b = some o
theorem Ext.refl (h : Heap) : Ext h h := fun _ _ e => e
theorem Ext.trans {h h' h'' : Heap} (x : Ext h h') (y : Ext h' h'') : Ext h h'' := fun b o e => y b o (x b o e)
/-- room for d more frames -/
noncomputable def Rm (A : Around) (d : Nat) : Prop := A.handled = none ∧ A.depth + d < recursionLimit ∧ A.units + 8 * d < cLine
theorem Rm.deeper {A : Around} {d : Nat} (h : Rm A (d + 1)) (env : Env) : Rm (A.deeper env) d := by
  obtain ⟨h1, h2, h3⟩ := h
  refine ⟨h1, ?_, ?_⟩
  · show A.depth + 1 + d < _; omega
  · show A.units + 3 + 8 * d < _; omega
theorem Rm.le {A : Around} {d e : Nat} (h : Rm A d) (he : e ≤ d) : Rm A e := ⟨h.1, by have := h.2.1; omega, by have := h.2.2; omega⟩
theorem Rm.room {A : Around} {d : Nat} (h : Rm A d) : A.depth < recursionLimit := by have := h.2.1; omega

/-- what stands at the top, as far as the walk asks -/
structure Stat (w : World) (h : Heap) : Prop where
  K : (K w.params).In h
  b : ∃ mb, h.Ns builtinsNs mb ∧ ∀ x : Str, x ≠ "__name__" → mb x = bootBuiltins x
  lim : h.NoLimit
theorem Stat.ext {w : World} {h h' : Heap} (S : Stat w h) (e : Ext h h') : Stat w h' :=
  ⟨S.K.keeps e, let ⟨mb, a, b⟩ := S.b; ⟨mb, a.keeps e, b⟩, S.lim.keeps e⟩
noncomputable def mgF (P : Params) : Str → Option Value := fun x => match (o3_20 P).data with
  | .dict es _ => nsFind es x
  | _ => none
noncomputable def mgEs (P : Params) : Array DictEntry := match (o3_20 P).data with
  | .dict es _ => es
  | _ => #[]
theorem mg_keys (P : Params) : StrKeys (mgEs P) := by
  intro e he
  have : ((mgEs P).toList.all fun e => match e.key with | .str _ _ => true | _ => false) = true := by kernel_rfl
  have h := List.all_eq_true.mp this e (Array.mem_toList_iff.mpr he)
  cases hk : e.key with
  | str x t => exact ⟨x, t, rfl⟩
  | _ => rw [hk] at h; cases h

theorem Stat.g {w : World} {h : Heap} (S : Stat w h) : h.Ns mainGlobals fun x => nsFind (mgEs w.params) x :=
  ⟨o3_20 w.params, mgEs w.params, 26, S.K 3 _ (by kernel_rfl), by kernel_rfl, mg_keys _, fun _ => rfl⟩
/-- an object of the top -/
theorem Stat.at {w : World} {h : Heap} (S : Stat w h) {a : Addr} {o : Obj} (e : (Mine.K w.params).lookup a = some o) : h.get? a = some o := S.K a o e

section
variable {w : World} {A : Around} {env : Env} {s : Shared}
theorem wN {x : Str} {pos : Pos} {m : Str → Option Value} {v : Value} {Q : Value → Shared → Prop} (hn : s.heap.Ns env.locals m) (hv : m x = some v) (h : Q v s)
    (hk : env.scope.kind = .function := by kernel_rfl) (hl : env.kindOf x = some .local := by kernel_rfl) (hd : (x == ("__debug__" : Str)) = false := by decide +kernel) :
    Wp w A (eval (.Name x pos) env) Q s := wpAny_Name (wpAny_loadName_local hk hl hn hv h) hd
theorem wG {x : Str} {pos : Pos} {v : Value} {Q : Value → Shared → Prop} (S : Stat w s.heap) (hv : nsFind (mgEs w.params) x = some v) (h : Q v s)
    (hg : env.globals = mainGlobals := by kernel_rfl) (hk : env.scope.kind = .function := by kernel_rfl) (hl : env.kindOf x = some .globalImplicit := by kernel_rfl) (hd : (x == ("__debug__" : Str)) = false := by decide +kernel) :
    Wp w A (eval (.Name x pos) env) Q s := Name_function_global hk hl (loadGlobal_global (by rw [hg]; exact S.g) hv h) hd
theorem wB {x : Str} {pos : Pos} {v : Value} {Q : Value → Shared → Prop} (S : Stat w s.heap) (h0 : nsFind (mgEs w.params) x = none) (hv : bootBuiltins x = some v) (h : Q v s) (hn : x ≠ "__name__" := by decide +kernel)
    (hg : env.globals = mainGlobals := by kernel_rfl) (hb : env.builtins = builtinsNs := by kernel_rfl) (hk : env.scope.kind = .function := by kernel_rfl) (hl : env.kindOf x = some .globalImplicit := by kernel_rfl) (hd : (x == ("__debug__" : Str)) = false := by decide +kernel) :
    Wp w A (eval (.Name x pos) env) Q s := by
  obtain ⟨mb, hmb, hb'⟩ := S.b
  exact Name_function_global hk hl (loadGlobal_builtin (by rw [hg]; exact S.g) h0 (by rw [hb]; exact hmb) ((hb' x hn).trans hv) h) hd
theorem wSt {x : Str} {v : Value} {m : Str → Option Value} {Q : Unit → Shared → Prop} (hn : s.heap.Ns env.locals m)
    (h : ∀ h', h'.Ns env.locals (fun y => if y = x then some v else m y) → Heap.SameBut env.locals s.heap h' → Q () { s with heap := h', toks := s.toks + 1 })
    (hl : env.kindOf x = some .local := by kernel_rfl) (hp : (env.scope.kind == .class || (env.scope.kind == .module && env.locals != env.globals)) = false := by kernel_rfl) : Wp w A (storeName env x v) Q s :=
  wpAny_storeName_local hl hn h hp
theorem wWhile {test : Expr} {body orelse : List Stmt} {pos : Pos} {Q : Flow → Shared → Prop} (I : Nat → Shared → Prop)
    (turn : ∀ n s, I n s → Wp w A (isTrue test env (eval test env)) (fun b s₂ =>
        if b then Wp w A (execs body env) (fun f s₃ => match f with
            | .next | .cont => ∃ m, m < n ∧ I m s₃
            | .brk => Q .next s₃
            | .ret v => Q (.ret v) s₃) s₂
        else Wp w A (execs orelse env) (fun f s₃ => Q f s₃) s₂) s)
    (n : Nat) (h : I n s) : Wp w A (exec (.While test body orelse pos) env) Q s := by
  refine wpAny_While (codeAny_mono (codeAny_whileLoop (R := fun r s' => match r with | .ok f => Q f s' | .error _ => False) I (fun n s hI => ?_) n h) ?_)
  · refine wpAny_mono (turn n s hI) (fun b s₂ h₂ => ?_) (fun _ _ x => x.elim)
    cases b with
    | false =>
      simp only [Bool.false_eq_true, if_false] at h₂ ⊢
      exact wpAny_mono h₂ (fun _ _ x => x) (fun _ _ x => x.elim)
    | true =>
      simp only [if_true] at h₂ ⊢
      exact wpAny_mono h₂ (fun f _ x => by cases f <;> exact x) (fun _ _ x => x.elim)
  · intro r s' hr
    cases r with
    | ok f => exact hr
    | error e => exact hr.elim
/-- a call of a plain def of the top -/
theorem wCall {f : Addr} {o : Obj} {fd : FuncData} {args : Args} {body : List Stmt} {binds : List (Str × Value)} {Q : Value → Shared → Prop} {d : Nat} (R : Rm A (d + 1)) (S : Stat w s.heap)
    (ho : (K w.params).lookup f = some o) (hd : o.data = .func fd) (hb : fd.body = .stmts body) (hcd : s.heap.CodeRec fd.code fd.qualname) (hbind : BindsTo s fd args binds)
    (h : ∀ h₀, h₀.Ns s.heap.objs.size (fun x => binds.reverse.lookup x) → Ext s.heap h₀ → Stat w h₀ → Rm (A.deeper (callEnv fd s.heap.objs.size f)) d →
      Wp w (A.deeper (callEnv fd s.heap.objs.size f)) (execs body (callEnv fd s.heap.objs.size f)) (fun fl s' => Q (match fl with | .ret v => v | _ => .none) s') { s with heap := h₀, toks := s.toks + binds.length })
    (hcell : (fd.scope.names.all fun x => x.2 != .cell) = true := by kernel_rfl) (hloc : (binds.all fun x => fd.scope.names.lookup x.1 == some .local) = true := by kernel_rfl)
    (hco : fd.scope.isCoroutine = false := by kernel_rfl) (hgen : fd.scope.isGenerator = false := by kernel_rfl) (hk : fd.scope.kind = .function := by kernel_rfl) :
    Wp w A (call (.ref f) args.pos args.kw) Q s := by
  refine wpAny_call (codeAny_call_def (fd := fd) (body := body) (binds := binds) R.room (S.at ho) hd S.lim hcd hb hbind (fun x hx => ?_) (fun x hx => ?_) (fun h₀ hn hk₀ => ?_) hco hgen hk)
  · have := List.all_eq_true.mp hcell x hx; simpa using this
  · have := List.all_eq_true.mp hloc x hx; simpa using this
  · exact wpAny_mono (h h₀ hn hk₀ (S.ext hk₀) (R.deeper _)) (fun _ _ x => x) (fun _ _ x => x.elim)
end
/-- a def that only makes new things, and hands back a value -/
noncomputable def Pure (w : World) (f : Addr) (vs : List Value) (d : Nat) (R : Tok → Value) : Prop :=
  ∀ (A : Around) (s : Shared) (Q : Value → Shared → Prop), Rm A d → Stat w s.heap → (∀ h' k t, Ext s.heap h' → Q (R t) { s with heap := h', toks := k }) → Wp w A (call (.ref f) vs) Q s
end Mine

namespace Mine
open PySem PySem.W PySem.Calls PyProof.Rows

/-- how many items two lists begin with in common -/
noncomputable def lcp : List Nat → List Nat → Nat
  | a :: x, b :: y => if a = b then lcp x y + 1 else 0
  | _, _ => 0
noncomputable abbrev Lx (x : Str) : List Nat := x.cps.toList
theorem Lx_len (x : Str) : (Lx x).length = x.length := rfl
theorem lcp_step {x y : List Nat} {i : Nat} (hx : i < x.length) (hy : i < y.length) : lcp (x.drop i) (y.drop i) = if x[i] = y[i] then lcp (x.drop (i + 1)) (y.drop (i + 1)) + 1 else 0 := by
  rw [List.drop_eq_getElem_cons hx, List.drop_eq_getElem_cons hy]
  rfl
theorem lcp_out {x y : List Nat} {i : Nat} (h : x.length ≤ i ∨ y.length ≤ i) : lcp (x.drop i) (y.drop i) = 0 := by
  rcases h with h | h
  · rw [List.drop_eq_nil_of_le h]; rfl
  · rw [List.drop_eq_nil_of_le h]; cases x.drop i <;> rfl
theorem item_at {x : Str} {i : Nat} (h : i < (Lx x).length) : ((seqIndex? (i : Int) x.length).bind (x.cps[·]?)) = some (Lx x)[i] := by
  have h' : i < x.cps.size := h
  have : seqIndex? (i : Int) x.length = some i := by
    unfold seqIndex?
    have h1 : (i : Int) < x.length := by show (i : Int) < x.cps.size; omega
    have h2 : ¬ ((i : Int) < 0) := by omega
    simp [h1, h2]
  rw [this]
  show x.cps[i]? = _
  rw [Array.getElem?_eq_getElem h']
  rfl
section
variable {w : World} {A : Around} {env : Env} {s : Shared}
/-- len of a text -/
theorem wLenStr {np pos : Pos} {e : Expr} {Q : Value → Shared → Prop} (S : Stat w s.heap)
    (h : Wp w A (eval e env) (fun v s' => ∃ x t, v = .str x t ∧ x.length ≤ 2 ^ 30 ∧ ∀ k, Q (.int x.length k) { s' with toks := k + 1 }) s)
    (he : starEach [e] env = [(false, eval e env)] := by kernel_rfl)
    (h0 : nsFind (mgEs w.params) (Str.ofString "len") = none := by kernel_rfl)
    (hg : env.globals = mainGlobals := by kernel_rfl) (hb : env.builtins = builtinsNs := by kernel_rfl) (hk : env.scope.kind = .function := by kernel_rfl) (hl : env.kindOf (Str.ofString "len") = some .globalImplicit := by kernel_rfl) :
    Wp w A (eval (.Call (.Name (Str.ofString "len") np) [e] [] pos) env) Q s := by
  refine Call_ (wB S h0 (v := .builtin "len") (by kernel_rfl) ?_ (hg := hg) (hb := hb) (hk := hk) (hl := hl))
  refine callWith_builtin1 (args_cons (wpAny_mono h (fun v s' hv => ?_) fun _ _ x => x) he) he
  obtain ⟨x, t, rfl, hx, hq⟩ := hv
  refine args_nil (P.len_str (by have : (x.length : Int) ≤ 2 ^ 30 := by exact_mod_cast hx
                                 omega) ?_)
  have := hq (s'.toks + 1)
  exact this
end
theorem shared_ok (w : World) (x y : Str) (t u : Tok) (hx : x.length ≤ 2 ^ 30) (hy : y.length ≤ 2 ^ 30) : Pure w 175 [.str x t, .str y u] 1 (fun k => .int (lcp (Lx x) (Lx y)) k) := by
  intro A s Q R S hQ
  refine wCall (f := 175) (args := ⟨[.str x t, .str y u], []⟩) (binds := [("one", .str x t), ("other", .str y u)]) R S (o := o175 w.params) (by kernel_rfl) rfl rfl ?_ (.of_eq (by kernel_rfl)) (fun h₀ hn hE S' R' => ?_)
  · exact ⟨174, o174 w.params, _, _, rfl, S.at (by kernel_rfl), rfl, rfl⟩
  refine wpAny_execs_cons (wpAny_Assign_Name (wpAny_Constant_int (wSt hn (fun h1 hn1 hs1 => ?_))))
  dsimp only at hn1 hs1 ⊢
  have hE1 : Ext s.heap h1 := fun b o e => (hs1.2 b (Nat.ne_of_lt (Heap.lt_size e))).trans (hE b o e)
  refine wpAny_execs_cons ?_
  refine wWhile (I := fun n s' => ∃ (i : Nat) (tk k : Nat) (h : Heap) (m : Str → Option Value), n = (Lx x).length - i ∧ i ≤ (Lx x).length ∧ i ≤ (Lx y).length ∧ i + lcp ((Lx x).drop i) ((Lx y).drop i) = lcp (Lx x) (Lx y) ∧
      s' = { s with heap := h, toks := k } ∧ Ext s.heap h ∧ h.Ns s.heap.objs.size m ∧ m "one" = some (.str x t) ∧ m "other" = some (.str y u) ∧ m "size" = some (.int i tk)) ?_ (Lx x).length
    ⟨0, _, _, h1, _, by omega, by omega, by omega, by rw [Nat.zero_add]; rfl, rfl, hE1, hn1, rfl, rfl, rfl⟩
  rintro n s' ⟨i, tk, k, h, m, rfl, hi1, hi2, hl, rfl, hE, hn, m1, m2, m3⟩
  have S1 : Stat w h := S.ext hE
  have big : ∀ z : Str, z.length ≤ 2 ^ 30 → i < (Lx z).length → (decide ((i : Int) < -(2 ^ 63 : Int)) || decide ((i : Int) ≥ 2 ^ 63)) = false := fun z hz hi => by
    have : i < z.length := hi
    have h1 : ¬ (i : Int) < -(2 ^ 63 : Int) := by omega
    have h2 : ¬ (i : Int) ≥ 2 ^ 63 := by omega
    rw [decide_eq_false h1, decide_eq_false h2]; rfl
  refine Wp.mono (Q := fun b s2 => ∃ k2, s2 = { s with heap := h, toks := k2 } ∧ b = decide (0 < lcp ((Lx x).drop i) ((Lx y).drop i))) ?_ ?_
  · refine wpAny_isTrue_BoolOp (wpAny_allTrue_And_cons (wpAny_isTrue_Compare1 (wN hn m3 (wLenStr S1 (wN hn m1 ⟨x, t, rfl, hx, fun k1 => lt_int (wpAny_truthy_bool ?_)⟩)))))
    by_cases h1 : i < (Lx x).length
    · have e1 : ((i : Int) < x.length) := by rw [← Lx_len]; omega
      rw [decide_eq_true e1, if_pos rfl]
      refine wpAny_allTrue_And_cons (wpAny_isTrue_Compare1 (wN hn m3 (wLenStr S1 (wN hn m2 ⟨y, u, rfl, hy, fun k2 => lt_int (wpAny_truthy_bool ?_)⟩))))
      by_cases h2 : i < (Lx y).length
      · have e2 : ((i : Int) < y.length) := by rw [← Lx_len]; omega
        rw [decide_eq_true e2, if_pos rfl]
        refine wpAny_allTrue_And_cons (wpAny_isTrue_Compare1 ?_)
        refine wpAny_Subscript_Name F.slot_str_getitem.lookup (wN hn m1 (wN hn m3 ⟨typeIs_str _ _ _, P.getItem_str (big x hx h1) (item_at h1) ?_⟩))
        refine wpAny_Subscript_Name F.slot_str_getitem.lookup (wN hn m2 (wN hn m3 ⟨typeIs_str _ _ _, P.getItem_str (big y hy h2) (item_at h2) ?_⟩))
        refine P.eq_str (wpAny_truthy_bool ?_)
        rw [lcp_step h1 h2]
        generalize (Lx x)[i] = a
        generalize (Lx y)[i] = c
        by_cases h3 : a = c
        · rw [if_pos (by simp [h3])]
          exact wpAny_allTrue_And_nil ⟨_, rfl, by rw [if_pos h3]; simp⟩
        · rw [if_neg (by simp [h3])]
          exact ⟨_, rfl, by rw [if_neg h3]; rfl⟩
      · have e2 : ¬ ((i : Int) < y.length) := by rw [← Lx_len]; omega
        rw [decide_eq_false e2, if_neg Bool.false_ne_true]
        exact ⟨_, rfl, by rw [lcp_out (.inr (by omega))]; rfl⟩
    · have e1 : ¬ ((i : Int) < x.length) := by rw [← Lx_len]; omega
      rw [decide_eq_false e1, if_neg Bool.false_ne_true]
      exact ⟨_, rfl, by rw [lcp_out (.inl (by omega))]; rfl⟩
  · rintro b s2 ⟨k2, rfl, rfl⟩
    by_cases h0 : 0 < lcp ((Lx x).drop i) ((Lx y).drop i)
    · rw [decide_eq_true h0, if_pos rfl]
      have h1 : i < (Lx x).length := by rcases Nat.lt_or_ge i (Lx x).length with q | q; exact q; rw [lcp_out (.inl q)] at h0; omega
      have h2 : i < (Lx y).length := by rcases Nat.lt_or_ge i (Lx y).length with q | q; exact q; rw [lcp_out (.inr q)] at h0; omega
      refine wpAny_execs_cons (wpAny_Assign_Name (wpAny_BinOp (wN hn m3 (wpAny_Constant_int (add_int (wSt hn fun h2 hn2 hs2 => ?_))))))
      refine wpAny_execs_nil ⟨(Lx x).length - (i + 1), by omega, i + 1, _, _, h2, _, rfl, by omega, by omega, ?_, rfl, fun b o e => (hs2.2 b (Nat.ne_of_lt (Heap.lt_size e))).trans (hE b o e), hn2, m1, m2, rfl⟩
      have hl' := hl
      rw [lcp_step h1 ‹_›] at h0 hl'
      by_cases hc : (Lx x)[i] = (Lx y)[i]
      · rw [if_pos hc] at hl'; omega
      · rw [if_neg hc] at h0; omega
    · rw [decide_eq_false h0, if_neg Bool.false_ne_true]
      refine wpAny_execs_nil (wpAny_execs_cons (wpAny_Return_some (wN hn m3 ?_)))
      have e0 : i = lcp (Lx x) (Lx y) := by omega
      rw [e0]
      exact hQ h _ _ hE
end Mine

namespace Mine
open PySem PySem.W PySem.Calls PyProof.Rows PySem.Builtin PySem.Builtin.Str

/-! texts as lists of numbers -/
noncomputable abbrev mkS (l : List Nat) : Str := ⟨l.toArray⟩
theorem mkS_Lx (x : Str) : mkS (Lx x) = x := by cases x; rfl
theorem Lx_mkS (l : List Nat) : Lx (mkS l) = l := rfl
theorem mkS_len (l : List Nat) : (mkS l).length = l.length := by show l.toArray.size = _; exact List.size_toArray
theorem mkS_app (a b : List Nat) : mkS a ++ mkS b = mkS (a ++ b) := by
  show Str.mk (a.toArray ++ b.toArray) = _
  rw [List.append_toArray]
theorem mkS_inj {a b : List Nat} (h : mkS a = mkS b) : a = b := by
  have := congrArg Lx h
  exact this
theorem filterMap_range' (l : List Nat) : ∀ (a n : Nat), (List.range' a n).filterMap (l[·]?) = (l.drop a).take n
  | a, 0 => by simp
  | a, n + 1 => by
    rw [List.range'_succ, List.filterMap_cons]
    cases h : l[a]? with
    | none =>
      have : l.length ≤ a := by simpa using h
      rw [filterMap_range' l (a + 1) n, List.drop_eq_nil_of_le this, List.drop_eq_nil_of_le (by omega)]
      simp
    | some v =>
      obtain ⟨ha, hv⟩ := List.getElem?_eq_some_iff.mp h
      rw [filterMap_range' l (a + 1) n, List.drop_eq_getElem_cons ha, List.take_succ_cons, hv]
theorem range_map_add (a : Int) (n : Nat) (h : 0 ≤ a) : ((List.range n).map fun (k : Nat) => (a + 1 * (k : Int)).toNat) = List.range' a.toNat n := by
  rw [List.range'_eq_map_range]
  apply List.map_congr_left
  intro k _
  omega
theorem picked (n a b : Nat) (l u : Option Int) (hl : (l = none ∧ a = 0) ∨ l = some (a : Int)) (hu : (u = none ∧ n ≤ b) ∨ u = some (b : Int)) :
    strSliceIndices l u 1 n = List.range' (min a n) (min b n - min a n) := by
  have e : strSliceIndices l u 1 n = sliceRange ((min a n : Nat) : Int) ((min b n : Nat) : Int) 1 := by
    unfold strSliceIndices
    rcases hl with ⟨rfl, rfl⟩ | rfl <;> rcases hu with ⟨rfl, hb⟩ | rfl <;> (dsimp only; congr 1 <;> (try simp only [show (1 : Int) > 0 by decide, if_true]) <;> (try (repeat' split)) <;> omega)
  rw [e]
  unfold sliceRange
  have hc : (if (1 : Int) > 0 then (if ((min a n : Nat) : Int) < ((min b n : Nat) : Int) then (((min b n : Nat) : Int) - ((min a n : Nat) : Int) + 1 - 1) / 1 else 0) else (if ((min a n : Nat) : Int) > ((min b n : Nat) : Int) then (((min a n : Nat) : Int) - ((min b n : Nat) : Int) - 1 - 1) / (-1) else 0)).toNat = min b n - min a n := by
    rw [if_pos (by decide)]
    split
    · rw [Int.ediv_one]; omega
    · show 0 = _; omega
  dsimp only
  rw [hc, range_map_add _ _ (by omega)]
  congr 1
theorem picked_cps (x : Str) (a b : Nat) (l u : Option Int) (hl : (l = none ∧ a = 0) ∨ l = some (a : Int)) (hu : (u = none ∧ x.length ≤ b) ∨ u = some (b : Int)) :
    (strSliceIndices l u 1 x.length).filterMap (x.cps[·]?) = ((Lx x).take b).drop a := by
  rw [picked x.length a b l u hl hu]
  have : (fun i : Nat => x.cps[i]?) = fun i => (Lx x)[i]? := by funext i; exact Array.getElem?_toList.symm
  rw [this, filterMap_range']
  have hn : x.length = (Lx x).length := rfl
  rw [hn]
  apply List.ext_getElem?
  intro i
  rw [List.getElem?_take, List.getElem?_drop, List.getElem?_drop, List.getElem?_take]
  have out : ∀ j, (Lx x).length ≤ j → (Lx x)[j]? = none := fun j hj => List.getElem?_eq_none hj
  by_cases ha : a ≤ (Lx x).length
  · rw [Nat.min_eq_left ha]
    by_cases h1 : i < min b (Lx x).length - a
    · rw [if_pos h1, if_pos (by omega)]
    · rw [if_neg h1]
      by_cases h2 : a + i < b
      · rw [if_pos h2, out _ (by omega)]
      · rw [if_neg h2]
  · rw [if_neg (by omega), out _ (by omega)]
    split <;> rfl
section
variable {w : World} {A : Around} {env : Env} {s : Shared}
theorem slice_post {x : Str} {t : Tok} {l u : Option (Int × Tok)} {a b : Nat} {Q : Value → Shared → Prop} (hl : (l = none ∧ a = 0) ∨ ∃ k, l = some ((a : Int), k)) (hu : (u = none ∧ x.length ≤ b) ∨ ∃ k, u = some ((b : Int), k)) (hx : x.length ≤ sizeLine)
    (h : ∀ t' k, Q (.str (mkS (((Lx x).take b).drop a)) t') { s with toks := k }) : (sliceMade x t l u none).post Q s := by
  have hl' : (l.map (·.1) = none ∧ a = 0) ∨ l.map (·.1) = some (a : Int) := by
    rcases hl with ⟨rfl, h⟩ | ⟨k, rfl⟩
    · exact .inl ⟨rfl, h⟩
    · exact .inr rfl
  have hu' : (u.map (·.1) = none ∧ x.length ≤ b) ∨ u.map (·.1) = some (b : Int) := by
    rcases hu with ⟨rfl, h⟩ | ⟨k, rfl⟩
    · exact .inl ⟨rfl, h⟩
    · exact .inr rfl
  have hp := picked_cps x a b _ _ hl' hu'
  unfold sliceMade slicePicked
  have hst : ((none : Option (Int × Tok)).map (·.1)).getD 1 = (1 : Int) := rfl
  rw [hst]
  split
  · rename_i hc
    have hlen : (strSliceIndices (l.map (·.1)) (u.map (·.1)) 1 x.length).length = x.length := by simpa using hc
    have e : mkS (((Lx x).take b).drop a) = x := by
      rw [← hp]
      rw [picked x.length a b _ _ hl' hu'] at hp hlen ⊢
      rw [List.length_range'] at hlen
      by_cases h0 : x.length = 0
      · have hx0 : Lx x = [] := List.eq_nil_of_length_eq_zero h0
        rw [hp, hx0]
        simp
        cases x with | mk c =>
        have h9 : c.toList = [] := hx0
        have h8 : c = #[] := Array.toList_eq_nil_iff.mp h9
        subst h8
        rfl
      · have h1 : min a x.length = 0 := by omega
        have h2 : min b x.length = x.length := by omega
        rw [h1, h2, Nat.sub_zero]
        have : (fun i : Nat => x.cps[i]?) = fun i => (Lx x)[i]? := by funext i; exact Array.getElem?_toList.symm
        rw [this, filterMap_range', List.drop_zero, List.take_of_length_le (show (Lx x).length ≤ x.length from Nat.le_refl _), mkS_Lx]
    have := h t s.toks
    rw [e] at this
    exact this
  · rw [hp]
    refine ⟨?_, ?_⟩
    · rw [mkS_len]
      have : (Lx x).length = x.length := rfl
      have h3 : (((Lx x).take b).drop a).length ≤ (Lx x).length := by rw [List.length_drop, List.length_take]; omega
      omega
    · exact h s.toks (s.toks + 1)
end
end Mine

namespace Mine
open PySem PySem.W PySem.Calls PyProof.Rows

/-! ## in_table_b1, map_table_b3 -/
noncomputable def b1L : List Int := [65024, 65025, 65026, 65027, 65028, 65029, 6150, 65030, 65031, 65032, 65033, 6155, 6156, 6157, 8203, 8204, 8205, 65034, 65035, 65036, 65037, 65038, 65039, 173, 847, 8288, 65279]
noncomputable def b1Es (P : Params) : Array (Int × Value) := match (o81 P).data with
  | .set es _ _ => es
  | _ => #[]
theorem size27 (w : World) : (b1Es w.params).size < scanBound := by
  have q : (b1Es w.params).size = 27 := by kernel_rfl
  rw [q]
  decide +kernel
theorem b1_set {w : World} {h : Heap} (S : Stat w h) : Heap.SetOf (intKind pw w) h 81 (fun k => b1L.contains k) 27 := by
  refine ⟨o81 w.params, b1Es w.params, 29, _, S.at (by kernel_rfl), ⟨rfl, rfl, rfl⟩, rfl, ?_, ?_, (size27 w), by kernel_rfl, by kernel_rfl⟩
  · intro e he
    have : ((b1Es w.params).toList.all fun e => match e.2 with | .int k _ => e.1 == hashInt k | _ => false) = true := by kernel_rfl
    have h := List.all_eq_true.mp this e he
    obtain ⟨h1, v⟩ := e
    cases v with
    | int k t => exact ⟨⟨k, by simp [intKind, Value.isInt], (beq_iff_eq.mp h : h1 = hashInt k)⟩, rfl⟩
    | _ => cases h
  · intro k
    have e1 : (b1Es w.params).toList.map (fun e => match e.2 with | .int k _ => k | _ => 0) = b1L := by kernel_rfl
    have e2 : ((b1Es w.params).toList.all fun e => match e.2 with | .int _ _ => true | _ => false) = true := by kernel_rfl
    rw [List.contains_iff_mem, ← e1, List.mem_map]
    constructor
    · rintro ⟨e, he, q⟩
      have h := List.all_eq_true.mp e2 e he
      refine ⟨e, he, ?_⟩
      obtain ⟨h1, v⟩ := e
      cases v with
      | int j t => subst q; simp [intKind, Value.isInt]
      | _ => cases h
    · rintro ⟨e, he, q⟩
      refine ⟨e, he, ?_⟩
      obtain ⟨h1, v⟩ := e
      cases v with
      | int j t => simpa [intKind, Value.isInt] using q
      | _ => simp [intKind, Value.isInt] at q
noncomputable def fdX (f : Addr) (w : World) : FuncData := match (K w.params).lookup f with
  | some ⟨_, _, .func fd, _⟩ => fd
  | _ => default
section
variable {w : World} {A : Around} {env : Env} {s : Shared}
/-- a built-in called by its name with one thing handed -/
theorem wCallB {id : String} {np pos : Pos} {n : Str} {e : Expr} {Q : Value → Shared → Prop} (S : Stat w s.heap) (hv : bootBuiltins n = some (.builtin id))
    (h : Wp w A (eval e env) (fun v s' => Wp w A (call (.builtin id) [v]) Q s') s)
    (he : starEach [e] env = [(false, eval e env)] := by kernel_rfl)
    (h0 : nsFind (mgEs w.params) n = none := by kernel_rfl) (hn : n ≠ "__name__" := by decide +kernel)
    (hg : env.globals = mainGlobals := by kernel_rfl) (hb : env.builtins = builtinsNs := by kernel_rfl) (hk : env.scope.kind = .function := by kernel_rfl) (hl : env.kindOf n = some .globalImplicit := by kernel_rfl) (hd : (n == ("__debug__" : Str)) = false := by decide +kernel) :
    Wp w A (eval (.Call (.Name n np) [e] [] pos) env) Q s := by
  refine Call_ (wB S h0 hv ?_ (hn := hn) (hg := hg) (hb := hb) (hk := hk) (hl := hl) (hd := hd))
  exact callWith_builtin1 (args_cons (wpAny_mono h (fun v s' hv => args_nil hv) fun _ _ x => x) he) he
/-- a def of the top called by its name with one thing handed -/
theorem wCall1 {f : Addr} {o : Obj} {fd : FuncData} {np pos : Pos} {n : Str} {e : Expr} {Q : Value → Shared → Prop} (S : Stat w s.heap) (hv : nsFind (mgEs w.params) n = some (.ref f)) (ho : (K w.params).lookup f = some o) (hd : o.data = .func fd)
    (h : Wp w A (eval e env) (fun v s' => Stat w s'.heap ∧ Wp w A (call (.ref f) [v]) Q s') s)
    (he : starEach [e] env = [(false, eval e env)] := by kernel_rfl)
    (hg : env.globals = mainGlobals := by kernel_rfl) (hk : env.scope.kind = .function := by kernel_rfl) (hl : env.kindOf n = some .globalImplicit := by kernel_rfl) (hdb : (n == ("__debug__" : Str)) = false := by decide +kernel) :
    Wp w A (eval (.Call (.Name n np) [e] [] pos) env) Q s := by
  refine Call_ (wG S hv ?_ (hg := hg) (hk := hk) (hl := hl) (hd := hdb))
  exact callWith_def hd (args_cons (wpAny_mono h (fun v s' hv => args_nil ⟨hv.1.at ho, hv.2⟩) fun _ _ x => x) he) he
end
theorem in_b1_ok (w : World) (c : Nat) (t : Tok) : Pure w 91 [.str (mkS [c]) t] 1 (fun _ => .bool (b1L.contains (c : Int))) := by
  intro A s Q R S hQ
  refine wCall (f := 91) (args := ⟨[.str (mkS [c]) t], []⟩) (binds := [("code", .str (mkS [c]) t)]) R S (o := o91 w.params) (by kernel_rfl) rfl rfl ⟨90, o90 w.params, _, _, rfl, S.at (by kernel_rfl), rfl, rfl⟩ (.of_eq (by kernel_rfl)) (fun h₀ hn hE S' R' => ?_)
  refine wpAny_execs_cons (wpAny_Return_some (wpAny_Compare1 (wCallB S' (id := "ord") (by kernel_rfl) (wN hn rfl (ord_of_one rfl ?_)))))
  refine wG S' (v := .ref 81) (by kernel_rfl) (wpAny_inSet_of (knd := intKind pw w) (k := (c : Int)) (by simp [intKind, Value.isInt]) rfl (b1_set S') ?_)
  exact hQ h₀ _ t hE

/-! the table's answers, and the small letters -/
theorem b3ents_keys : ∀ e ∈ b3ents, ∃ k t, e.key = .int k t ∧ e.hash = hashInt k := by
  have : (b3ents.all fun e => match e.key with | .int k _ => e.hash == hashInt k | _ => false) = true := by decide +kernel
  intro e he
  have h := List.all_eq_true.mp this e he
  cases hk : e.key with
  | int k t => rw [hk] at h; exact ⟨k, t, rfl, beq_iff_eq.mp h⟩
  | _ => rw [hk] at h; cases h
theorem b3_map {w : World} {h : Heap} (S : Stat w h) : Heap.MapOf (intKind pw w) h 92 (fun k => findBy (intKind pw w).is b3ents.toArray k) := by
  refine ⟨o92 w.params, b3ents.toArray, 650, S.at (by kernel_rfl), ⟨rfl, rfl, rfl⟩, rfl, fun e he => ?_, fun k => rfl⟩
  obtain ⟨k, t, h1, h2⟩ := b3ents_keys e (by simpa using he)
  exact ⟨k, by rw [h1]; simp [intKind, Value.isInt], h2⟩

/-- what map_table_b3 answers to one sign -/
noncomputable def b3R (c : Nat) : Str := match findBy Value.isInt b3ents.toArray (c : Int) with
  | some (.str x _) => x
  | some _ => mkS []
  | none => Txt.lower (mkS [c])
/-- the same, sought in the written table -/
noncomputable def b3F (c : Nat) : Str := match b3pairs.find? fun r => (c : Int) == r.1 with
  | some r => r.2
  | none => Txt.lower (mkS [c])
noncomputable def txtOf (o : Option Value) (d : Str) : Str := match o with
  | some (.str x _) => x
  | some _ => mkS []
  | none => d
theorem find_ents (st : Nat) (c : Int) : ∀ (rs : List (Int × Str)) (t : Nat) (o : Option DictEntry) (p : Option (Int × Str)) (d : Str), txtOf (o.map (·.val)) d = (p.map (·.2)).getD d →
    txtOf ((((ents st t rs).find? fun e => Value.isInt c e.key).or o).map (·.val)) d = (((rs.find? fun r => c == r.1).or p).map (·.2)).getD d
  | [], t, o, p, d, h => h
  | (i, x) :: r, t, o, p, d, h => by
    have e1 : Value.isInt c (Value.int i t) = (c == i) := by simp [Value.isInt, Bool.beq_comm]
    show txtOf (((((⟨i, .int i t, .str x (t + 1)⟩ : DictEntry) :: ents st (t + st) r).find? fun e => Value.isInt c e.key).or o).map (·.val)) d = _
    rw [List.find?_cons, List.find?_cons]
    dsimp only
    rw [e1]
    cases c == i with
    | true => rfl
    | false => exact find_ents st c r (t + st) o p d h
theorem b3R_eq (c : Nat) : b3R c = b3F c := by
  have h2 := find_ents 2 (c : Int) (b3pairs.drop 646) 2286 none none (Txt.lower (mkS [c])) rfl
  have h3 := find_ents 3 (c : Int) (b3pairs.take 646) 348 _ _ (Txt.lower (mkS [c])) h2
  rw [Option.or_none, ← List.find?_append, Option.or_none, ← List.find?_append, List.take_append_drop] at h3
  have e1 : b3R c = txtOf (((b3ents.find? fun e => Value.isInt (c : Int) e.key)).map (·.val)) (Txt.lower (mkS [c])) := by
    unfold b3R findBy txtOf
    rw [List.find?_toArray]
  have e2 : b3F c = ((b3pairs.find? fun r => (c : Int) == r.1).map (·.2)).getD (Txt.lower (mkS [c])) := by
    unfold b3F
    cases b3pairs.find? fun r => (c : Int) == r.1 <;> rfl
  rw [e1, e2]
  exact h3
theorem b3_vals : ∀ e ∈ b3ents, ∃ x t, e.val = .str x t := by
  have : (b3ents.all fun e => match e.val with | .str _ _ => true | _ => false) = true := by decide +kernel
  intro e he
  have h := List.all_eq_true.mp this e he
  cases hk : e.val with
  | str x t => exact ⟨x, t, rfl⟩
  | _ => rw [hk] at h; cases h
theorem b3_ok (w : World) (c : Nat) (t : Tok) : Pure w 137 [.str (mkS [c]) t] 1 (fun k => .str (b3R c) k) := by
  intro A s Q R S hQ
  refine wCall (f := 137) (args := ⟨[.str (mkS [c]) t], []⟩) (binds := [("code", .str (mkS [c]) t)]) R S (o := o137 w.params) (by kernel_rfl) rfl rfl ⟨136, o136 w.params, _, _, rfl, S.at (by kernel_rfl), rfl, rfl⟩ (.of_eq (by kernel_rfl)) (fun h₀ hn hE S' R' => ?_)
  refine wpAny_execs_cons (wpAny_Assign_Name (MethodCall_ (wG S' (v := .ref 92) (by kernel_rfl) ?_)))
  refine getMethod_builtin (b3_map S').typeIs PySem.F.plainAttrs_dict PySem.F.slot_dict_get PySem.F.type_dict_get (b3_map S').noDict ?_
  refine callWith_method1 (args_cons (wCallB S' (id := "ord") (by kernel_rfl) (wN hn rfl (ord_of_one rfl (args_nil ?_)))))
  refine call_meetsIn PySem.F.slot_dict_get (b3_map S').typeIs PySem.F.entry_dict_get (PySem.F.args_dict_get_2 _ _) (meets_dict_get (intKind pw w) 92 (intKind_is pw w c _) rfl) ⟨_, b3_map S', ?_⟩
  refine wSt hn (fun h1 hn1 hs1 => ?_)
  have hE1 : Ext s.heap h1 := fun b o e => (hs1.2 b (Nat.ne_of_lt (Heap.lt_size e))).trans (hE b o e)
  have e0 : b3R c = match findBy Value.isInt b3ents.toArray (c : Int) with | some (.str x _) => x | some _ => mkS [] | none => Txt.lower (mkS [c]) := rfl
  dsimp only at hn1 hs1 ⊢
  cases hf : findBy Value.isInt b3ents.toArray (c : Int) with
  | some v =>
    rw [hf] at e0
    have hv : ∃ x u, v = .str x u := by
      unfold findBy at hf
      obtain ⟨e, he, rfl⟩ := Option.map_eq_some_iff.mp hf
      exact b3_vals e (by simpa using Array.mem_of_find?_eq_some he)
    obtain ⟨x, u, rfl⟩ := hv
    have hr : (findBy (intKind pw w).is b3ents.toArray (c : Int)).getD .none = .str x u := by
      show (findBy Value.isInt b3ents.toArray (c : Int)).getD .none = _
      rw [hf]; rfl
    rw [hr] at hn1
    refine wpAny_execs_cons (wpAny_If (wpAny_isTrue_Compare1 (wN hn1 rfl (wpAny_Constant_none (isnot_str_none (wpAny_truthy_bool ?_))))))
    rw [if_pos rfl]
    refine wpAny_execs_cons (wpAny_Return_some (wN hn1 rfl ?_))
    have e1 : x = b3R c := e0.symm
    rw [e1]
    exact hQ h1 _ _ hE1
  | none =>
    rw [hf] at e0
    have hr : (findBy (intKind pw w).is b3ents.toArray (c : Int)).getD .none = .none := by
      show (findBy Value.isInt b3ents.toArray (c : Int)).getD .none = _
      rw [hf]; rfl
    rw [hr] at hn1
    refine wpAny_execs_cons (wpAny_If (wpAny_isTrue_Compare1 (wN hn1 rfl (wpAny_Constant_none (isnot_none_none (wpAny_truthy_bool ?_))))))
    rw [if_neg Bool.false_ne_true]
    refine wpAny_execs_nil (wpAny_execs_cons (wpAny_Return_some (MethodCall_ (wN hn1 rfl (GM.lower (callWith_method0 (SCL.lower (by show (1 : Nat) ≤ _; decide) fun _ => ?_)))))))
    have e1 : Txt.lower (mkS [c]) = b3R c := e0.symm
    rw [e1]
    exact hQ h1 _ _ hE1
end Mine

namespace Mine
open PySem PySem.W PySem.Calls PyProof.Rows

section
variable {w : World} {A : Around} {env : Env} {s : Shared} {pos : Pos} {rest : List Expr} {Q : List Value → Shared → Prop}
theorem aC {c : Const} {k : Nat} {p : Pos} (h : Wp w A (eval (.Constant c k p) env) (fun v s₁ => Wp w A (spliced (backTo pos (starEach rest env))) (fun vs s₂ => Q (v :: vs) s₂) s₁) s) :
    Wp w A (spliced (backTo pos (starEach (.Constant c k p :: rest) env))) Q s := args_cons h rfl
theorem aInt {i : Int} {k : Nat} {p : Pos} (h : Wp w A (spliced (backTo pos (starEach rest env))) (fun vs s₂ => Q (.int i s.toks :: vs) s₂) { s with toks := s.toks + 1 }) :
    Wp w A (spliced (backTo pos (starEach (.Constant (.int i) k p :: rest) env))) Q s := aC (wpAny_Constant_int h)
theorem aN {x : Str} {p : Pos} (h : Wp w A (eval (.Name x p) env) (fun v s₁ => Wp w A (spliced (backTo pos (starEach rest env))) (fun vs s₂ => Q (v :: vs) s₂) s₁) s) :
    Wp w A (spliced (backTo pos (starEach (.Name x p :: rest) env))) Q s := args_cons h rfl
theorem aCall {f : Expr} {as : List Expr} {ks : List Keyword} {p : Pos} (h : Wp w A (eval (.Call f as ks p) env) (fun v s₁ => Wp w A (spliced (backTo pos (starEach rest env))) (fun vs s₂ => Q (v :: vs) s₂) s₁) s) :
    Wp w A (spliced (backTo pos (starEach (.Call f as ks p :: rest) env))) Q s := args_cons h rfl
theorem aBin {l r : Expr} {o : Operator} {p : Pos} (h : Wp w A (eval (.BinOp l o r p) env) (fun v s₁ => Wp w A (spliced (backTo pos (starEach rest env))) (fun vs s₂ => Q (v :: vs) s₂) s₁) s) :
    Wp w A (spliced (backTo pos (starEach (.BinOp l o r p :: rest) env))) Q s := args_cons h rfl
theorem aSub {l r : Expr} {p : Pos} (h : Wp w A (eval (.Subscript l r p) env) (fun v s₁ => Wp w A (spliced (backTo pos (starEach rest env))) (fun vs s₂ => Q (v :: vs) s₂) s₁) s) :
    Wp w A (spliced (backTo pos (starEach (.Subscript l r p :: rest) env))) Q s := args_cons h rfl
theorem aComp {e : Expr} {g : List Comprehension} {sc : Scope} {p : Pos} (h : Wp w A (eval (.ListComp e g sc p) env) (fun v s₁ => Wp w A (spliced (backTo pos (starEach rest env))) (fun vs s₂ => Q (v :: vs) s₂) s₁) s) :
    Wp w A (spliced (backTo pos (starEach (.ListComp e g sc p :: rest) env))) Q s := args_cons h rfl
theorem aList {es : List Expr} {p : Pos} (h : Wp w A (eval (.List es p) env) (fun v s₁ => Wp w A (spliced (backTo pos (starEach rest env))) (fun vs s₂ => Q (v :: vs) s₂) s₁) s) :
    Wp w A (spliced (backTo pos (starEach (.List es p :: rest) env))) Q s := args_cons h rfl
theorem aNil (h : Q [] s) : Wp w A (spliced (backTo pos (starEach [] env))) Q s := args_nil h
end
/-! ## _law_unseen -/
noncomputable def unL : List Nat := [65024, 65025, 65026, 65027, 65028, 65029, 65030, 65031, 65032, 65033, 65034, 65035, 65036, 65037, 65038, 65039, 173, 847, 6150, 6155, 6156, 6157, 8203, 8204, 8205, 8288, 65279]
theorem getInt {w : World} {A : Around} {s : Shared} {l : Addr} {items : Array Value} {k : Int} {t : Tok} {v : Int} {Q : Value → Shared → Prop} (hl : s.heap.IsList l items) (h0 : 0 ≤ k) (h1 : k < 2 ^ 63)
    (hx : ∃ tk, items[k.toNat]? = some (.int v tk)) (h : ∀ tk, Q (.int v tk) s) : Wp w A (getItem (.ref l) (.int k t)) Q s := by
  obtain ⟨tk, hx⟩ := hx
  exact wpAny_getItem_list hl h0 h1 hx (h tk)
theorem un_item {k : Nat} (h1 : ¬ k < 16) (h2 : k < 27) (t0 t1 t2 t3 t4 t5 t6 t7 t8 t9 t10 : Tok) :
    ∃ tk, (#[Value.int 173 t0, .int 847 t1, .int 6150 t2, .int 6155 t3, .int 6156 t4, .int 6157 t5, .int 8203 t6, .int 8204 t7, .int 8205 t8, .int 8288 t9, .int 65279 t10] : Array Value)[((k : Int) - 16).toNat]? = some (.int (unL.getD k 0 : Nat) tk) := by
  obtain ⟨j, hj⟩ : ∃ j, k = j + 16 := ⟨k - 16, by omega⟩
  have hk' : ((k : Int) - 16).toNat = j := by omega
  rw [hk', hj]
  rcases (by omega : j = 0 ∨ j = 1 ∨ j = 2 ∨ j = 3 ∨ j = 4 ∨ j = 5 ∨ j = 6 ∨ j = 7 ∨ j = 8 ∨ j = 9 ∨ j = 10) with h | h | h | h | h | h | h | h | h | h | h <;> subst h <;> exact ⟨_, rfl⟩
theorem un_le (k : Nat) : unL.getD k 0 ≤ 1114111 := by
  rcases Nat.lt_or_ge k 27 with h | h
  · have : ∀ j : Fin 27, unL.getD j.val 0 ≤ 1114111 := by decide +kernel
    exact this ⟨k, h⟩
  · rw [List.getD_eq_getElem?_getD, List.getElem?_eq_none (by exact h)]; decide
theorem unseen_ok (w : World) (k : Nat) (t : Tok) (hk : k < 27) : Pure w 144 [.int (k : Int) t] 1 (fun u => .str (mkS [unL.getD k 0]) u) := by
  intro A s Q R S hQ
  refine wCall (f := 144) (args := ⟨[.int (k : Int) t], []⟩) (binds := [("k", .int (k : Int) t)]) R S (o := o144 w.params) (by kernel_rfl) rfl rfl ⟨143, o143 w.params, _, _, rfl, S.at (by kernel_rfl), rfl, rfl⟩ (.of_eq (by kernel_rfl)) (fun h₀ hn hE S' R' => ?_)
  refine wpAny_execs_cons (wpAny_If (wpAny_isTrue_Compare1 (wN hn rfl (wpAny_Constant_int (lt_int (wpAny_truthy_bool ?_))))))
  by_cases h1 : k < 16
  · rw [decide_eq_true (by omega : (k : Int) < 16), if_pos rfl]
    refine wpAny_execs_cons (wpAny_Return_some (wCallB S' (id := "chr") (by kernel_rfl) (wpAny_BinOp (wpAny_Constant_int (wN hn rfl (add_int (chr_of_range (by omega) (by omega) ?_)))))))
    have e : (65024 + (k : Int)).toNat = unL.getD k 0 := by
      have : ∀ j : Fin 16, (65024 + (j.val : Int)).toNat = unL.getD j.val 0 := by decide
      exact this ⟨k, h1⟩
    dsimp only
    rw [e]
    exact hQ h₀ _ _ hE
  · rw [decide_eq_false (by omega : ¬ (k : Int) < 16), if_neg Bool.false_ne_true]
    refine wpAny_execs_nil ?_
    refine wpAny_execs_cons ?_
    refine wpAny_Return_some ?_
    refine wCallB S' (id := "chr") (by kernel_rfl) ?_
    refine Subscript_ ?_
    refine List_ ?_
    iterate 11 (refine aInt ?_; dsimp only)
    refine aNil (wpAny_newList ?_)
    refine wpAny_BinOp (wN (hn.push _) rfl (wpAny_Constant_int (sub_int ?_)))
    have hL : ∀ (vs : Array Value), ((h₀.push { cls := .type "list", data := .seq vs } : Heap)).IsList h₀.objs.size vs := fun vs => ⟨_, Heap.get?_push_size _ rfl, rfl, _, rfl⟩
    have a1 : (0 : Int) ≤ (k : Int) - 16 := by omega
    have a2 : (k : Int) - 16 < 2 ^ 63 := by omega
    have a3 : (0 : Int) ≤ ((unL.getD k 0 : Nat) : Int) := Int.natCast_nonneg _
    have a4 : ((unL.getD k 0 : Nat) : Int) ≤ 1114111 := Int.ofNat_le.mpr (un_le k)
    refine tail_any (hL _).typeIs slot_list_getitem.lookup ?_ rfl
    refine getInt (hL _) a1 a2 (un_item h1 hk _ _ _ _ _ _ _ _ _ _ _) fun tk => ?_
    refine chr_of_range a3 a4 ?_
    dsimp only
    rw [Int.toNat_natCast]
    exact hQ _ _ _ (fun b o h => Heap.get?_push_of_some _ (hE b o h))
end Mine

namespace Mine
open PySem PySem.W PySem.Calls PyProof.Rows

/-! ## parse257 -/
/-- the name that a reply's text tells -/
noncomputable def parse : List Nat → List Nat
  | [] => []
  | c :: r => if c = 34 then (match r with
    | d :: r' => if d = 34 then 34 :: parse r' else []
    | [] => []) else c :: parse r
noncomputable def op257 : List Nat := [50, 53, 55, 32, 34]
theorem parse_len : ∀ l : List Nat, (parse l).length ≤ l.length
  | [] => Nat.le_refl _
  | [c] => by unfold parse; split <;> simp [parse]
  | c :: d :: r => by
    unfold parse
    split
    · dsimp only; split
      · have := parse_len r; simp; omega
      · simp
    · have := parse_len (d :: r); simp at this ⊢; omega
section
variable {w : World} {A : Around} {env : Env} {s : Shared}
theorem bigOk {i : Nat} (h : i ≤ 1000) : (decide ((i : Int) < -(2 ^ 63 : Int)) || decide ((i : Int) ≥ 2 ^ 63)) = false := by
  have h1 : ¬ (i : Int) < -(2 ^ 63 : Int) := by omega
  have h2 : ¬ (i : Int) ≥ 2 ^ 63 := by omega
  rw [decide_eq_false h1, decide_eq_false h2]; rfl
theorem wAddS {a b : List Nat} {t u : Tok} {Q : Value → Shared → Prop} (h : ∀ t' k, Q (.str (mkS (a ++ b)) t') { s with toks := k }) (hs : a.length + b.length ≤ 10000) : Wp w A (binaryOp .Add (.str (mkS a) t) (.str (mkS b) u)) Q s := by
  refine PyProof.Rows.add_str (fun t' k => ?_) ?_
  · rw [mkS_app]; exact h t' k
  · rw [mkS_len, mkS_len]; show _ ≤ 2 ^ 24; omega
theorem lenOk {l : List Nat} (h : l.length ≤ 1000) : (mkS l).length ≤ sizeLine := by rw [mkS_len]; show _ ≤ 2 ^ 24; omega
end
theorem ext1 {h₀ h h1 : Heap} {l : Addr} (hE : Ext h₀ h) (hl : l = h₀.objs.size) (hs : Heap.SameBut l h h1) : Ext h₀ h1 := fun b o e => (hs.2 b (by rw [hl]; exact Nat.ne_of_lt (Heap.lt_size e))).trans (hE b o e)
theorem parse_step {l : List Nat} {c : Nat} (h : c ≠ 34) : parse (c :: l) = c :: parse l := by
  conv => lhs; unfold parse
  rw [if_neg h]
theorem parse_q {l : List Nat} : parse (34 :: 34 :: l) = 34 :: parse l := by
  conv => lhs; unfold parse
  rfl
theorem parse_e {l : List Nat} (h : l = [] ∨ ∃ d r, l = d :: r ∧ d ≠ 34) : parse (34 :: l) = [] := by
  conv => lhs; unfold parse
  rw [if_pos rfl]
  rcases h with rfl | ⟨d, r, rfl, hd⟩
  · rfl
  · dsimp only; rw [if_neg hd]
section
variable {w : World} {A : Around} {env : Env} {s : Shared}
theorem wSlice {value : Expr} {lower upper : Option Expr} {p pos : Pos} {Q : Value → Shared → Prop}
    (h : Wp w A (eval value env) (fun o s₁ => Wp w A (evalPart lower env) (fun vl s₂ => Wp w A (evalPart upper env) (fun vu s₃ =>
      ∃ (x : Str) (t : Tok) (l u : Option (Int × Tok)) (a b : Nat), o = .str x t ∧ vl = partValue l ∧ vu = partValue u ∧ ((l = none ∧ a = 0) ∨ ∃ k, l = some ((a : Int), k)) ∧ ((u = none ∧ x.length ≤ b) ∨ ∃ k, u = some ((b : Int), k)) ∧ x.length ≤ sizeLine ∧
        ∀ h' t' k, Ext s₃.heap h' → Q (.str (mkS (((Lx x).take b).drop a)) t') { s₃ with heap := h', toks := k }) s₂) s₁) s)
    (ht : ∀ o r, letTemporaryGo value o r = pure () := by intro _ _; rfl) : Wp w A (eval (.Subscript value (.Slice lower upper none p) pos) env) Q s := by
  refine wpAny_Subscript_str_slice (wpAny_mono h (fun o s1 h1 => wpAny_mono h1 (fun vl s2 h2 => wpAny_mono h2 (fun vu s3 h3 => ?_) fun _ _ x => x) fun _ _ x => x) fun _ _ x => x) ht
  obtain ⟨x, t, l, u, a, b, rfl, rfl, rfl, hl, hu, hx, hq⟩ := h3
  exact ⟨x, t, l, u, rfl, rfl, rfl, slice_post hl hu hx fun t' k => hq _ t' k (fun b o e => Heap.get?_push_of_some _ e)⟩
theorem wIfF {test : Expr} {body orelse : List Stmt} {pos : Pos} {Q : Flow → Shared → Prop} (h : Wp w A (isTrue test env (eval test env)) (fun b s' => b = false ∧ Wp w A (execs orelse env) Q s') s) : Wp w A (exec (.If test body orelse pos) env) Q s := by
  refine wpAny_If (wpAny_mono h (fun b s' hb => ?_) fun _ _ x => x)
  obtain ⟨rfl, hb⟩ := hb
  rw [if_neg Bool.false_ne_true]; exact hb
theorem wIfT {test : Expr} {body orelse : List Stmt} {pos : Pos} {Q : Flow → Shared → Prop} (h : Wp w A (isTrue test env (eval test env)) (fun b s' => b = true ∧ Wp w A (execs body env) Q s') s) : Wp w A (exec (.If test body orelse pos) env) Q s := by
  refine wpAny_If (wpAny_mono h (fun b s' hb => ?_) fun _ _ x => x)
  obtain ⟨rfl, hb⟩ := hb
  rw [if_pos rfl]; exact hb
end
theorem parse_ok (w : World) (body : List Nat) (t : Tok) (hb : body.length ≤ 900) : Pure w 73 [.str (mkS (op257 ++ body)) t] 1 (fun k => .str (mkS (parse body)) k) := by
  intro A s Q R S hQ
  have hlen : (op257 ++ body).length = body.length + 5 := by rw [List.length_append]; show 5 + _ = _; omega
  have hle : (op257 ++ body).length ≤ 1000 := by omega
  have hml : (mkS (op257 ++ body)).length = body.length + 5 := by rw [mkS_len, hlen]
  refine wCall (f := 73) (args := ⟨[.str (mkS (op257 ++ body)) t], []⟩) (binds := [("resp", .str (mkS (op257 ++ body)) t)]) R S (o := o73 w.params) (by kernel_rfl) rfl rfl ⟨72, o72 w.params, _, _, rfl, S.at (by kernel_rfl), rfl, rfl⟩ (.of_eq (by kernel_rfl)) (fun h₀ hn hE S' R' => ?_)
  refine wpAny_execs_cons (wIfF (wpAny_isTrue_Compare1 (wSlice ?_)))
  refine wN hn rfl (wpAny_evalPart_none (wpAny_evalPart_some (wpAny_Constant_int ⟨_, _, none, some (3, _), 0, 3, rfl, rfl, rfl, .inl ⟨rfl, rfl⟩, .inr ⟨_, rfl⟩, lenOk hle, fun h1 t1 k1 hx1 => ?_⟩)))
  refine wpAny_Constant_str (P.ne_str (wpAny_truthy_bool ⟨rfl, wpAny_execs_nil ?_⟩))
  dsimp only at hx1 ⊢
  have hn1 := hn.keeps hx1
  have hE1 := hE.trans hx1
  refine wpAny_execs_cons (wIfF (wpAny_isTrue_Compare1 (wSlice ?_)))
  refine wN hn1 rfl (wpAny_evalPart_some (wpAny_Constant_int (wpAny_evalPart_some (wpAny_Constant_int ⟨_, _, some (3, _), some (5, _), 3, 5, rfl, rfl, rfl, .inr ⟨_, rfl⟩, .inr ⟨_, rfl⟩, lenOk hle, fun h2 t2 k2 hx2 => ?_⟩))))
  refine wpAny_Constant_str (P.ne_str (wpAny_truthy_bool ⟨rfl, wpAny_execs_nil ?_⟩))
  dsimp only at hx2 ⊢
  have hn2 := hn1.keeps hx2
  have hE2 := hE1.trans hx2
  clear hn1 hE1 hx1 hx2
  refine wpAny_execs_cons (wpAny_Assign_Name (wpAny_Constant_str (wSt hn2 (fun h3 hn3 hs3 => ?_))))
  have hE3 := ext1 hE2 rfl hs3
  dsimp only at hn3 hs3 hE3 ⊢
  refine wpAny_execs_cons (wpAny_Assign_Name (wpAny_Constant_int (wSt hn3 (fun h4 hn4 hs4 => ?_))))
  have hE4 := ext1 hE3 rfl hs4
  dsimp only at hn4 hs4 hE4 ⊢
  refine wpAny_execs_cons (wpAny_Assign_Name (wLenStr (S.ext hE4) (wN hn4 rfl ⟨_, _, rfl, by rw [hml]; omega, fun k5 => wSt hn4 (fun h5 hn5 hs5 => ?_)⟩)))
  have hE5 := ext1 hE4 rfl hs5
  rw [hml] at hn5
  dsimp only at hn5 hs5 hE5 ⊢
  clear hE2 hn2 hs3 hE3 hn3 hs4 hE4 hn4 hs5
  refine wpAny_execs_cons ?_
  refine wWhile (I := fun n s' => ∃ (i : Nat) (acc : List Nat) (tk ti tn k : Nat) (h : Heap) (m : Str → Option Value), n = (op257 ++ body).length - i ∧ 5 ≤ i ∧ i ≤ (op257 ++ body).length ∧ acc.length ≤ i ∧ acc ++ parse ((op257 ++ body).drop i) = parse body ∧
      s' = { s with heap := h, toks := k } ∧ Ext s.heap h ∧ h.Ns s.heap.objs.size m ∧ m "resp" = some (.str (mkS (op257 ++ body)) t) ∧ m "dirname" = some (.str (mkS acc) tk) ∧ m "i" = some (.int i ti) ∧ m "n" = some (.int (op257 ++ body).length tn)) ?_ ((op257 ++ body).length - 5)
    ⟨5, [], _, _, _, _, h5, _, rfl, Nat.le_refl _, by omega, by simp, rfl, rfl, hE5, hn5, rfl, rfl, rfl, by rw [hlen]; rfl⟩
  clear hn5 hE5
  generalize op257 ++ body = r at hQ hlen hle hml ⊢
  rintro n s' ⟨i, acc, tk, ti, tn, k, h, m, rfl, hi5, hir, hacc, hp, rfl, hE, hn, m1, m2, m3, m4⟩
  dsimp only
  refine wpAny_isTrue_Compare1 (wN hn m3 (wN hn m4 (lt_int (wpAny_truthy_bool ?_))))
  by_cases hi : i < r.length
  · rw [decide_eq_true (by omega : (i : Int) < (r.length : Int)), if_pos rfl]
    refine wpAny_execs_cons (wpAny_Assign_Name ?_)
    refine wpAny_Subscript_Name F.slot_str_getitem.lookup (wN hn m1 (wN hn m3 ⟨typeIs_str _ _ _, P.getItem_str (bigOk (by omega)) (item_at (x := mkS r) hi) ?_⟩))
    refine wSt hn (fun h1 hn1 hs1 => ?_)
    have hE1 := ext1 hE rfl hs1
    dsimp only at hn1 hs1 hE1 ⊢
    refine wpAny_execs_cons (wpAny_Assign_Name (wpAny_BinOp (wN hn1 m3 (wpAny_Constant_int (add_int (wSt hn1 (fun h2 hn2 hs2 => ?_)))))))
    have hE2 := ext1 hE1 rfl hs2
    dsimp only at hn2 hs2 hE2 ⊢
    have hd := List.drop_eq_getElem_cons hi
    rw [show (Lx (mkS r))[i] = r[i] from rfl] at hn2
    rw [hd] at hp
    generalize r[i] = c at hp hn2
    refine wpAny_execs_cons (wpAny_If (wpAny_isTrue_Compare1 (wN hn2 rfl (wpAny_Constant_str (P.eq_str (wpAny_truthy_bool ?_))))))
    by_cases hc : c = 34
    · subst hc
      rw [show ((({ cps := #[34] } : Str)).cps.toList == (Str.ofString "\"").cps.toList) = true from rfl, if_pos rfl]
      have e0 : parse (34 :: List.drop (i + 1) r) = [] → acc = parse body := fun e => by rw [← hp, e, List.append_nil]
      refine wpAny_execs_cons (wpAny_If (wpAny_isTrue_BoolOp (wpAny_allTrue_Or_cons (wpAny_isTrue_Compare1 (wN hn2 rfl (wN hn2 m4 (ge_int (wpAny_truthy_bool ?_))))))))
      by_cases h1 : i + 1 < r.length
      · rw [decide_eq_false (by omega : ¬ ((i : Int) + 1 ≥ (r.length : Int))), if_neg Bool.false_ne_true]
        have hd1 := List.drop_eq_getElem_cons h1
        refine wpAny_allTrue_Or_cons (wpAny_isTrue_Compare1 ?_)
        refine wpAny_Subscript_Name F.slot_str_getitem.lookup (wN hn2 m1 (wN hn2 rfl ⟨typeIs_str _ _ _, P.getItem_str (bigOk (i := i + 1) (by omega)) (item_at (x := mkS r) h1) ?_⟩))
        refine wpAny_Constant_str (P.ne_str (wpAny_truthy_bool ?_))
        rw [show (Lx (mkS r))[i + 1] = r[i + 1] from rfl]
        rw [hd1] at hp e0
        generalize r[i + 1] = d at hp e0
        by_cases hdq : d = 34
        · subst hdq
          rw [show ((({ cps := #[34] } : Str)).cps.toList != (Str.ofString "\"").cps.toList) = false from rfl, if_neg Bool.false_ne_true]
          refine wpAny_allTrue_Or_nil ?_
          rw [if_neg Bool.false_ne_true]
          refine wpAny_execs_nil (wpAny_execs_cons (wpAny_Assign_Name (wpAny_BinOp (wN hn2 rfl (wpAny_Constant_int (add_int (wSt hn2 (fun h3 hn3 hs3 => ?_))))))))
          have hE3 := ext1 hE2 rfl hs3
          dsimp only at hn3 hs3 hE3 ⊢
          refine wpAny_execs_nil (wpAny_execs_cons (wpAny_Assign_Name (wpAny_BinOp (wN hn3 m2 (wN hn3 rfl ?_)))))
          refine wAddS (b := [34]) (fun t' k3 => ?_) (by show _ + 1 ≤ _; omega)
          refine wSt hn3 (fun h4 hn4 hs4 => ?_)
          have hE4 := ext1 hE3 rfl hs4
          dsimp only at hn4 hs4 hE4 ⊢
          refine wpAny_execs_nil ⟨r.length - (i + 2), by omega, i + 2, acc ++ [34], _, _, _, _, h4, _, rfl, by omega, by omega, by rw [List.length_append]; show _ + 1 ≤ _; omega, ?_, rfl, hE4, hn4, m1, rfl, rfl, m4⟩
          rw [← hp, parse_q, List.append_assoc]; rfl
        · rw [show ((({ cps := #[d] } : Str)).cps.toList != (Str.ofString "\"").cps.toList) = true from by
            show ([d] != [34]) = true
            simpa using hdq, if_pos rfl]
          rw [if_pos rfl]
          refine wpAny_execs_cons (wpAny_Break ?_)
          refine wpAny_execs_cons (wpAny_Return_some (wN hn2 m2 ?_))
          rw [e0 (parse_e (.inr ⟨d, _, rfl, hdq⟩))]
          exact hQ h2 _ _ hE2
      · rw [decide_eq_true (by omega : ((i : Int) + 1 ≥ (r.length : Int))), if_pos rfl]
        rw [if_pos rfl]
        refine wpAny_execs_cons (wpAny_Break ?_)
        refine wpAny_execs_cons (wpAny_Return_some (wN hn2 m2 ?_))
        rw [e0 (parse_e (.inl (List.drop_eq_nil_of_le (by omega))))]
        exact hQ h2 _ _ hE2
    · rw [show ((({ cps := #[c] } : Str)).cps.toList == (Str.ofString "\"").cps.toList) = false from by
        show ([c] == [34]) = false
        simpa using hc, if_neg Bool.false_ne_true]
      refine wpAny_execs_nil (wpAny_execs_cons (wpAny_Assign_Name (wpAny_BinOp (wN hn2 m2 (wN hn2 rfl (wAddS (b := [c]) (fun t' k3 => wSt hn2 (fun h3 hn3 hs3 => ?_)) (by show _ + 1 ≤ _; omega)))))))
      have hE3 := ext1 hE2 rfl hs3
      dsimp only at hn3 hs3 hE3 ⊢
      refine wpAny_execs_nil ⟨r.length - (i + 1), by omega, i + 1, acc ++ [c], _, _, _, _, h3, _, rfl, by omega, by omega, by rw [List.length_append]; show _ + 1 ≤ _; omega, ?_, rfl, hE3, hn3, m1, rfl, rfl, m4⟩
      rw [← hp, parse_step hc, List.append_assoc]; rfl
  · rw [decide_eq_false (by omega : ¬ (i : Int) < (r.length : Int)), if_neg Bool.false_ne_true]
    refine wpAny_execs_nil (wpAny_execs_cons (wpAny_Return_some (wN hn m2 ?_)))
    have e : acc = parse body := by rw [← hp, List.drop_eq_nil_of_le (by omega)]; show _ = acc ++ []; rw [List.append_nil]
    rw [e]; exact hQ h _ _ hE
end Mine

namespace Mine
open PySem PySem.W PySem.Calls PyProof.Rows

/-! ## comprehensions -/
/-- a walk over v hands out n things, of which P tells -/
noncomputable def Seqs (w : World) (A : Around) (v : Value) (s : Shared) (n : Nat) (P : Nat → Value → Prop) : Prop :=
  ∀ Q : Value → Shared → Prop, (∀ I fp wr St h', Walks pw w A I fp wr n P St → Ext s.heap h' → (∀ b ∈ wr, s.heap.get? b = none) → St 0 h' → (∀ b ∈ fp, b < h'.objs.size) → Q (.ref I) { s with heap := h' }) → Wp w A (pyIter v) Q s
theorem fresh_at {h : Heap} {a : Addr} (ha : h.objs.size ≤ a) : h.get? a = none := by
  cases e : h.get? a with
  | none => rfl
  | some o' => exact absurd (Heap.lt_size e) (Nat.not_lt.mpr ha)
noncomputable abbrev RS (v : Value) (l : List Nat) : Prop := ∃ t, v = .str (mkS l) t
noncomputable abbrev RI (v : Value) (i : Int) : Prop := ∃ t, v = .int i t
theorem RS_uniq {v : Value} {a b : List Nat} (h : RS v a) (h' : RS v b) : a = b := by
  obtain ⟨t, rfl⟩ := h; obtain ⟨u, e⟩ := h'
  injection e with e1 e2; exact mkS_inj e1
theorem RI_uniq {v : Value} {a b : Int} (h : RI v a) (h' : RI v b) : a = b := by
  obtain ⟨t, rfl⟩ := h; obtain ⟨u, e⟩ := h'
  injection e with e1 e2
theorem Paired.get {α β : Type} {F : α → β → Prop} : ∀ {l₁ : List α} {l₂ : List β}, Paired F l₁ l₂ → ∀ {i : Nat} {b : β}, l₂[i]? = some b → ∃ a, l₁[i]? = some a ∧ F a b
  | _, _, .nil, _, _, h => by simp at h
  | _, _, .cons h _, 0, _, e => by simp at e; subst e; exact ⟨_, rfl, h⟩
  | _, _, .cons _ t, i + 1, _, e => by simp at e; simpa using Paired.get t e
theorem Paired.getL {α β : Type} {F : α → β → Prop} : ∀ {l₁ : List α} {l₂ : List β}, Paired F l₁ l₂ → ∀ {i : Nat} {a : α}, l₁[i]? = some a → ∃ b, l₂[i]? = some b ∧ F a b
  | _, _, .nil, _, _, h => by simp at h
  | _, _, .cons h _, 0, _, e => by simp at e; subst e; exact ⟨_, rfl, h⟩
  | _, _, .cons _ t, i + 1, _, e => by simp at e; simpa using Paired.getL t e
theorem Paired.ofGet {α β : Type} {F : α → β → Prop} : ∀ {l₁ : List α} {l₂ : List β}, l₁.length = l₂.length → (∀ (i : Nat) (a : α), l₁[i]? = some a → ∃ b, l₂[i]? = some b ∧ F a b) → Paired F l₁ l₂
  | [], [], _, _ => .nil
  | a :: l, b :: m, hl, h => by
    refine .cons ?_ (Paired.ofGet (by simpa using hl) fun i a' ha => ?_)
    · obtain ⟨b', h1, h2⟩ := h 0 a rfl
      simp at h1; subst h1; exact h2
    · obtain ⟨b', h1, h2⟩ := h (i + 1) a' (by simpa using ha)
      exact ⟨b', by simpa using h1, h2⟩
theorem seqStr {w : World} {A : Around} {s : Shared} {l : List Nat} {t : Tok} (hh : A.handled = none) : Seqs w A (.str (mkS l) t) s l.length (fun i v => ∃ a, l[i]? = some a ∧ RS v [a]) := by
  intro Q h
  refine wpAny_pyIter_str fun o St W st => ?_
  have W' := W A hh
  have e : (SignAt (mkS l)) = fun i v => ∃ a, l[i]? = some a ∧ RS v [a] := by
    funext i v
    apply propext
    constructor
    · rintro ⟨c, u, hc, rfl⟩
      exact ⟨c, by simpa using hc, u, rfl⟩
    · rintro ⟨c, hc, u, rfl⟩
      exact ⟨c, u, by simpa using hc, rfl⟩
  rw [e] at W'
  have e2 : (mkS l).cps.size = l.length := List.size_toArray
  rw [e2] at W'
  refine h _ _ _ _ _ W' (fun b o e => Heap.get?_push_of_some _ e) (fun b hb => ?_) st (fun b hb => ?_)
  · rw [List.mem_singleton.mp hb]; exact fresh_at (Nat.le_refl _)
  · rw [List.mem_singleton.mp hb, Heap.size_push]; exact Nat.lt_succ_self _
theorem seqList {w : World} {A : Around} {s : Shared} {l : Addr} {items : Array Value} {α : Type} {R : Value → α → Prop} {xs : List α} (hh : A.handled = none) (hl : s.heap.IsList l items) (hx : Paired R items.toList xs) :
    Seqs w A (.ref l) s xs.length (fun i v => ∃ a, xs[i]? = some a ∧ R v a) := by
  intro Q h
  refine wpAny_pyIter_list hl ?_
  obtain ⟨o, ho, hr⟩ := id hl
  have hlt := Heap.lt_size ho
  have hne : l ≠ s.heap.objs.size := Nat.ne_of_lt hlt
  have W := Walks.list (prog := pw) (w := w) (A := A) hh s.heap.objs.size l hne items
  have hlen : items.size = xs.length := by rw [← hx.length]; exact (Array.length_toList).symm
  have W' : Walks pw w A s.heap.objs.size [s.heap.objs.size, l] [s.heap.objs.size] xs.length (fun i v => ∃ a, xs[i]? = some a ∧ R v a) _ := {
    sub := W.sub
    frame := W.frame
    item := fun i s Q E hi st hQ => W.item i s Q E (by omega) st (fun v h' tk hv => hQ v h' tk (Paired.getL hx (by simpa using hv)))
    done := fun s Q E st hQ => W.done s Q E (by rw [hlen]; exact st) hQ
    self := W.self }
  refine h _ _ _ _ _ W' (fun b o e => Heap.get?_push_of_some _ e) (fun b hb => ?_) ⟨⟨_, Heap.get?_push_size _ rfl, rfl, rfl⟩, hl.push _⟩ (fun b hb => ?_)
  · rw [List.mem_singleton.mp hb]; exact fresh_at (Nat.le_refl _)
  · rw [Heap.size_push]
    simp at hb
    rcases hb with rfl | rfl
    · exact Nat.lt_succ_self _
    · exact Nat.lt_succ_of_lt hlt
theorem forIn1 {w : World} {A : Around} {env : Env} {c : Expr} {s : Shared} {Q : Bool → Shared → Prop} {E : Value → Shared → Prop} (h : Wp w A (isTrue c env (eval c env)) Q s) :
    wpAny (model pw w) A (forIn [c] true fun c r => if r = true then do let ok ← isTrue c env (eval c env); pure (ForInStep.yield ok) else pure (ForInStep.yield r)) Q E s := by
  simp only [List.forIn_cons, List.forIn_nil, if_true]
  refine wpAny_bind (wpAny_bind (wpAny_mono h (fun b s hb => wpAny_pure (wpAny_pure hb)) fun _ _ x => x.elim))
theorem forIn0 {w : World} {A : Around} {env : Env} {s : Shared} {Q : Bool → Shared → Prop} {E : Value → Shared → Prop} (h : Q true s) :
    wpAny (model pw w) A (forIn ([] : List Expr) true fun c r => if r = true then do let ok ← isTrue c env (eval c env); pure (ForInStep.yield ok) else pure (ForInStep.yield r)) Q E s := by
  simp only [List.forIn_nil]
  exact wpAny_pure h
theorem paired_out {α β : Type} {R1 : Value → α → Prop} {R2 : Value → β → Prop} {q : α → Bool} {g : α → β} {p : Value → Bool} (hp : ∀ v a, R1 v a → p v = q a) :
    ∀ {vs : List Value} {xs : List α} {ys : List Value}, Paired R1 vs xs → Paired (fun v y => ∀ a, R1 v a → R2 y (g a)) (vs.filter p) ys → Paired R2 ys ((xs.filter q).map g)
  | _, _, ys, .nil, h => by cases h; exact .nil
  | v :: vs, a :: xs, ys, .cons h t, hF => by
    have e := hp v a h
    rw [List.filter_cons] at hF ⊢
    rw [e] at hF
    cases hq : q a with
    | true =>
      rw [hq] at hF
      simp only [if_true] at hF ⊢
      cases hF with
      | cons h1 h2 => exact .cons (h1 a h) (paired_out hp t h2)
    | false =>
      rw [hq] at hF
      simp only [Bool.false_eq_true, if_false] at hF ⊢
      exact paired_out hp t hF
open Classical in
theorem quiet {w : World} {A : Around} {env : Env} {scope : Scope} {cl : List (Str × Addr)} {x : Str} {ifs : List Expr} {elt : Expr} {wr : List Addr} {α β : Type} {R1 : Value → α → Prop} {R2 : Value → β → Prop} (xs : List α) (q : α → Bool) (g : α → β)
    (hu : ∀ v a b, R1 v a → R1 v b → a = b) {s1 s2 : Shared} (hE : Ext s1.heap s2.heap) (hwr : ∀ b ∈ wr, s1.heap.get? b = none)
    (ht : ∀ C a v s3 m3 E', a ∈ xs → R1 v a → s3.heap.Ns C m3 → m3 x = some v → Ext s1.heap s3.heap →
      wpAny (model pw w) A (forIn ifs true fun c r => if r = true then do let ok ← isTrue c (compEnvC scope cl C env) (eval c (compEnvC scope cl C env)); pure (ForInStep.yield ok) else pure (ForInStep.yield r)) (fun ok s4 => ok = q a ∧ Keeps s3 s4) E' s3)
    (he : ∀ C a v s3 m3, a ∈ xs → R1 v a → q a = true → s3.heap.Ns C m3 → m3 x = some v → Ext s1.heap s3.heap → Wp w A (eval elt (compEnvC scope cl C env)) (fun y s4 => R2 y (g a) ∧ Keeps s3 s4) s3) :
    QuietOnC pw w A env scope cl x ifs elt wr (fun i v => ∃ a, xs[i]? = some a ∧ R1 v a) (fun v => decide (∃ a, R1 v a ∧ q a = true)) (fun v y => ∀ a, R1 v a → R2 y (g a)) s2 := by
  have hp : ∀ v a, R1 v a → decide (∃ a, R1 v a ∧ q a = true) = q a := by
    intro v a ha
    cases hq : q a with
    | true => exact decide_eq_true ⟨a, ha, hq⟩
    | false =>
      refine decide_eq_false ?_
      rintro ⟨b, hb, hqb⟩
      rw [hu v b a hb ha, hq] at hqb; cases hqb
  have up : ∀ {s3 : Shared}, (∀ b o, b ∉ wr → s2.heap.get? b = some o → s3.heap.get? b = some o) → Ext s1.heap s3.heap := fun hk b o e => hk b o (fun hb => by rw [hwr b hb] at e; cases e) (hE b o e)
  refine ⟨fun C i v s3 m3 E' _ hP hn hm hk _ => ?_, fun C i v s3 m3 E' _ hP hpv hn hm hk _ => ?_⟩
  · obtain ⟨a, ha, hR⟩ := hP
    refine wpAny_mono (ht C a v s3 m3 E' (List.mem_of_getElem? ha) hR hn hm (up hk)) (fun ok s4 h => ⟨h.1.trans (hp v a hR).symm, h.2⟩) fun _ _ x => x
  · obtain ⟨a, ha, hR⟩ := hP
    have hqa : q a = true := (hp v a hR).symm.trans hpv
    refine wpAny_mono (he C a v s3 m3 (List.mem_of_getElem? ha) hR hqa hn hm (up hk)) (fun y s4 h => ⟨fun b hb => by rw [hu v b a hb hR]; exact h.1, h.2⟩) fun _ _ x => x.elim
section
variable {w : World} {A : Around} {env : Env} {s : Shared}
open Classical in
theorem wCompG {elt iter : Expr} {x : Str} {px : Pos} {ifs : List Expr} {scope : Scope} {cl : List (Str × Addr)} {pos : Pos} {Q : Value → Shared → Prop} {α β : Type} (R1 : Value → α → Prop) (R2 : Value → β → Prop) (q : α → Bool) (g : α → β)
    (hclos : closureFor scope env = pure cl) (hu : ∀ v a b, R1 v a → R1 v b → a = b)
    (h : Wp w A (eval iter env) (fun xv s1 => ∃ xs : List α, Seqs w A xv s1 xs.length (fun i v => ∃ a, xs[i]? = some a ∧ R1 v a) ∧ xs.length ≤ 10000 ∧
      (∀ C a v s3 m3 E', a ∈ xs → R1 v a → s3.heap.Ns C m3 → m3 x = some v → Ext s1.heap s3.heap →
        wpAny (model pw w) A (forIn ifs true fun c r => if r = true then do let ok ← isTrue c (compEnvC scope cl C env) (eval c (compEnvC scope cl C env)); pure (ForInStep.yield ok) else pure (ForInStep.yield r)) (fun ok s4 => ok = q a ∧ Keeps s3 s4) E' s3) ∧
      (∀ C a v s3 m3, a ∈ xs → R1 v a → q a = true → s3.heap.Ns C m3 → m3 x = some v → Ext s1.heap s3.heap → Wp w A (eval elt (compEnvC scope cl C env)) (fun y s4 => R2 y (g a) ∧ Keeps s3 s4) s3) ∧
      (∀ D h' tk ys, s1.heap.get? D = none → h'.PlainList D ys → h'.IsList D ys → Paired R2 ys.toList ((xs.filter q).map g) → Ext s1.heap h' → Q (.ref D) { s1 with heap := h', toks := tk })) s)
    (hs : ∀ x, foldedSetIterable iter env x = pure x := by intro _; rfl)
    (hcell : (scope.names.all fun y => y.2 != .cell) = true := by kernel_rfl) (hkind : scope.kind = .function := by kernel_rfl)
    (hnames : (scope.names.all fun y => y.2 != .local || scope.names.lookup y.1 == some .local) = true := by kernel_rfl) (hx : scope.names.lookup x = some .local := by kernel_rfl) :
    Wp w A (eval (.ListComp elt [⟨.Name x px, iter, ifs, 0⟩] scope pos) env) Q s := by
  refine wpAny_ListComp_free (fun v => decide (∃ a, R1 v a ∧ q a = true)) (fun v y => ∀ a, R1 v a → R2 y (g a)) hclos (fun y hy => ?_) hkind (fun y hy he => ?_) hx (wpAny_mono h (fun xv s1 h1 => ?_) fun _ _ x => x) hs
  · have := List.all_eq_true.mp hcell y hy; simpa using this
  · have := List.all_eq_true.mp hnames y hy; rw [he] at this; simpa using this
  obtain ⟨xs, hsq, hlen, ht, hel, hfin⟩ := h1
  refine hsq _ fun I fp wr St h' W hE hwr st hfp => ?_
  refine ⟨I, fp, wr, xs.length, _, St, rfl, W, by show _ ≤ 2 ^ 24; omega, st, hfp, quiet xs q g hu hE hwr ht hel, fun D h2 tk ys vs hD hl hpl hvl hP hF hk => ?_⟩
  have hE2 : Ext s1.heap h2 := fun b o e => hk b o (fun hb => by rw [hwr b hb] at e; cases e) (hE b o e)
  have hvs : Paired R1 vs xs := Paired.ofGet hvl fun i v hv => hP i v hv
  have hp : ∀ v a, R1 v a → decide (∃ a, R1 v a ∧ q a = true) = q a := by
    intro v a ha
    cases hq : q a with
    | true => exact decide_eq_true ⟨a, ha, hq⟩
    | false =>
      refine decide_eq_false ?_
      rintro ⟨b, hb, hqb⟩
      rw [hu v b a hb ha, hq] at hqb; cases hqb
  have hD1 : s1.heap.get? D = none := by
    cases e : s1.heap.get? D with
    | none => rfl
    | some o => have := hE D o e; rw [hD] at this; cases this
  exact hfin D h2 tk ys hD1 hpl hl (paired_out hp hvs hF) hE2
open Classical in
theorem wCompA {elt iter : Expr} {x y : Str} {px py : Pos} {ifs : List Expr} {scope : Scope} {cl : List (Str × Addr)} {pos spos : Pos} {Q : Flow → Shared → Prop} {m : Str → Option Value} {α β : Type} (R1 : Value → α → Prop) (R2 : Value → β → Prop) (q : α → Bool) (g : α → β)
    (hsw : swapsWith (.ListComp elt [⟨.Name x px, iter, ifs, 0⟩] scope pos) (some (.Name y py)) spos.line env = pure true)
    (hclos : closureFor scope env = pure cl) (hu : ∀ v a b, R1 v a → R1 v b → a = b)
    (h : Wp w A (eval iter env) (fun xv s1 => ∃ xs : List α, Seqs w A xv s1 xs.length (fun i v => ∃ a, xs[i]? = some a ∧ R1 v a) ∧ xs.length ≤ 10000 ∧ s1.heap.Ns env.locals m ∧
      (∀ C a v s3 m3 E', a ∈ xs → R1 v a → s3.heap.Ns C m3 → m3 x = some v → Ext s1.heap s3.heap →
        wpAny (model pw w) A (forIn ifs true fun c r => if r = true then do let ok ← isTrue c (compEnvC scope cl C env) (eval c (compEnvC scope cl C env)); pure (ForInStep.yield ok) else pure (ForInStep.yield r)) (fun ok s4 => ok = q a ∧ Keeps s3 s4) E' s3) ∧
      (∀ C a v s3 m3, a ∈ xs → R1 v a → q a = true → s3.heap.Ns C m3 → m3 x = some v → Ext s1.heap s3.heap → Wp w A (eval elt (compEnvC scope cl C env)) (fun y s4 => R2 y (g a) ∧ Keeps s3 s4) s3) ∧
      (∀ D h' tk ys, s1.heap.get? D = none → h'.PlainList D ys → h'.IsList D ys → Paired R2 ys.toList ((xs.filter q).map g) → h'.Ns env.locals (fun z => if z = y then some (.ref D) else m z) →
        (∀ b o, b ≠ env.locals → s1.heap.get? b = some o → h'.get? b = some o) → Q .next { s1 with heap := h', toks := tk })) s)
    (hs : ∀ x, foldedSetIterable iter env x = pure x := by intro _; rfl)
    (hcell : (scope.names.all fun y => y.2 != .cell) = true := by kernel_rfl) (hkind : scope.kind = .function := by kernel_rfl)
    (hnames : (scope.names.all fun y => y.2 != .local || scope.names.lookup y.1 == some .local) = true := by kernel_rfl) (hx : scope.names.lookup x = some .local := by kernel_rfl)
    (hy : env.kindOf y = some .local := by kernel_rfl) (hp : (env.scope.kind == .class || (env.scope.kind == .module && env.locals != env.globals)) = false := by kernel_rfl) :
    Wp w A (exec (.Assign [.Name y py] (.ListComp elt [⟨.Name x px, iter, ifs, 0⟩] scope pos) spos) env) Q s := by
  refine wpAny_Assign_ListComp_free (fun v => decide (∃ a, R1 v a ∧ q a = true)) (fun v y => ∀ a, R1 v a → R2 y (g a)) hsw hclos (fun y hy => ?_) hkind (fun y hy he => ?_) hx hy hp (wpAny_mono h (fun xv s1 h1 => ?_) fun _ _ x => x) hs
  · have := List.all_eq_true.mp hcell y hy; simpa using this
  · have := List.all_eq_true.mp hnames y hy; rw [he] at this; simpa using this
  obtain ⟨xs, hsq, hlen, hn, ht, hel, hfin⟩ := h1
  refine hsq _ fun I fp wr St h' W hE hwr st hfp => ?_
  refine ⟨I, fp, wr, xs.length, _, St, m, rfl, W, by show _ ≤ 2 ^ 24; omega, st, hfp, (fun hb => ?_), hn.keeps hE, quiet xs q g hu hE hwr ht hel, fun D h2 tk ys vs hD hl hpl hvl hP hF hnn hk => ?_⟩
  · obtain ⟨o, _, _, ho, _⟩ := hn
    have e : s1.heap.get? env.locals = some o := ho
    rw [hwr _ hb] at e; cases e
  have hvs : Paired R1 vs xs := Paired.ofGet hvl fun i v hv => hP i v hv
  have hp : ∀ v a, R1 v a → decide (∃ a, R1 v a ∧ q a = true) = q a := by
    intro v a ha
    cases hq : q a with
    | true => exact decide_eq_true ⟨a, ha, hq⟩
    | false =>
      refine decide_eq_false ?_
      rintro ⟨b, hb, hqb⟩
      rw [hu v b a hb ha, hq] at hqb; cases hqb
  have hD1 : s1.heap.get? D = none := by
    cases e : s1.heap.get? D with
    | none => rfl
    | some o => have := hE D o e; rw [hD] at this; cases this
  exact hfin D h2 tk ys hD1 hpl hl (paired_out hp hvs hF) hnn fun b o hb e => hk b o hb (fun hb => by rw [hwr b hb] at e; cases e) (hE b o e)
end
end Mine

namespace Mine
open PySem PySem.W PySem.Calls PyProof.Rows

/-! ## _law_prepared, _law_front -/
noncomputable def prep (l : List Nat) : List Nat := ((l.filter fun c : Nat => !b1L.contains (c : Int)).map fun c => Lx (b3R c)).flatten
noncomputable def Fine (l : List Nat) : Prop := l.length ≤ 200 ∧ ∀ c ∈ l, (Lx (b3R c)).length ≤ 4
theorem strsAre_of : ∀ {vs : List Value} {ls : List (List Nat)}, Paired RS vs ls → StrsAre vs (ls.map mkS)
  | _, _, .nil => .nil
  | _, _, .cons ⟨t, h⟩ r => by rw [h]; exact .cons _ _ (strsAre_of r)
theorem join_flat' : ∀ ls : List (List Nat), Str.join (Str.ofString "") (ls.map mkS) = mkS ls.flatten
  | [] => rfl
  | [a] => by simp [List.flatten]; rfl
  | a :: b :: r => by
    have := join_flat' (b :: r)
    show mkS a ++ Str.ofString "" ++ Str.join (Str.ofString "") ((b :: r).map mkS) = _
    rw [this, show (Str.ofString "") = mkS [] from rfl, mkS_app, mkS_app, List.append_nil]; rfl
theorem join_flat (ls : List (List Nat)) : Txt.join (Str.ofString "") (ls.map mkS) = mkS ls.flatten := (StrLaws.glued_eq_join _ _).trans (join_flat' ls)
theorem sum4 {ls : List (List Nat)} {n : Nat} (h : ∀ l ∈ ls, l.length ≤ n) : ((ls.map mkS).map (·.length)).sum ≤ n * ls.length := by
  induction ls with
  | nil => exact Nat.zero_le _
  | cons a r ih =>
    have := ih fun l hl => h l (List.mem_cons_of_mem _ hl)
    have h1 := h a (List.mem_cons_self ..)
    simp only [List.map_cons, List.sum_cons, List.length_cons, mkS_len] at this ⊢
    rw [Nat.mul_add, Nat.mul_one]; omega
/-- ''.join's call -/
theorem callJoin {w : World} {A : Around} {s : Shared} {D : Addr} {ys : Array Value} {ls : List (List Nat)} {t : Tok} {Q : Value → Shared → Prop} (hl : s.heap.IsList D ys) (hp : Paired RS ys.toList ls) (h1 : ls.length ≤ 1000) (h2 : ∀ l ∈ ls, l.length ≤ 100)
    (hq : ∀ t k, Q (.str (mkS ls.flatten) t) { s with toks := k }) : Wp w A (call (.builtin "str.join") [.str (Str.ofString "") t, .ref D]) Q s := by
  refine join_listC hl (strsAre_of hp) (by decide) ?_ fun t' k => ?_
  · have := sum4 h2
    rw [List.length_map]; omega
  · rw [join_flat]; exact hq t' k
theorem prepared_ok (w : World) (l : List Nat) (t : Tok) (hl : Fine l) : Pure w 154 [.str (mkS l) t] 2 (fun k => .str (mkS (prep l)) k) := by
  intro A s Q R S hQ
  refine wCall (f := 154) (args := ⟨[.str (mkS l) t], []⟩) (binds := [("text", .str (mkS l) t)]) R S (o := o154 w.params) (by kernel_rfl) rfl rfl ⟨153, o153 w.params, _, _, rfl, S.at (by kernel_rfl), rfl, rfl⟩ (.of_eq (by kernel_rfl)) (fun h₀ hn hE S' R' => ?_)
  refine wpAny_execs_cons (wpAny_Return_some ?_)
  refine MethodCall_ (wpAny_Constant_str (GM.join (callWith_method1 ?_)))
  refine aComp ?_
  refine wCompG (fun v a => RS v [a]) RS (fun c => !b1L.contains (c : Int)) (fun c => Lx (b3R c)) (cl := []) (by with_unfolding_all rfl) (fun v a b ha hb => by have := RS_uniq ha hb; injection this) ?_
  refine wN hn rfl ⟨l, seqStr R'.1, by have := hl.1; omega, ?_, ?_, ?_⟩
  · rintro C a v s3 m3 E' ha ⟨u, rfl⟩ hn3 hm3 hx3
    refine forIn1 ?_
    have S3 : Stat w s3.heap := S'.ext hx3
    refine wpAny_isTrue_Not (wpAny_isTrue_value ?_)
    refine wCall1 S3 (f := 91) (o := o91 w.params) (by kernel_rfl) (by kernel_rfl) rfl (wN hn3 hm3 ⟨S3, ?_⟩)
    refine in_b1_ok w a u _ s3 _ R' S3 fun h' k' t' hx => ?_
    exact wpAny_truthy_bool ⟨rfl, h', k', rfl, hx⟩
  · rintro C a v s3 m3 ha ⟨u, rfl⟩ hq hn3 hm3 hx3
    have S3 : Stat w s3.heap := S'.ext hx3
    refine wCall1 S3 (f := 137) (o := o137 w.params) (by kernel_rfl) (by kernel_rfl) rfl (wN hn3 hm3 ⟨S3, ?_⟩)
    refine b3_ok w a u _ s3 _ R' S3 fun h' k' t' hx => ?_
    exact ⟨⟨t', by rw [mkS_Lx]⟩, h', k', rfl, hx⟩
  · intro D h' tk ys hD hpl hli hp hx
    refine aNil (callJoin hli hp ?_ ?_ fun t k => ?_)
    · rw [List.length_map]
      have := List.length_filter_le (fun c : Nat => !b1L.contains (c : Int)) l
      have := hl.1; omega
    · intro x hx
      obtain ⟨c, hc, rfl⟩ := List.mem_map.mp hx
      have := hl.2 c (List.mem_filter.mp hc).1; omega
    · exact hQ h' k t (hE.trans hx)
theorem mem_parse : ∀ {l : List Nat} {c : Nat}, c ∈ parse l → c ∈ l
  | [], c, h => by cases h
  | [a], c, h => by
    by_cases ha : a = 34
    · subst ha; rw [parse_e (.inl rfl)] at h; cases h
    · rw [parse_step ha] at h; simp [parse] at h; simp [h]
  | a :: b :: r, c, h => by
    by_cases ha : a = 34
    · subst ha
      by_cases hb : b = 34
      · subst hb
        rw [parse_q] at h
        rcases List.mem_cons.mp h with h | h
        · simp [h]
        · exact List.mem_cons_of_mem _ (List.mem_cons_of_mem _ (mem_parse h))
      · rw [parse_e (.inr ⟨b, r, rfl, hb⟩)] at h; cases h
    · rw [parse_step ha] at h
      rcases List.mem_cons.mp h with h | h
      · simp [h]
      · exact List.mem_cons_of_mem _ (mem_parse h)
theorem Fine.parse {l : List Nat} (h : Fine l) : Fine (parse l) := ⟨Nat.le_trans (parse_len l) h.1, fun c hc => h.2 c (mem_parse hc)⟩
theorem Fine.take {l : List Nat} (h : Fine l) (n : Nat) : Fine (l.take n) := ⟨Nat.le_trans (List.length_take_le' ..) h.1, fun c hc => h.2 c (List.mem_of_mem_take hc)⟩
noncomputable def frontOf (body : List Nat) (cut : Nat) : List Nat := prep (parse (body.take cut))
theorem front_ok (w : World) (body : List Nat) (cut : Nat) (t u : Tok) (hb : Fine body) : Pure w 161 [.str (mkS body) t, .int (cut : Int) u] 3 (fun k => .str (mkS (frontOf body cut)) k) := by
  intro A s Q R S hQ
  refine wCall (f := 161) (args := ⟨[.str (mkS body) t, .int (cut : Int) u], []⟩) (binds := [("body", .str (mkS body) t), ("cut", .int (cut : Int) u)]) R S (o := o161 w.params) (by kernel_rfl) rfl rfl ⟨160, o160 w.params, _, _, rfl, S.at (by kernel_rfl), rfl, rfl⟩ (.of_eq (by kernel_rfl)) (fun h₀ hn hE S' R' => ?_)
  refine wpAny_execs_cons (wpAny_Return_some ?_)
  refine wCall1 S' (f := 154) (o := o154 w.params) (by kernel_rfl) (by kernel_rfl) rfl ?_
  refine wCall1 S' (f := 73) (o := o73 w.params) (by kernel_rfl) (by kernel_rfl) rfl ?_
  refine wpAny_BinOp (wpAny_Constant_str (wSlice ?_))
  refine wN hn rfl (wpAny_evalPart_none (wpAny_evalPart_some (wN hn rfl ⟨_, _, none, some ((cut : Int), u), 0, cut, rfl, rfl, rfl, .inl ⟨rfl, rfl⟩, .inr ⟨_, rfl⟩, lenOk (by have := hb.1; omega), fun h1 t1 k1 hx1 => ?_⟩)))
  have hf : Fine (body.take cut) := hb.take cut
  have S1 : Stat w h1 := S'.ext hx1
  refine wAddS (a := op257) (b := body.take cut) (fun t2 k2 => ⟨S1, ?_⟩) (by have := hf.1; show 5 + _ ≤ _; omega)
  refine parse_ok w (body.take cut) t2 (by have := hf.1; omega) _ _ _ (R'.le (by omega)) S1 fun h2 k3 t3 hx2 => ⟨S1.ext hx2, ?_⟩
  refine prepared_ok w _ t3 hf.parse _ _ _ R' (S1.ext hx2) fun h3 k4 t4 hx3 => ?_
  exact hQ h3 k4 t4 ((hE.trans hx1).trans (hx2.trans hx3))
end Mine

namespace Mine
open PySem PySem.W PySem.Calls PyProof.Rows

/-! ## defs with cells -/
structure Fc (g : Heap) (L : Addr) (m : Str → Option Value) (cs : List (Str × Addr)) (cm : Str → Option Value) (h : Heap) : Prop where
  ns : h.Ns L m
  keep : Ext g h
  fresh : g.objs.size ≤ L
  cell : ∀ n c, cs.lookup n = some c → h.IsCell c (cm n)
  apart : cs.Pairwise fun x y => x.2 ≠ y.2
  above : ∀ n c, (n, c) ∈ cs → L < c
namespace Fc
variable {g h h' : Heap} {L : Addr} {m cm : Str → Option Value} {cs : List (Str × Addr)}
theorem ext (x : Fc g L m cs cm h) (e : Ext h h') : Fc g L m cs cm h' := ⟨x.ns.keeps e, x.keep.trans e, x.fresh, fun n c hc => (x.cell n c hc).keeps e, x.apart, x.above⟩
theorem stL (x : Fc g L m cs cm h) {m' : Str → Option Value} (hn : h'.Ns L m') (hs : Heap.SameBut L h h') : Fc g L m' cs cm h' :=
  ⟨hn, fun b o e => hs.extBut b o (Nat.ne_of_lt (Nat.lt_of_lt_of_le (Heap.lt_size e) x.fresh)) (x.keep b o e), x.fresh, fun k c hc => (x.cell k c hc).sameBut hs (Nat.ne_of_gt (x.above k c (mem_of_lookup hc))), x.apart, x.above⟩
theorem stC (x : Fc g L m cs cm h) {n : Str} {c : Addr} {v : Value} (hc : cs.lookup n = some c) (hcell : h'.IsCell c (some v)) (hs : Heap.SameBut c h h') : Fc g L m cs (fun y => if y = n then some v else cm y) h' := by
  have hLc := x.above n c (mem_of_lookup hc)
  refine ⟨x.ns.sameBut hs (Nat.ne_of_lt hLc), fun b o e => hs.extBut b o (Nat.ne_of_lt (Nat.lt_trans (Nat.lt_of_lt_of_le (Heap.lt_size e) x.fresh) hLc)) (x.keep b o e), x.fresh, fun k c' hk' => ?_, x.apart, x.above⟩
  by_cases hkn : k = n
  · subst hkn
    rw [hc] at hk'; cases hk'
    simpa using hcell
  · rw [if_neg hkn]
    exact (x.cell k c' hk').sameBut hs fun e => hkn (name_of_addr x.apart (mem_of_lookup hk') (e ▸ mem_of_lookup hc))
theorem ne (x : Fc g L m cs cm h) {n : Str} {c a : Addr} (hc : cs.lookup n = some c) (ha : h.objs.size ≤ a) : a ≠ c := Nat.ne_of_gt (Nat.lt_of_lt_of_le (x.cell n c hc).lt ha)
theorem neL (x : Fc g L m cs cm h) {a : Addr} (ha : h.objs.size ≤ a) : a ≠ L := by
  obtain ⟨o, _, _, ho, _⟩ := x.ns
  exact Nat.ne_of_gt (Nat.lt_of_lt_of_le (Heap.lt_size ho) ha)
end Fc
section
variable {w : World} {A : Around} {env : Env} {s : Shared}
/-- a name that is a cell here -/
theorem wNc {x : Str} {pos : Pos} {c : Addr} {v : Value} {Q : Value → Shared → Prop} (hc : env.cells.lookup x = some c) (hv : s.heap.IsCell c (some v)) (h : Q v s)
    (hk : env.scope.kind = .function := by kernel_rfl) (hl : env.kindOf x = some .cell := by kernel_rfl) (hd : (x == ("__debug__" : Str)) = false := by decide +kernel) :
    Wp w A (eval (.Name x pos) env) Q s := wpAny_Name (wpAny_loadName_cell hk hl hc hv h) hd
theorem wStc {x : Str} {c : Addr} {v : Value} {v₀ : Option Value} {Q : Unit → Shared → Prop} (hc : env.cells.lookup x = some c) (hv : s.heap.IsCell c v₀)
    (h : ∀ h', h'.IsCell c (some v) → Heap.SameBut c s.heap h' → Q () { s with heap := h' })
    (hk : env.scope.kind = .function := by kernel_rfl) (hl : env.kindOf x = some .cell := by kernel_rfl) : Wp w A (storeName env x v) Q s :=
  wpAny_storeName_cell hk hl hc hv h
/-- a call of a def of the top that has cells -/
theorem wCallC {f : Addr} {o : Obj} {fd : FuncData} {vals : List Value} {body : List Stmt} {binds : List (Str × Value)} {Q : Value → Shared → Prop} {d : Nat} (R : Rm A (d + 1)) (S : Stat w s.heap)
    (ho : (K w.params).lookup f = some o) (hd : o.data = .func fd) (hb : fd.body = .stmts body) (hcd : s.heap.CodeRec fd.code fd.qualname) (hbind : bindArgs fd ⟨vals, []⟩ = pure binds) (hclo : fd.closure = [])
    (hkind : ∀ x ∈ binds, fd.scope.names.lookup x.1 = some .local ∨ (fd.scope.names.lookup x.1 = some .cell ∧ ((cellsFrom (s.heap.objs.size + 1) fd.scope.names []).lookup x.1).isSome = true))
    (h : ∀ h₀ k, Fc s.heap s.heap.objs.size (bindL (callEnvC fd s.heap.objs.size f).kindOf binds fun _ => none) (cellsFrom (s.heap.objs.size + 1) fd.scope.names []) (bindC (callEnvC fd s.heap.objs.size f).kindOf binds fun _ => none) h₀ → Stat w h₀ → Rm (A.deeper (callEnvC fd s.heap.objs.size f)) d →
      Wp w (A.deeper (callEnvC fd s.heap.objs.size f)) (execs body (callEnvC fd s.heap.objs.size f)) (fun fl s' => Q (match fl with | .ret v => v | _ => .none) s') { s with heap := h₀, toks := k })
    (hco : fd.scope.isCoroutine = false := by kernel_rfl) (hgen : fd.scope.isGenerator = false := by kernel_rfl) (hk : fd.scope.kind = .function := by kernel_rfl) :
    Wp w A (call (.ref f) vals) Q s := by
  refine wpAny_call (codeAny_call_cells (fd := fd) (body := body) (binds := binds) R.room (S.at ho) hd S.lim hcd hb hbind hclo hkind (fun s₁ x => ?_) hco hgen hk)
  obtain ⟨h₀, k, rfl⟩ := x.toInCall.same
  exact wpAny_mono (h h₀ k ⟨x.toInCall.ns, x.toInCall.keep, x.toInCall.fresh, x.cell, x.apart, x.above⟩ (S.ext x.toInCall.keep) (R.deeper _)) (fun _ _ x => x) (fun _ _ x => x.elim)
end

section
variable {w : World} {A : Around} {env : Env} {s : Shared}
theorem wList {elts : List Expr} {pos : Pos} {Q : Value → Shared → Prop}
    (h : Wp w A (spliced (backTo pos (starEach elts env))) (fun vs s₁ => vs.length ≤ 1000 ∧ ∀ h', Ext s₁.heap h' → h'.PlainList s₁.heap.objs.size vs.toArray → s₁.heap.objs.size < h'.objs.size → Q (.ref s₁.heap.objs.size) { s₁ with heap := h' }) s) : Wp w A (eval (.List elts pos) env) Q s := by
  refine List_ (wpAny_mono h (fun vs s1 h1 => ?_) fun _ _ x => x)
  refine wpAny_newObj_type (h1.2 _ (fun b o e => Heap.get?_push_of_some _ e) ⟨_, Heap.get?_push_size _ rfl⟩ (by rw [Heap.size_push]; exact Nat.lt_succ_self _)) ?_
  show vs.toArray.size ≤ 2 ^ 24
  rw [List.size_toArray]; have := h1.1; omega
theorem wTuple {elts : List Expr} {k : Nat} {pos : Pos} {Q : Value → Shared → Prop}
    (h : Wp w A (spliced (backTo pos (starEach elts env))) (fun vs s₁ => vs.length ≤ 1000 ∧ ∀ h', Ext s₁.heap h' → IsTup h' s₁.heap.objs.size vs.toArray → s₁.heap.objs.size < h'.objs.size → Q (.ref s₁.heap.objs.size) { s₁ with heap := h' }) s) : Wp w A (eval (.Tuple elts k pos) env) Q s := by
  refine Tuple_ (wpAny_mono h (fun vs s1 h1 => ?_) fun _ _ x => x)
  refine wpAny_newTuple (h1.2 _ (fun b o e => Heap.get?_push_of_some _ e) ⟨_, Heap.get?_push_size _ rfl, rfl, _, rfl⟩ (by rw [Heap.size_push]; exact Nat.lt_succ_self _)) ?_
  show vs.length ≤ 2 ^ 24
  have := h1.1; omega
end
theorem ne_ns {h : Heap} {a L : Addr} {items : Array Value} {m : Str → Option Value} (hl : h.IsList a items) (hn : h.Ns L m) : a ≠ L := by
  rintro rfl
  obtain ⟨o, ho, _, n, hd⟩ := hl
  obtain ⟨o', es, ep, ho', hd', _⟩ := hn
  rw [ho] at ho'; cases ho'; rw [hd] at hd'; cases hd'
theorem ne_cell {h : Heap} {a c : Addr} {items : Array Value} {v : Option Value} (hl : h.IsList a items) (hn : h.IsCell c v) : a ≠ c := by
  rintro rfl
  obtain ⟨o, ho, _, n, hd⟩ := hl
  obtain ⟨o', ho', hd'⟩ := hn
  rw [ho] at ho'; cases ho'; rw [hd] at hd'; cases hd'
noncomputable def gOf (c : Int) : Nat := (c / 512 % 7).toNat
noncomputable def uOf (c : Int) : Nat := (c / 512 % 27).toNat
noncomputable def figs (c : Int) : List Nat := [(c % 8).toNat, (c / 8 % 8).toNat, (c / 64 % 8).toNat]
theorem figs_lt (c : Int) : ∀ i ∈ figs c, i < 8 := by
  have h1 := Int.emod_lt_of_pos c (show (0 : Int) < 8 by decide)
  have h2 := Int.emod_lt_of_pos (c / 8) (show (0 : Int) < 8 by decide)
  have h3 := Int.emod_lt_of_pos (c / 64) (show (0 : Int) < 8 by decide)
  intro i hi
  simp only [figs, List.mem_cons, List.not_mem_nil, or_false] at hi
  rcases hi with rfl | rfl | rfl <;> omega
theorem getDItem {vs : List Value} {xs : List (List Nat)} (hp : Paired RS vs xs) {i : Nat} (hi : i < xs.length) : ∃ t, vs[i]? = some (.str (mkS (xs.getD i [])) t) := by
  have e : xs[i]? = some (xs.getD i []) := by rw [List.getD_eq_getElem?_getD, List.getElem?_eq_getElem hi]; rfl
  obtain ⟨v, h1, t, rfl⟩ := Paired.get hp e
  exact ⟨t, h1⟩
/-! ## _law_name -/
theorem noPy (a : Int) {b : Int} (hb : b.natAbs.log2 < 30) : Builtin.divisionGoesByPylong a b = false := by
  unfold Builtin.divisionGoesByPylong
  have : (if (b == 0) = true then 0 else b.natAbs.log2 / 30 + 1) ≤ 1 := by split <;> omega
  dsimp only
  rw [decide_eq_false (by omega), Bool.false_and]
noncomputable def sgL (g u : Nat) : List (List Nat) := [[120120 + 52 * g + 5], [64256], [34], [64257], [120120 + 52 * g + 8], [64259], [73], [unL.getD u 0]]
noncomputable def pcL : List (List Nat) := [[102], [102, 102], [34], [102, 105], [105], [102, 102, 105], [105], []]
section
variable {w : World} {A : Around} {s : Shared}
theorem wFd {a b : Int} {t u : Tok} {Q : Value → Shared → Prop} (hb : 0 < b) (hl : b.natAbs.log2 < 30) (h : Q (.int (a / b) s.toks) { s with toks := s.toks + 1 }) : Wp w A (binaryOp .FloorDiv (.int a t) (.int b u)) Q s := by
  refine floordiv_int (by omega) ?_ (.inl (noPy a hl))
  rw [Int.fdiv_eq_ediv_of_nonneg _ (by omega)]; exact h
theorem wMod {a b : Int} {t u : Tok} {Q : Value → Shared → Prop} (hb : 0 < b) (h : Q (.int (a % b) s.toks) { s with toks := s.toks + 1 }) : Wp w A (binaryOp .Mod (.int a t) (.int b u)) Q s := by
  refine mod_int' (by omega) ?_
  rw [Int.fmod_eq_emod_of_nonneg _ (by omega)]; exact h
end
theorem name_ok (w : World) (c : Int) (t : Tok) (A : Around) (s : Shared) (Q : Value → Shared → Prop) (R : Rm A 3) (S : Stat w s.heap)
    (hQ : ∀ h' k T D P ss ps, Ext s.heap h' → IsTup h' T #[.ref D, .ref P] → h'.IsList D ss → h'.IsList P ps → Paired RS ss.toList ((figs c).map fun i => (sgL (gOf c) (uOf c)).getD i []) → Paired RS ps.toList ((figs c).map fun i => pcL.getD i []) → Q (.ref T) { s with heap := h', toks := k }) :
    Wp w A (call (.ref 149) [.int c t]) Q s := by
  have hg0 : 0 ≤ c / 512 % 7 := Int.emod_nonneg _ (by decide)
  have hg1 : c / 512 % 7 < 7 := Int.emod_lt_of_pos _ (by decide)
  have hu0 : 0 ≤ c / 512 % 27 := Int.emod_nonneg _ (by decide)
  have hu1 : c / 512 % 27 < 27 := Int.emod_lt_of_pos _ (by decide)
  have eg : (gOf c : Int) = c / 512 % 7 := Int.toNat_of_nonneg hg0
  have eu : (uOf c : Int) = c / 512 % 27 := Int.toNat_of_nonneg hu0
  have hgl : gOf c < 7 := by omega
  have hul : uOf c < 27 := by omega
  refine wCallC (f := 149) (vals := [.int c t]) (binds := [("cell", .int c t)]) R S (o := o149 w.params) (by kernel_rfl) rfl rfl ⟨148, o148 w.params, _, _, rfl, S.at (by kernel_rfl), rfl, rfl⟩ (by kernel_rfl) rfl (fun x hx => ?_) (fun h₀ k F S₀ R₀ => ?_)
  · rw [List.mem_singleton.mp hx]; exact .inl (by kernel_rfl)
  refine wpAny_execs_cons (wpAny_Assign_Name ?_)
  refine wpAny_BinOp (wpAny_Constant_int (wpAny_BinOp (wpAny_Constant_int (wpAny_BinOp (wpAny_BinOp (wN F.ns rfl (wpAny_Constant_int ?_)))))))
  refine wFd (by decide) (by decide) (wpAny_Constant_int (wMod (by decide) ?_))
  refine mul_int (add_int (wSt F.ns fun h1 hn1 hs1 => ?_)) ?_
  rotate_left
  · have b1 : (-2 ^ 64 : Int) < c / 512 % 7 := by omega
    exact IntMulOk.of_left (by decide)
  have F1 := F.stL hn1 hs1
  clear hn1 hs1
  dsimp only at F1 ⊢
  rw [show (120120 + 52 * (c / 512 % 7) : Int) = ((120120 + 52 * gOf c : Nat) : Int) by rw [← eg]; omega] at F1
  have S1 : Stat w h1 := S.ext F1.keep
  refine wpAny_execs_cons (wpAny_Assign_Name ?_)
  refine wCall1 S1 (f := 144) (o := o144 w.params) (by kernel_rfl) (by kernel_rfl) rfl ?_
  refine wpAny_BinOp (wpAny_BinOp (wN F1.ns rfl (wpAny_Constant_int ?_)))
  refine wFd (by decide) (by decide) (wpAny_Constant_int (wMod (by decide) ⟨S1, ?_⟩))
  rw [← eu]
  refine unseen_ok w (uOf c) _ hul _ _ _ (R₀.le (by omega)) S1 fun h2 k2 t2 hx2 => ?_
  dsimp only at hx2 ⊢
  have F2 := F1.ext hx2
  refine wSt F2.ns fun h3 hn3 hs3 => ?_
  have F3 := F2.stL hn3 hs3
  clear hn3 hs3 hx2 F2 F1 S1
  dsimp only at F3 ⊢
  have S3 : Stat w h3 := S.ext F3.keep
  refine wpAny_execs_cons (wpAny_Assign_Name ?_)
  refine wList ?_
  refine aCall (wCallB S3 (id := "chr") (by kernel_rfl) (wpAny_BinOp (wN F3.ns rfl (wpAny_Constant_int (add_int (chr_of_range (by omega) (by omega) ?_))))))
  dsimp only
  refine aCall (wCallB S3 (id := "chr") (by kernel_rfl) (wpAny_Constant_int (chr_of_range (by decide) (by decide) ?_)))
  dsimp only
  refine aC (wpAny_Constant_str ?_)
  dsimp only
  refine aCall (wCallB S3 (id := "chr") (by kernel_rfl) (wpAny_Constant_int (chr_of_range (by decide) (by decide) ?_)))
  dsimp only
  refine aCall (wCallB S3 (id := "chr") (by kernel_rfl) (wpAny_BinOp (wN F3.ns rfl (wpAny_Constant_int (add_int (chr_of_range (by omega) (by omega) ?_))))))
  dsimp only
  refine aCall (wCallB S3 (id := "chr") (by kernel_rfl) (wpAny_Constant_int (chr_of_range (by decide) (by decide) ?_)))
  dsimp only
  refine aC (wpAny_Constant_str ?_)
  dsimp only
  refine aN (wN F3.ns rfl ?_)
  refine aNil ⟨by show 8 ≤ _; decide, fun h4 hx4 hl4 _ => ?_⟩
  dsimp only at hx4 hl4 ⊢
  obtain ⟨ss, hl4, hp4⟩ : ∃ ss, h4.IsList h3.objs.size ss ∧ Paired RS ss.toList (sgL (gOf c) (uOf c)) := ⟨_, hl4.isList, by
    have e1 : ((120120 + 52 * gOf c : Nat) : Int) + 5 = ((120120 + 52 * gOf c + 5 : Nat) : Int) := by omega
    have e2 : ((120120 + 52 * gOf c : Nat) : Int) + 8 = ((120120 + 52 * gOf c + 8 : Nat) : Int) := by omega
    rw [e1, e2, Int.toNat_natCast, Int.toNat_natCast]
    exact .cons ⟨_, rfl⟩ (.cons ⟨_, rfl⟩ (.cons ⟨_, rfl⟩ (.cons ⟨_, rfl⟩ (.cons ⟨_, rfl⟩ (.cons ⟨_, rfl⟩ (.cons ⟨_, rfl⟩ (.cons ⟨_, rfl⟩ .nil)))))))⟩
  have F4 := F3.ext hx4
  have hc1 : (cellsFrom (s.heap.objs.size + 1) (fdX 149 w).scope.names []).lookup (Str.ofString "signs") = some (s.heap.objs.size + 1) := by with_unfolding_all rfl
  have hc2 : (cellsFrom (s.heap.objs.size + 1) (fdX 149 w).scope.names []).lookup (Str.ofString "pieces") = some (s.heap.objs.size + 2) := by with_unfolding_all rfl
  refine wStc (c := s.heap.objs.size + 1) hc1 (F4.cell _ _ hc1) fun h5 hcell5 hs5 => ?_
  have hl5 := hl4.extBut hs5.extBut (F3.ne hc1 (Nat.le_refl _))
  have F5 := F4.stC hc1 hcell5 hs5
  clear hs5 hcell5 hl4 hx4 F4 S3
  dsimp only
  generalize h3.objs.size = D at hl5 F5
  refine wpAny_execs_cons (wpAny_Assign_Name ?_)
  refine wList ?_
  iterate 8 (refine aC (wpAny_Constant_str ?_); dsimp only)
  refine aNil ⟨by show 8 ≤ _; decide, fun h6 hx6 hl6 _ => ?_⟩
  dsimp only at hx6 hl6 ⊢
  obtain ⟨ps, hl6, hp6⟩ : ∃ ps, h6.IsList h5.objs.size ps ∧ Paired RS ps.toList pcL := ⟨_, hl6.isList,
    .cons ⟨_, rfl⟩ (.cons ⟨_, rfl⟩ (.cons ⟨_, rfl⟩ (.cons ⟨_, rfl⟩ (.cons ⟨_, rfl⟩ (.cons ⟨_, rfl⟩ (.cons ⟨_, rfl⟩ (.cons ⟨_, rfl⟩ .nil)))))))⟩
  have F6 := F5.ext hx6
  have hne : D ≠ s.heap.objs.size + 2 := ne_cell hl5 (F5.cell _ _ hc2)
  refine wStc (c := s.heap.objs.size + 2) hc2 (F6.cell _ _ hc2) fun h7 hcell7 hs7 => ?_
  have hl7 := hl6.extBut hs7.extBut (F5.ne hc2 (Nat.le_refl _))
  have hl5' := (hl5.at (fun o e => hx6 _ o e)).extBut hs7.extBut hne
  have F7 := F6.stC hc2 hcell7 hs7
  clear hs7 hcell7 hl6 hx6 F6 F5 hl5 hne
  dsimp only
  generalize h5.objs.size = P at hl7 F7
  refine wpAny_execs_cons (wpAny_Assign_Name ?_)
  refine wList ?_
  refine aBin (wpAny_BinOp (wN F7.ns rfl (wpAny_Constant_int (wMod (by decide) ?_))))
  dsimp only
  refine aBin (wpAny_BinOp (wpAny_BinOp (wN F7.ns rfl (wpAny_Constant_int ?_))))
  refine wFd (by decide) (by decide) (wpAny_Constant_int (wMod (by decide) ?_))
  dsimp only
  refine aBin (wpAny_BinOp (wpAny_BinOp (wN F7.ns rfl (wpAny_Constant_int ?_))))
  refine wFd (by decide) (by decide) (wpAny_Constant_int (wMod (by decide) ?_))
  dsimp only
  refine aNil ⟨by show 3 ≤ _; decide, fun h8 hx8 hl8 _ => ?_⟩
  dsimp only at hx8 hl8 ⊢
  obtain ⟨fs, hl8, hp8⟩ : ∃ fs, h8.IsList h7.objs.size fs ∧ Paired (fun v (i : Nat) => ∃ t, v = .int i t) fs.toList (figs c) := ⟨_, hl8.isList,
    .cons ⟨_, by rw [Int.toNat_of_nonneg (Int.emod_nonneg _ (by decide))]⟩ (.cons ⟨_, by rw [Int.toNat_of_nonneg (Int.emod_nonneg _ (by decide))]⟩ (.cons ⟨_, by rw [Int.toNat_of_nonneg (Int.emod_nonneg _ (by decide))]⟩ .nil))⟩
  have F8 := F7.ext hx8
  refine wSt F8.ns fun h9 hn9 hs9 => ?_
  have F9 := F8.stL hn9 hs9
  have hlf := hl8.extBut hs9.extBut (F7.neL (Nat.le_refl _))
  have hD := hl5'.at (fun o e => hx8 _ o e) |>.extBut hs9.extBut (ne_ns hl5' F7.ns)
  have hP := hl7.at (fun o e => hx8 _ o e) |>.extBut hs9.extBut (ne_ns hl7 F7.ns)
  have hf : ∃ f, f = h7.objs.size := ⟨_, rfl⟩
  obtain ⟨f, hf⟩ := hf
  rw [← hf] at hlf F9
  clear hl8 hs9 hn9 hx8 F8 F7 hl7 hl5' hf
  have S9 := S.ext F9.keep
  have hg := figs_lt c
  have hlen : (figs c).length = 3 := rfl
  refine wpAny_execs_cons (wpAny_Return_some (wTuple (aComp ?_)))
  refine wCompG (fun v (i : Nat) => ∃ t, v = .int i t) RS (fun _ => true) (fun i => (sgL (gOf c) (uOf c)).getD i []) (cl := [("signs", s.heap.objs.size + 1)]) (by with_unfolding_all rfl) ?_ ?_
  · rintro v a b ⟨t, rfl⟩ ⟨u, e⟩
    injection e with e1 e2; omega
  refine wN F9.ns rfl ⟨figs c, seqList R₀.1 hlf hp8, by rw [hlen]; decide, ?_, ?_, ?_⟩
  · rintro C a v s3 m3 E' ha hv hn3 hm3 hx3
    exact forIn0 ⟨rfl, _, _, rfl, fun b o e => e⟩
  · rintro C a v s3 m3 ha ⟨u, rfl⟩ hq hn3 hm3 hx3
    have hi := hg a ha
    obtain ⟨tt, hit⟩ := getDItem hp4 (i := a) (by exact hi)
    refine wpAny_Subscript_Name slot_list_getitem.lookup (wNc (c := s.heap.objs.size + 1) rfl ((F9.ext hx3).cell _ _ hc1) (wN hn3 hm3 ⟨(hD.at (fun o e => hx3 _ o e)).typeIs, ?_⟩))
    refine wpAny_getItem_list (hD.at (fun o e => hx3 _ o e)) (by omega) (by omega) (by simpa using hit) ⟨⟨tt, rfl⟩, _, _, rfl, fun b o e => e⟩
  intro D1 g1 k1 ys1 hD1 _ hli1 hp1 hx1
  refine aComp ?_
  refine wCompG (fun v (i : Nat) => ∃ t, v = .int i t) RS (fun _ => true) (fun i => pcL.getD i []) (cl := [("pieces", s.heap.objs.size + 2)]) (by with_unfolding_all rfl) ?_ ?_
  · rintro v a b ⟨t, rfl⟩ ⟨u, e⟩
    injection e with e1 e2; omega
  have F10 := F9.ext hx1
  dsimp only at hx1
  refine wN F10.ns rfl ⟨figs c, seqList R₀.1 (hlf.at (fun o e => hx1 _ o e)) hp8, by rw [hlen]; decide, ?_, ?_, ?_⟩
  · rintro C a v s3 m3 E' ha hv hn3 hm3 hx3
    exact forIn0 ⟨rfl, _, _, rfl, fun b o e => e⟩
  · rintro C a v s3 m3 ha ⟨u, rfl⟩ hq hn3 hm3 hx3
    have hi := hg a ha
    have hP1 := (hP.at (fun o e => hx1 _ o e)).at (fun o e => hx3 _ o e)
    obtain ⟨tt, hit⟩ := getDItem hp6 (i := a) (by exact hi)
    refine wpAny_Subscript_Name slot_list_getitem.lookup (wNc (c := s.heap.objs.size + 2) rfl ((F10.ext hx3).cell _ _ hc2) (wN hn3 hm3 ⟨hP1.typeIs, ?_⟩))
    refine wpAny_getItem_list hP1 (by omega) (by omega) (by simpa using hit) ⟨⟨tt, rfl⟩, _, _, rfl, fun b o e => e⟩
  intro D2 g2 k2 ys2 hD2 _ hli2 hp2 hx2
  dsimp only at hx2
  refine aNil ⟨by show 2 ≤ _; decide, fun g3 hx3 ht3 _ => ?_⟩
  have ef : (figs c).filter (fun _ => true) = figs c := by simp
  rw [ef] at hp1 hp2
  exact hQ _ _ _ D1 D2 ys1 ys2 (((F9.keep.trans hx1).trans hx2).trans hx3) ht3 (((hli1.at fun o e => hx2 _ o e)).at fun o e => hx3 _ o e) (hli2.at fun o e => hx3 _ o e) hp1 hp2
end Mine

namespace Mine
open PySem PySem.W PySem.Calls PyProof.Rows

/-! ## bisect_left, bisect_right, insort_left -/
noncomputable def bnds (a x lo hi key : Value) : List (Str × Value) := [("a", a), ("x", x), ("lo", lo), ("hi", hi), ("key", key)]
section
variable {w : World} {s : Shared} {a x lo hi key : Value}
theorem bindL2 (S : Stat w s.heap) : BindsTo s (fdX 41 w) ⟨[a, x], [(Str.ofString "key", key)]⟩ (bnds a x (.int 0 216) .none key) :=
  .of_defaults (T := 33) (o := o33 w.params) rfl (S.at (by kernel_rfl)) rfl rfl (by with_unfolding_all rfl)
theorem bindL4 (S : Stat w s.heap) : BindsTo s (fdX 41 w) ⟨[a, x, lo, hi], [(Str.ofString "key", key)]⟩ (bnds a x lo hi key) :=
  .of_defaults (T := 33) (o := o33 w.params) rfl (S.at (by kernel_rfl)) rfl rfl (by with_unfolding_all rfl)
theorem bindR2 (S : Stat w s.heap) : BindsTo s (fdX 23 w) ⟨[a, x], [(Str.ofString "key", key)]⟩ (bnds a x (.int 0 189) .none key) :=
  .of_defaults (T := 15) (o := o15 w.params) rfl (S.at (by kernel_rfl)) rfl rfl (by with_unfolding_all rfl)
theorem bindR4 (S : Stat w s.heap) : BindsTo s (fdX 23 w) ⟨[a, x, lo, hi], [(Str.ofString "key", key)]⟩ (bnds a x lo hi key) :=
  .of_defaults (T := 15) (o := o15 w.params) rfl (S.at (by kernel_rfl)) rfl rfl (by with_unfolding_all rfl)
theorem bindI2 (S : Stat w s.heap) : BindsTo s (fdX 32 w) ⟨[a, x], [(Str.ofString "key", key)]⟩ (bnds a x (.int 0 203) .none key) :=
  .of_defaults (T := 24) (o := o24 w.params) rfl (S.at (by kernel_rfl)) rfl rfl (by with_unfolding_all rfl)
end
/-- what the key's call and the comparison answer for one item: smaller than x? -/
noncomputable def ProbeL (w : World) (g : Heap) (f : Addr) (x it : Value) (b : Bool) (d : Nat) : Prop :=
  ∀ (A : Around) (s : Shared) (Q : Value → Shared → Prop), Rm A d → Ext g s.heap → Stat w s.heap →
    (∀ h' k v, Ext s.heap h' → (∀ (A' : Around) (s' : Shared) (Q' : Value → Shared → Prop), Q' (.bool b) s' → Wp w A' (compareOp .Lt v x) Q' s') → Q v { s with heap := h', toks := k }) → Wp w A (call (.ref f) [it]) Q s
/-- x smaller? -/
noncomputable def ProbeR (w : World) (g : Heap) (f : Addr) (x it : Value) (b : Bool) (d : Nat) : Prop :=
  ∀ (A : Around) (s : Shared) (Q : Value → Shared → Prop), Rm A d → Ext g s.heap → Stat w s.heap →
    (∀ h' k v, Ext s.heap h' → (∀ (A' : Around) (s' : Shared) (Q' : Value → Shared → Prop), Q' (.bool b) s' → Wp w A' (compareOp .Lt x v) Q' s') → Q v { s with heap := h', toks := k }) → Wp w A (call (.ref f) [it]) Q s
noncomputable def IsFn (h : Heap) (f : Addr) : Prop := ∃ o fd, h.get? f = some o ∧ o.data = .func fd
theorem bisL_ok (w : World) (A : Around) (s : Shared) (Q : Value → Shared → Prop) (d : Nat) (R : Rm A (d + 1)) (S : Stat w s.heap) {l f : Addr} {items : Array Value} {args : Args} {x hiV : Value} {t0 : Tok} (lo r hi : Nat)
    (hl : s.heap.IsList l items) (hlr : lo ≤ r) (hrh : r ≤ hi) (hhi : hi ≤ items.size) (hsz : items.size ≤ 1000) (hiv : (hiV = .none ∧ hi = items.size) ∨ ∃ t, hiV = .int (hi : Int) t)
    (hf : IsFn s.heap f) (hb : BindsTo s (fdX 41 w) args (bnds (.ref l) x (.int (lo : Int) t0) hiV (.ref f)))
    (hT : ∀ i v, lo ≤ i → i < r → items[i]? = some v → ProbeL w s.heap f x v true d) (hF : ∀ i v, r ≤ i → i < hi → items[i]? = some v → ProbeL w s.heap f x v false d)
    (hQ : ∀ h' k t, Ext s.heap h' → Q (.int (r : Int) t) { s with heap := h', toks := k }) : Wp w A (call (.ref 41) args.pos args.kw) Q s := by
  refine wCall (f := 41) (args := args) (binds := bnds (.ref l) x (.int (lo : Int) t0) hiV (.ref f)) R S (o := o41 w.params) (by kernel_rfl) rfl rfl ⟨40, o40 w.params, _, _, rfl, S.at (by kernel_rfl), rfl, rfl⟩ hb (fun h₀ hn hE S' R' => ?_)
  refine wpAny_execs_cons (wIfF (wpAny_isTrue_Compare1 (wN hn rfl (wpAny_Constant_int (lt_int (wpAny_truthy_bool ⟨?_, wpAny_execs_nil ?_⟩))))))
  · exact decide_eq_false (by omega)
  have main : ∀ h m k ta tb, Ext s.heap h → h.Ns s.heap.objs.size m → m (Str.ofString "a") = some (.ref l) → m (Str.ofString "x") = some x → m (Str.ofString "lo") = some (.int (lo : Int) ta) → m (Str.ofString "hi") = some (.int (hi : Int) tb) → m (Str.ofString "key") = some (.ref f) →
      Wp w (A.deeper (callEnv (fdX 41 w) s.heap.objs.size 41)) (execs ((fdef 3).2.1.drop 2) (callEnv (fdX 41 w) s.heap.objs.size 41)) (fun fl s' => Q (match fl with | .ret v => v | _ => .none) s') { s with heap := h, toks := k } := by
    intro h m k ta tb hE hn ma mx mlo mhi mkey
    refine wpAny_execs_cons (wIfF (wpAny_isTrue_Compare1 (wN hn mkey (wpAny_Constant_none (is_ref_none (wpAny_truthy_bool ⟨rfl, ?_⟩))))))
    refine wpAny_execs_cons ?_
    refine wWhile (I := fun n s' => ∃ (p q tp tq k : Nat) (h : Heap) (m : Str → Option Value), n = q - p ∧ lo ≤ p ∧ p ≤ r ∧ r ≤ q ∧ q ≤ hi ∧
      s' = { s with heap := h, toks := k } ∧ Ext s.heap h ∧ h.Ns s.heap.objs.size m ∧ m (Str.ofString "a") = some (.ref l) ∧ m (Str.ofString "x") = some x ∧ m (Str.ofString "lo") = some (.int (p : Int) tp) ∧ m (Str.ofString "hi") = some (.int (q : Int) tq) ∧ m (Str.ofString "key") = some (.ref f)) ?_ (hi - lo)
      ⟨lo, hi, ta, tb, k, h, m, rfl, Nat.le_refl _, hlr, hrh, Nat.le_refl _, rfl, hE, hn, ma, mx, mlo, mhi, mkey⟩
    clear ma mx mlo mhi mkey hn hE
    rintro n s' ⟨p, q, tp, tq, k, h, m, rfl, hp1, hp2, hq1, hq2, rfl, hE, hn, ma, mx, mlo, mhi, mkey⟩
    dsimp only
    refine wpAny_isTrue_Compare1 (wN hn mlo (wN hn mhi (lt_int (wpAny_truthy_bool ?_))))
    by_cases hpq : p < q
    · rw [decide_eq_true (by omega : (p : Int) < (q : Int)), if_pos rfl]
      refine wpAny_execs_cons (wpAny_Assign_Name (wpAny_BinOp (wpAny_BinOp (wN hn mlo (wN hn mhi (add_int (wpAny_Constant_int ?_)))))))
      refine wFd (by decide) (by decide) ?_
      obtain ⟨mid, hmid⟩ : ∃ mid : Nat, mid = (p + q) / 2 := ⟨_, rfl⟩
      rw [show (((p : Int) + (q : Int)) / 2) = (mid : Int) by rw [hmid]; omega]
      have b1 : p ≤ mid := by omega
      have b2 : mid < q := by omega
      refine wSt hn fun h1 hn1 hs1 => ?_
      have hE1 := ext1 hE rfl hs1
      dsimp only at hn1 hE1 ⊢
      have S1 : Stat w h1 := S.ext hE1
      have hl1 : h1.IsList l items := hl.at fun o e => hE1 _ o e
      have hit : items[mid]? = some items[mid] := Array.getElem?_eq_getElem (by omega)
      obtain ⟨fo, fd, hfo, hfd⟩ := hf
      refine wpAny_execs_cons (wpAny_If (wpAny_isTrue_Compare1 (Call_ (wN hn1 mkey ?_))))
      refine callWith_def hfd (aSub ?_) rfl
      refine wpAny_Subscript_Name slot_list_getitem.lookup (wN hn1 ma (wN hn1 rfl ⟨hl1.typeIs, ?_⟩))
      refine wpAny_getItem_list hl1 (by omega) (by omega) (by rw [Int.toNat_natCast]; exact hit) ?_
      refine aNil ⟨hE1 _ _ hfo, ?_⟩
      have pr : ProbeL w s.heap f x items[mid] (decide (mid < r)) d := by
        by_cases hm : mid < r
        · rw [decide_eq_true hm]; exact hT mid _ (by omega) hm hit
        · rw [decide_eq_false hm]; exact hF mid _ (by omega) (by omega) hit
      refine pr _ _ _ R' ?_ ?_ ?_
      · exact hE1
      · exact S1
      intro h2 k2 v hx2 hcmp
      dsimp only at hx2 ⊢
      have hE2 := hE1.trans hx2
      have hn2 := hn1.keeps hx2
      refine wN hn2 mx (hcmp _ _ _ (wpAny_truthy_bool ?_))
      by_cases hm : mid < r
      · rw [decide_eq_true hm, if_pos rfl]
        refine wpAny_execs_cons (wpAny_Assign_Name (wpAny_BinOp (wN hn2 rfl (wpAny_Constant_int (add_int ?_)))))
        refine wSt hn2 fun h3 hn3 hs3 => ?_
        refine wpAny_execs_nil (wpAny_execs_nil ⟨q - (mid + 1), by omega, mid + 1, q, _, _, _, h3, _, rfl, by omega, by omega, by omega, by omega, rfl, ext1 hE2 rfl hs3, hn3, ma, mx, rfl, mhi, mkey⟩)
      · rw [decide_eq_false hm, if_neg Bool.false_ne_true]
        refine wpAny_execs_cons (wpAny_Assign_Name (wN hn2 rfl ?_))
        refine wSt hn2 fun h3 hn3 hs3 => ?_
        refine wpAny_execs_nil (wpAny_execs_nil ⟨mid - p, by omega, p, mid, _, _, _, h3, _, rfl, by omega, by omega, by omega, by omega, rfl, ext1 hE2 rfl hs3, hn3, ma, mx, mlo, rfl, mkey⟩)
    · rw [decide_eq_false (by omega : ¬ (p : Int) < (q : Int)), if_neg Bool.false_ne_true]
      refine wpAny_execs_nil (wpAny_execs_nil (wpAny_execs_cons (wpAny_Return_some (wN hn mlo ?_))))
      have e : p = r := by omega
      rw [e]; exact hQ h _ _ hE
  rcases hiv with ⟨rfl, rfl⟩ | ⟨t, rfl⟩
  · refine wpAny_execs_cons (wIfT (wpAny_isTrue_Compare1 (wN hn rfl (wpAny_Constant_none (is_none_none (wpAny_truthy_bool ⟨rfl, ?_⟩))))))
    refine wpAny_execs_cons (wpAny_Assign_Name ?_)
    refine wCallB S' (id := "len") (by kernel_rfl) (wN hn rfl ?_)
    have hl0 : h₀.IsList l items := hl.at fun o e => hE _ o e
    refine call_len_list hl0 (by omega) ?_
    refine wSt hn fun h1 hn1 hs1 => ?_
    have hE1 := ext1 hE rfl hs1
    refine wpAny_execs_nil (main h1 _ _ _ _ hE1 hn1 rfl rfl rfl rfl rfl)
  · refine wpAny_execs_cons (wIfF (wpAny_isTrue_Compare1 (wN hn rfl (wpAny_Constant_none (is_int_none (wpAny_truthy_bool ⟨rfl, wpAny_execs_nil ?_⟩))))))
    exact main h₀ _ _ _ _ hE hn rfl rfl rfl rfl rfl
theorem bisR_ok (w : World) (A : Around) (s : Shared) (Q : Value → Shared → Prop) (d : Nat) (R : Rm A (d + 1)) (S : Stat w s.heap) {l f : Addr} {items : Array Value} {args : Args} {x hiV : Value} {t0 : Tok} (lo r hi : Nat)
    (hl : s.heap.IsList l items) (hlr : lo ≤ r) (hrh : r ≤ hi) (hhi : hi ≤ items.size) (hsz : items.size ≤ 1000) (hiv : (hiV = .none ∧ hi = items.size) ∨ ∃ t, hiV = .int (hi : Int) t)
    (hf : IsFn s.heap f) (hb : BindsTo s (fdX 23 w) args (bnds (.ref l) x (.int (lo : Int) t0) hiV (.ref f)))
    (hT : ∀ i v, lo ≤ i → i < r → items[i]? = some v → ProbeR w s.heap f x v false d) (hF : ∀ i v, r ≤ i → i < hi → items[i]? = some v → ProbeR w s.heap f x v true d)
    (hQ : ∀ h' k t, Ext s.heap h' → Q (.int (r : Int) t) { s with heap := h', toks := k }) : Wp w A (call (.ref 23) args.pos args.kw) Q s := by
  refine wCall (f := 23) (args := args) (binds := bnds (.ref l) x (.int (lo : Int) t0) hiV (.ref f)) R S (o := o23 w.params) (by kernel_rfl) rfl rfl ⟨22, o22 w.params, _, _, rfl, S.at (by kernel_rfl), rfl, rfl⟩ hb (fun h₀ hn hE S' R' => ?_)
  refine wpAny_execs_cons (wIfF (wpAny_isTrue_Compare1 (wN hn rfl (wpAny_Constant_int (lt_int (wpAny_truthy_bool ⟨?_, wpAny_execs_nil ?_⟩))))))
  · exact decide_eq_false (by omega)
  have main : ∀ h m k ta tb, Ext s.heap h → h.Ns s.heap.objs.size m → m (Str.ofString "a") = some (.ref l) → m (Str.ofString "x") = some x → m (Str.ofString "lo") = some (.int (lo : Int) ta) → m (Str.ofString "hi") = some (.int (hi : Int) tb) → m (Str.ofString "key") = some (.ref f) →
      Wp w (A.deeper (callEnv (fdX 23 w) s.heap.objs.size 23)) (execs ((fdef 1).2.1.drop 2) (callEnv (fdX 23 w) s.heap.objs.size 23)) (fun fl s' => Q (match fl with | .ret v => v | _ => .none) s') { s with heap := h, toks := k } := by
    intro h m k ta tb hE hn ma mx mlo mhi mkey
    refine wpAny_execs_cons (wIfF (wpAny_isTrue_Compare1 (wN hn mkey (wpAny_Constant_none (is_ref_none (wpAny_truthy_bool ⟨rfl, ?_⟩))))))
    refine wpAny_execs_cons ?_
    refine wWhile (I := fun n s' => ∃ (p q tp tq k : Nat) (h : Heap) (m : Str → Option Value), n = q - p ∧ lo ≤ p ∧ p ≤ r ∧ r ≤ q ∧ q ≤ hi ∧
      s' = { s with heap := h, toks := k } ∧ Ext s.heap h ∧ h.Ns s.heap.objs.size m ∧ m (Str.ofString "a") = some (.ref l) ∧ m (Str.ofString "x") = some x ∧ m (Str.ofString "lo") = some (.int (p : Int) tp) ∧ m (Str.ofString "hi") = some (.int (q : Int) tq) ∧ m (Str.ofString "key") = some (.ref f)) ?_ (hi - lo)
      ⟨lo, hi, ta, tb, k, h, m, rfl, Nat.le_refl _, hlr, hrh, Nat.le_refl _, rfl, hE, hn, ma, mx, mlo, mhi, mkey⟩
    clear ma mx mlo mhi mkey hn hE
    rintro n s' ⟨p, q, tp, tq, k, h, m, rfl, hp1, hp2, hq1, hq2, rfl, hE, hn, ma, mx, mlo, mhi, mkey⟩
    dsimp only
    refine wpAny_isTrue_Compare1 (wN hn mlo (wN hn mhi (lt_int (wpAny_truthy_bool ?_))))
    by_cases hpq : p < q
    · rw [decide_eq_true (by omega : (p : Int) < (q : Int)), if_pos rfl]
      refine wpAny_execs_cons (wpAny_Assign_Name (wpAny_BinOp (wpAny_BinOp (wN hn mlo (wN hn mhi (add_int (wpAny_Constant_int ?_)))))))
      refine wFd (by decide) (by decide) ?_
      obtain ⟨mid, hmid⟩ : ∃ mid : Nat, mid = (p + q) / 2 := ⟨_, rfl⟩
      rw [show (((p : Int) + (q : Int)) / 2) = (mid : Int) by rw [hmid]; omega]
      have b1 : p ≤ mid := by omega
      have b2 : mid < q := by omega
      refine wSt hn fun h1 hn1 hs1 => ?_
      have hE1 := ext1 hE rfl hs1
      dsimp only at hn1 hE1 ⊢
      have S1 : Stat w h1 := S.ext hE1
      have hl1 : h1.IsList l items := hl.at fun o e => hE1 _ o e
      have hit : items[mid]? = some items[mid] := Array.getElem?_eq_getElem (by omega)
      obtain ⟨fo, fd, hfo, hfd⟩ := hf
      refine wpAny_execs_cons (wpAny_If (wpAny_isTrue_Compare1 (wN hn1 mx (Call_ (wN hn1 mkey ?_)))))
      refine callWith_def hfd (aSub ?_) rfl
      refine wpAny_Subscript_Name slot_list_getitem.lookup (wN hn1 ma (wN hn1 rfl ⟨hl1.typeIs, ?_⟩))
      refine wpAny_getItem_list hl1 (by omega) (by omega) (by rw [Int.toNat_natCast]; exact hit) ?_
      refine aNil ⟨hE1 _ _ hfo, ?_⟩
      have pr : ProbeR w s.heap f x items[mid] (decide (¬ mid < r)) d := by
        by_cases hm : mid < r
        · rw [decide_eq_false (not_not_intro hm)]; exact hT mid _ (by omega) hm hit
        · rw [decide_eq_true hm]; exact hF mid _ (by omega) (by omega) hit
      refine pr _ _ _ R' ?_ ?_ ?_
      · exact hE1
      · exact S1
      intro h2 k2 v hx2 hcmp
      dsimp only at hx2 ⊢
      have hE2 := hE1.trans hx2
      have hn2 := hn1.keeps hx2
      refine hcmp _ _ _ (wpAny_truthy_bool ?_)
      by_cases hm : mid < r
      · rw [decide_eq_false (not_not_intro hm), if_neg Bool.false_ne_true]
        refine wpAny_execs_cons (wpAny_Assign_Name (wpAny_BinOp (wN hn2 rfl (wpAny_Constant_int (add_int ?_)))))
        refine wSt hn2 fun h3 hn3 hs3 => ?_
        refine wpAny_execs_nil (wpAny_execs_nil ⟨q - (mid + 1), by omega, mid + 1, q, _, _, _, h3, _, rfl, by omega, by omega, by omega, by omega, rfl, ext1 hE2 rfl hs3, hn3, ma, mx, rfl, mhi, mkey⟩)
      · rw [decide_eq_true hm, if_pos rfl]
        refine wpAny_execs_cons (wpAny_Assign_Name (wN hn2 rfl ?_))
        refine wSt hn2 fun h3 hn3 hs3 => ?_
        refine wpAny_execs_nil (wpAny_execs_nil ⟨mid - p, by omega, p, mid, _, _, _, h3, _, rfl, by omega, by omega, by omega, by omega, rfl, ext1 hE2 rfl hs3, hn3, ma, mx, mlo, rfl, mkey⟩)
    · rw [decide_eq_false (by omega : ¬ (p : Int) < (q : Int)), if_neg Bool.false_ne_true]
      refine wpAny_execs_nil (wpAny_execs_nil (wpAny_execs_cons (wpAny_Return_some (wN hn mlo ?_))))
      have e : p = r := by omega
      rw [e]; exact hQ h _ _ hE
  rcases hiv with ⟨rfl, rfl⟩ | ⟨t, rfl⟩
  · refine wpAny_execs_cons (wIfT (wpAny_isTrue_Compare1 (wN hn rfl (wpAny_Constant_none (is_none_none (wpAny_truthy_bool ⟨rfl, ?_⟩))))))
    refine wpAny_execs_cons (wpAny_Assign_Name ?_)
    refine wCallB S' (id := "len") (by kernel_rfl) (wN hn rfl ?_)
    have hl0 : h₀.IsList l items := hl.at fun o e => hE _ o e
    refine call_len_list hl0 (by omega) ?_
    refine wSt hn fun h1 hn1 hs1 => ?_
    have hE1 := ext1 hE rfl hs1
    refine wpAny_execs_nil (main h1 _ _ _ _ hE1 hn1 rfl rfl rfl rfl rfl)
  · refine wpAny_execs_cons (wIfF (wpAny_isTrue_Compare1 (wN hn rfl (wpAny_Constant_none (is_int_none (wpAny_truthy_bool ⟨rfl, wpAny_execs_nil ?_⟩))))))
    exact main h₀ _ _ _ _ hE hn rfl rfl rfl rfl rfl
end Mine

namespace Mine
open PySem PySem.W PySem.Calls PyProof.Rows

section
variable {w : World} {A : Around} {env : Env} {s : Shared}
/-- a def of the top called by its name with things handed and one more by name -/
theorem wCallKw {f : Addr} {o : Obj} {fd : FuncData} {np pos kp : Pos} {n kn : Str} {e kv : Expr} {rest : List Expr} {Q : Value → Shared → Prop} (S : Stat w s.heap) (hv : nsFind (mgEs w.params) n = some (.ref f)) (ho : (K w.params).lookup f = some o) (hd : o.data = .func fd)
    (h : Wp w A (spliced (backTo pos (starEach (e :: rest) env))) (fun vs s1 => Wp w A (eval kv env) (fun k s2 => Stat w s2.heap ∧ Wp w A (call (.ref f) vs [(kn, k)]) Q s2) s1) s)
    (he : starEach (e :: rest) env = (false, eval e env) :: starEach rest env := by kernel_rfl)
    (hg : env.globals = mainGlobals := by kernel_rfl) (hk : env.scope.kind = .function := by kernel_rfl) (hl : env.kindOf n = some .globalImplicit := by kernel_rfl) (hdb : (n == ("__debug__" : Str)) = false := by decide +kernel) :
    Wp w A (eval (.Call (.Name n np) (e :: rest) [⟨some kn, kv, kp⟩] pos) env) Q s := by
  refine wpAny_Call_Name_kw (wG S hv ?_ (hg := hg) (hk := hk) (hl := hl) (hd := hdb))
  refine callWith_def_kw (o := o) (fd := fd) hd ?_
  rw [he] at h ⊢
  refine evalArgs_kw rfl (wpAny_mono h (fun vs s1 h1 => ?_) fun _ _ x => x)
  refine kwAll_cons (wpAny_mono h1 (fun k s2 h2 => kwAll_nil ?_) fun _ _ x => x)
  exact ⟨h2.1.at ho, h2.2⟩
end
noncomputable def KeyS (w : World) (g : Heap) (f : Addr) (it : Value) (y : List Nat) (d : Nat) : Prop :=
  ∀ (A : Around) (s : Shared) (Q : Value → Shared → Prop), Rm A d → Ext g s.heap → Stat w s.heap → (∀ h' k t, Ext s.heap h' → Q (.str (mkS y) t) { s with heap := h', toks := k }) → Wp w A (call (.ref f) [it]) Q s
theorem KeyS.ext {w : World} {g g' : Heap} {f : Addr} {it : Value} {y : List Nat} {d : Nat} (h : KeyS w g f it y d) (e : Ext g g') : KeyS w g' f it y d := fun A s Q R hE S hQ => h A s Q R (e.trans hE) S hQ
theorem KeyS.le {w : World} {g : Heap} {f : Addr} {it : Value} {y : List Nat} {d d' : Nat} (h : KeyS w g f it y d) (e : d ≤ d') : KeyS w g f it y d' := fun A s Q R hE S hQ => h A s Q (R.le e) hE S hQ
theorem ltS {w : World} {A : Around} {s : Shared} {x y : List Nat} {t u : Tok} {b : Bool} {Q : Value → Shared → Prop} (hb : b = decide (x < y)) (h : Q (.bool b) s) : Wp w A (compareOp .Lt (.str (mkS x) t) (.str (mkS y) u)) Q s := by
  subst hb; exact P.lt_str h
theorem KeyS.probeL {w : World} {g : Heap} {f : Addr} {it : Value} {y z : List Nat} {d : Nat} {t : Tok} {b : Bool} (h : KeyS w g f it y d) (hb : b = decide (y < z)) : ProbeL w g f (.str (mkS z) t) it b d :=
  fun A s Q R hE S hQ => h A s Q R hE S fun h' k u hx => hQ h' k _ hx fun A' s' Q' hq => ltS hb hq
theorem KeyS.probeR {w : World} {g : Heap} {f : Addr} {it : Value} {y z : List Nat} {d : Nat} {t : Tok} {b : Bool} (h : KeyS w g f it y d) (hb : b = decide (z < y)) : ProbeR w g f (.str (mkS z) t) it b d :=
  fun A s Q R hE S hQ => h A s Q R hE S fun h' k u hx => hQ h' k _ hx fun A' s' Q' hq => ltS hb hq
theorem keyPrep (w : World) (g : Heap) (l : List Nat) (t : Tok) (hl : Fine l) : KeyS w g 154 (.str (mkS l) t) (prep l) 2 := fun A s Q R hE S hQ => prepared_ok w l t hl A s Q R S fun h' k u hx => hQ h' k u hx
theorem plain_seq {h : Heap} {l : Addr} {items : Array Value} {f : Array Value → Array Value} (hl : h.PlainList l items) : (h.update l (Obj.mapSeq f)).PlainList l (f items) := by
  obtain ⟨n, e⟩ := hl
  have hm : ∃ n', Obj.mapSeq f { cls := .type "list", data := .seq items n } = { cls := .type "list", data := .seq (f items) n' } := by
    unfold Obj.mapSeq
    dsimp only
    split <;> exact ⟨_, rfl⟩
  obtain ⟨n', hm⟩ := hm
  exact ⟨n', by rw [Heap.get?_update_self _ e (by rw [hm]; rfl), hm]⟩
theorem insert_call {w : World} {A : Around} {s : Shared} {l : Addr} {items : Array Value} {i : Nat} {t : Tok} {x : Value} {Q : Value → Shared → Prop} (hl : s.heap.PlainList l items) (hi : i ≤ items.size) (hsz : items.size ≤ 1000)
    (h : ∀ h', h'.PlainList l ((items.extract 0 i).push x ++ items.extract i) → Heap.SameBut l s.heap h' → Q .none { s with heap := h' }) : Wp w A (call (.builtin "list.insert") [.ref l, .int (i : Int) t, x]) Q s := by
  obtain ⟨n, e⟩ := id hl
  have hsz' : items.size ≤ sizeLine := Nat.le_trans hsz (by decide)
  have hfit : ¬ (!Builtin.List.listFitsIndex (i : Int)) = true := by
    have h1 : Builtin.List.listFitsIndex (i : Int) = true := by
      unfold Builtin.List.listFitsIndex
      have a1 : -(2 ^ 63 : Int) ≤ (i : Int) := by omega
      have a2 : (i : Int) < 2 ^ 63 := by omega
      rw [Bool.and_eq_true]
      exact ⟨decide_eq_true a1, decide_eq_true a2⟩
    rw [h1]; exact Bool.false_ne_true
  generalize hj : (i : Int) = j at hfit
  have M := PySem.AutoSeq1.list_insert_list_int_val_1 l items n j t x hfit hsz'
  refine call_meets PySem.F.slot_list_insert ⟨_, e, rfl⟩ PySem.F.entry_list_insert (PySem.F.args_list_insert_3 _ _ _) M ⟨e, h _ ?_ (Heap.SameBut.update ..)⟩
  subst hj
  have := plain_seq (f := fun xs => have k := if (i : Int) < 0 then ((i : Int) + (xs.size : Int)).toNat else min (i : Int).toNat xs.size; (xs.extract 0 k).push x ++ xs.extract k) hl
  have ek : (if (i : Int) < 0 then ((i : Int) + (items.size : Int)).toNat else min (i : Int).toNat items.size) = i := by
    rw [if_neg (by omega)]; omega
  dsimp only at this
  rw [ek] at this
  exact this
/-- how many items of a sorted run lie below y -/
theorem insort_ok (w : World) (A : Around) (s : Shared) (Q : Value → Shared → Prop) (d : Nat) (R : Rm A (d + 2)) (S : Stat w s.heap) {l f : Addr} {items : Array Value} {x : Value} {y : List Nat} (r : Nat)
    (hl : s.heap.PlainList l items) (hr : r ≤ items.size) (hsz : items.size ≤ 1000) (hf : IsFn s.heap f) (hkx : KeyS w s.heap f x y d)
    (hT : ∀ (i : Nat) v, i < r → items[i]? = some v → ∃ z, KeyS w s.heap f v z d ∧ z < y) (hF : ∀ (i : Nat) v, r ≤ i → i < items.size → items[i]? = some v → ∃ z, KeyS w s.heap f v z d ∧ ¬ z < y)
    (hQ : ∀ h' k, h'.PlainList l ((items.extract 0 r).push x ++ items.extract r) → Heap.ExtBut l s.heap h' → Q .none { s with heap := h', toks := k }) : Wp w A (call (.ref 32) [.ref l, x] [(Str.ofString "key", .ref f)]) Q s := by
  refine wCall (f := 32) (args := ⟨[.ref l, x], [(Str.ofString "key", .ref f)]⟩) (binds := bnds (.ref l) x (.int 0 203) .none (.ref f)) R S (o := o32 w.params) (by kernel_rfl) rfl rfl ⟨31, o31 w.params, _, _, rfl, S.at (by kernel_rfl), rfl, rfl⟩ (bindI2 S) (fun h₀ hn hE S' R' => ?_)
  obtain ⟨fo, fd, hfo, hfd⟩ := id hf
  have hll : l ≠ s.heap.objs.size := by
    obtain ⟨n, e⟩ := hl
    exact Nat.ne_of_lt (Heap.lt_size e)
  refine wpAny_execs_cons (wIfF (wpAny_isTrue_Compare1 (wN hn rfl (wpAny_Constant_none (is_ref_none (wpAny_truthy_bool ⟨rfl, ?_⟩))))))
  refine wpAny_execs_cons (wpAny_Assign_Name ?_)
  refine wCallKw S' (f := 41) (o := o41 w.params) (by kernel_rfl) (by kernel_rfl) rfl ?_
  refine aN (wN hn rfl ?_)
  refine aCall ?_
  refine Call_ (wN hn rfl ?_)
  refine callWith_def hfd (aN (wN hn rfl (aNil ⟨hE _ _ hfo, ?_⟩))) rfl
  refine (hkx.ext hE) _ _ _ (R'.le (by omega)) (Ext.refl _) S' fun h1 k1 t1 hx1 => ?_
  dsimp only at hx1 ⊢
  have hn1 := hn.keeps hx1
  have hE1 := hE.trans hx1
  refine aN (wN hn1 rfl ?_)
  refine aN (wN hn1 rfl (aNil ?_))
  have S1 : Stat w h1 := S.ext hE1
  refine wN hn1 rfl ⟨S1, ?_⟩
  have hl1 : h1.PlainList l items := hl.at fun o e => hE1 _ o e
  refine bisL_ok w _ { s with heap := h1, toks := k1 } _ d R' S1 (args := ⟨_, _⟩) (items := items) 0 r items.size hl1.isList (Nat.zero_le _) hr (Nat.le_refl _) hsz (.inl ⟨rfl, rfl⟩) ⟨fo, fd, hE1 _ _ hfo, hfd⟩ (bindL4 S1) (fun i v _ hi hv => ?_) (fun i v hi hi2 hv => ?_) fun h2 k2 t2 hx2 => ?_
  · obtain ⟨z, hz, hlt⟩ := hT i v hi hv
    exact (hz.ext hE1).probeL (decide_eq_true hlt).symm
  · obtain ⟨z, hz, hlt⟩ := hF i v hi hi2 hv
    exact (hz.ext hE1).probeL (decide_eq_false hlt).symm
  dsimp only at hx2 ⊢
  have hn2 := hn1.keeps hx2
  have hE2 := hE1.trans hx2
  refine wSt hn2 fun h3 hn3 hs3 => ?_
  have hE3 := ext1 hE2 rfl hs3
  dsimp only at hn3 hE3 ⊢
  refine wpAny_execs_nil (wpAny_execs_cons (wpAny_Expr_any (MethodCall_ (wN hn3 rfl ?_))))
  have hl3 : h3.PlainList l items := hl.at fun o e => hE3 _ o e
  obtain ⟨n3, e3⟩ := id hl3
  refine getMethod_list_of PySem.F.slot_list_insert PySem.F.type_list_insert hl3.isList ?_ ?_
  · exact ⟨_, e3, rfl⟩
  refine callWith_method1 (aN (wN hn3 rfl (aN (wN hn3 rfl (aNil ?_)))))
  refine insert_call hl3 hr hsz fun h4 hl4 hs4 => ?_
  refine wpAny_execs_nil ?_
  refine hQ h4 _ hl4 fun b o hb e => hs4.extBut b o hb (hE3 b o e)
end Mine

namespace Mine
open PySem PySem.W PySem.Calls PyProof.Rows

/-! ## lambdas -/
theorem ebOf {h h' : Heap} {a : Addr} (e : Ext h h') : Heap.ExtBut a h h' := fun b o _ x => e b o x
theorem ebThen {h h' h'' : Heap} {a : Addr} (e : Heap.ExtBut a h h') (f : Heap.ExtBut a h' h'') : Heap.ExtBut a h h'' := fun b o hb x => f b o hb (e b o hb x)
theorem Stat.but {w : World} {h h' : Heap} {a : Addr} (S : Stat w h) (e : Heap.ExtBut a h h') (hk : (Mine.K w.params).lookup a = none) (h0 : builtinsNs ≠ a) (h2 : cStatics ≠ a) : Stat w h' := by
  refine ⟨fun b o hb => e b o (fun q => ?_) (S.K b o hb), ?_, S.lim.extBut e h2⟩
  · subst q; rw [hk] at hb; cases hb
  · obtain ⟨mb, x, y⟩ := S.b
    exact ⟨mb, x.extBut e h0, y⟩
/-- the module of the built-ins -/
noncomputable def Bm (h : Heap) : Prop := ∃ ob, h.get? 4 = some ob ∧ ob.cls = .type "module" ∧ ob.dict = some builtinsNs ∧ ob.data = .plain
theorem Bm.ext {h h' : Heap} (x : Bm h) (e : Ext h h') : Bm h' := let ⟨ob, a, r⟩ := x; ⟨ob, e _ _ a, r⟩
theorem Bm.but {h h' : Heap} {a : Addr} (x : Bm h) (e : Heap.ExtBut a h h') (ha : (4 : Addr) ≠ a) : Bm h' := let ⟨ob, b, r⟩ := x; ⟨ob, e _ _ ha b, r⟩
theorem Bm.at {w : World} {h : Heap} (x : Bm h) {P : Addr} (hP : (4 : Addr) ≠ P) : h.BuiltinsAt (fun y => nsFind (mgEs w.params) y) P := by
  obtain ⟨ob, a, b, c, d⟩ := x
  exact ⟨4, ob, by kernel_rfl, by decide, by decide, hP, a, b, c, d⟩
/-- the table of nested code at P: every code of it goes by this name -/
noncomputable def Tab (h : Heap) (P : Addr) (q : Str) : Prop := ∃ ps, h.get? P = some (tabObj ps) ∧ TriplesOk ps.toList ∧ ∀ pos cv, codeAmong pos ps.toList = some cv → h.CodeRec cv q
theorem Tab.ext {h h' : Heap} {P : Addr} {q : Str} (x : Tab h P q) (e : Ext h h') : Tab h' P q := let ⟨ps, a, b, c⟩ := x; ⟨ps, e _ _ a, b, fun pos cv hc => (c pos cv hc).keeps e⟩
theorem codeRec_but {h h' : Heap} {a : Addr} {cv : Value} {q : Str} (x : h.CodeRec cv q) (e : Heap.ExtBut a h h') (ha : ∀ c, cv = .ref c → c ≠ a) : h'.CodeRec cv q :=
  let ⟨c, o, vs, t, e1, g, r⟩ := x; ⟨c, o, vs, t, e1, e _ _ (ha c e1) g, r⟩
theorem codeRec_ne {h : Heap} {c a : Addr} {q : Str} {ps : Array Value} (x : h.CodeRec (.ref c) q) (hP : h.get? a = some (tabObj ps)) (ht : TriplesOk ps.toList) : c ≠ a := by
  rintro rfl
  obtain ⟨c', o, vs, t, e1, g, hd, hv⟩ := x
  cases e1
  rw [hP] at g; cases g
  cases hd
  have := triples_no_str ht q t
  rw [Array.getElem?_toList] at this
  exact this hv
theorem codeAmong_or {pos p' : Pos} {c cv : Value} : ∀ (l : List Value), TriplesOk l → codeAmong p' (l ++ [rawInt pos.line, rawInt pos.col, c]) = some cv → codeAmong p' l = some cv ∨ cv = c := by
  intro l h
  fun_induction TriplesOk l with
  | case1 =>
    intro e
    simp only [List.nil_append, codeAmong, rawInt] at e
    split at e
    · cases e; exact .inr rfl
    · cases e
  | case2 a t b u x rest ih =>
    intro e
    simp only [List.cons_append, codeAmong] at e ⊢
    split at e
    · rename_i hc; cases e; left; rw [if_pos hc]
    · rename_i hc; rw [if_neg hc]; exact ih h e
  | case3 l h1 h2 => exact h.elim
section
variable {w : World} {A : Around} {env : Env} {s : Shared}
theorem wLam {params : Arguments} {body : Expr} {scope : Scope} {pos : Pos} {c P : Addr} {clos : List (Str × Addr)} {Q : Value → Shared → Prop} (S : Stat w s.heap) (B : Bm s.heap) (C : CodeHd s.heap c P) (T : Tab s.heap P (env.qual ++ "<lambda>"))
    (hcl : closureFor scope env = pure clos) (hP4 : (4 : Addr) ≠ P) (hPm : mainGlobals ≠ P)
    (h : ∀ f cv ctv h' k, Heap.ExtBut P s.heap h' → Tab h' P (env.qual ++ "<lambda>") → h'.CodeRec cv (env.qual ++ "<lambda>") → s.heap.objs.size ≤ f → (∃ pm, h'.get? f = some { cls := .type "function", data := .func (kla_fn "<lambda>" (env.qual ++ "<lambda>") params body scope clos pm cv ctv) }) →
      Q (.ref f) { s with heap := h', toks := k })
    (hdef : defaultsOf params env = ([], []) := by rfl) (hge0 : env.globals = mainGlobals := by kernel_rfl) (hcode : env.code = .ref c := by kernel_rfl) :
    Wp w A (eval (.Lambda params body scope pos) env) Q s := by
  refine kla_eval hdef ?_
  obtain ⟨ps, hp, ht, hc⟩ := T
  cases hf : codeAmong pos ps.toList with
  | some cv =>
    refine kla_makeFunctionHit hcl hge0 S.g hcode C hp ht hf (B.at hP4) fun ctv h' tk hk hsz => ?_
    have hk2 : Ext s.heap (h'.push { cls := .type "function", data := .func (kla_fn "<lambda>" (env.qual ++ "<lambda>") params body scope clos ((nsFind (mgEs w.params) "__name__").getD .none) cv ctv) }) := fun b o e => Heap.get?_push_of_some _ (hk b o e)
    exact h _ cv ctv _ tk (ebOf hk2) ⟨ps, hk2 _ _ hp, ht, fun pos cv hc' => (hc pos cv hc').keeps hk2⟩ ((hc pos cv hf).keeps hk2) hsz ⟨_, Heap.get?_push_size _ rfl⟩
  | none =>
    refine kla_makeFunction hcl hge0 S.g hcode C hp ht hf hPm (B.at hP4) fun c' ctv h' tk hx hge hlt hrec htb => ?_
    have ht2 := TriplesOk_snoc pos.line pos.col (.ref c') ps.toList ht
    have hx2 : Ext h' (h'.push (kla_obj "<lambda>" (env.qual ++ "<lambda>") params body scope clos ((nsFind (mgEs w.params) "__name__").getD .none) c' ctv)) := fun b o e => Heap.get?_push_of_some _ e
    refine h _ (.ref c') ctv _ tk (ebThen hx (ebOf hx2)) ⟨_, hx2 _ _ htb, by simpa using ht2, fun p' cv hc' => ?_⟩ (hrec.keeps hx2) (by omega) ⟨_, Heap.get?_push_size _ rfl⟩
    have hc'' : codeAmong p' (ps.toList ++ [rawInt pos.line, rawInt pos.col, .ref c']) = some cv := by simpa using hc'
    rcases codeAmong_or _ ht hc'' with q | rfl
    · have r := hc p' cv q
      exact (codeRec_but r hx fun c0 e => by subst e; exact codeRec_ne r hp ht).keeps hx2
    · exact hrec.keeps hx2
theorem wCallLam {f : Addr} {cv ctv pm : Value} {params : Arguments} {body : Expr} {scope : Scope} {clos : List (Str × Addr)} {qual : Str} {vals : List Value} {binds : List (Str × Value)} {Q : Value → Shared → Prop} {d : Nat} (R : Rm A (d + 1)) (S : Stat w s.heap)
    (ho : s.heap.get? f = some { cls := .type "function", data := .func (kla_fn "<lambda>" qual params body scope clos pm cv ctv) }) (hcd : s.heap.CodeRec cv qual)
    (hbind : bindArgs (kla_fn "<lambda>" qual params body scope clos pm cv ctv) ⟨vals, []⟩ = pure binds) (hloc : (binds.all fun x => scope.names.lookup x.1 == some .local) = true)
    (h : ∀ h₁, h₁.Ns s.heap.objs.size (fun x => binds.reverse.lookup x) → Ext s.heap h₁ → Stat w h₁ → Rm (A.deeper (envX qual scope s.heap.objs.size f cv clos)) d →
      Wp w (A.deeper (envX qual scope s.heap.objs.size f cv clos)) (eval body (envX qual scope s.heap.objs.size f cv clos)) Q { s with heap := h₁, toks := s.toks + binds.length })
    (hcell : (scope.names.all fun x => x.2 != .cell) = true) (hco : scope.isCoroutine = false) (hgen : scope.isGenerator = false) (hk : scope.kind = .function) :
    Wp w A (call (.ref f) vals) Q s := by
  refine wpAny_call (kla_callFunE R.room ho rfl hco hgen rfl hcd ?_)
  rw [hbind]
  refine wpAny_pure (wpAny_newFunctionEnv (fun x hx => by have := List.all_eq_true.mp hcell x hx; simpa using this) (fun x hx => by have := List.all_eq_true.mp hloc x hx; simpa using this) (fun h₁ hns hsb => ⟨S.lim.fresh _ hsb, ?_⟩) hk)
  have hk₁ : Ext s.heap h₁ := fun b o e => hsb.extBut b o (Nat.ne_of_lt (Heap.lt_size e)) (Heap.get?_push_of_some _ e)
  exact kla_codeExpr (wpAny_mono (h h₁ hns hk₁ (S.ext hk₁) (R.deeper _)) (fun v s' hq => hq) fun _ _ x => x.elim)
/-- a name that is free here -/
theorem wNf {x : Str} {pos : Pos} {c : Addr} {v : Value} {Q : Value → Shared → Prop} (hc : env.cells.lookup x = some c) (hv : s.heap.IsCell c (some v)) (h : Q v s)
    (hk : env.scope.kind = .function := by kernel_rfl) (hl : env.kindOf x = some .free := by kernel_rfl) (hn : (x == ("__classdict__" : Str)) = false := by decide +kernel) (hd : (x == ("__debug__" : Str)) = false := by decide +kernel) :
    Wp w A (eval (.Name x pos) env) Q s := wpAny_Name (wpAny_loadName_free hk hl hc hv h hn) hd
end
end Mine

namespace Mine
open PySem PySem.W PySem.Calls PyProof.Rows

section
variable {w : World} {A : Around} {env : Env} {s : Shared}
theorem wSliceC {value : Expr} {lower upper : Option Expr} {p pos : Pos} {Q : Value → Shared → Prop}
    (h : Wp w A (eval value env) (fun o s₁ => Wp w A (evalPart lower env) (fun vl s₂ => Wp w A (evalPart upper env) (fun vu s₃ =>
      ∃ (x : Str) (t : Tok) (l u : Option (Int × Tok)) (a b : Nat), o = .str x t ∧ vl = partValue l ∧ vu = partValue u ∧ ((l = none ∧ a = 0) ∨ ∃ k, l = some ((a : Int), k)) ∧ ((u = none ∧ x.length ≤ b) ∨ ∃ k, u = some ((b : Int), k)) ∧ x.length ≤ sizeLine ∧
        ∀ h' t' k, Ext s₃.heap h' → Q (.str (mkS (((Lx x).take b).drop a)) t') { s₃ with heap := h', toks := k }) s₂) s₁) s) : Wp w A (eval (.Subscript value (.Slice lower upper none p) pos) env) Q s := by
  rw [eval_Subscript]
  refine wpAny_bind (wpAny_mono h (fun o s1 h1 => wpAny_bind (wpAny_holding (wpAny_Slice (wpAny_mono h1 (fun vl s2 h2 => wpAny_mono h2 (fun vu s3 h3 => ?_) fun _ _ x => x) fun _ _ x => x)))) fun _ _ x => x)
  obtain ⟨x, t, l, u, a, b, rfl, rfl, rfl, hl, hu, hx, hq⟩ := h3
  rw [evalPart_none]
  refine wpAny_pure (wpAny_bind (wpAny_standAt ?_))
  have fin : ∀ (i : Value) s₂, Wp w A (getItem (.str x t) i) Q s₂ → Wp w A (operate [i, .str x t] (getItem (.str x t) i)) (fun r s₃ => Wp w A (letTemporaryGo value (.str x t) r >>= fun _ => pure r) Q s₃) s₂ := fun i s₂ h₂ =>
    wpAny_operating (wpAny_mono h₂ (fun r s₃ h₃ => wpAny_bind (wpAny_letTemporaryGo (wpAny_pure h₃))) fun _ _ x => x)
  have hT : ∀ s' : Shared, s'.TypeIs (.str x t) "str" := fun s' => typeIs_str _ x t
  have hget : ∀ s' : Shared, s' = { s3 with heap := s3.heap.push { cls := .type "slice", data := .fields #[partValue l, partValue u, .none] } } → Wp w A (getItem (.str x t) (.ref s3.heap.objs.size)) Q s' := by
    rintro s' rfl
    exact wpAny_getItem_str_slice (l := l) (u := u) (st := none) ⟨_, Heap.get?_push_size _ rfl, rfl, rfl⟩ rfl (slice_post hl hu hx fun t' k => hq _ t' k (fun b o e => Heap.get?_push_of_some _ e))
  first
    | (refine wpAny_bind ?_
       rw [getitemInPython_of_ne (hT s3).not_modules]
       refine wpAny_bind (wpAny_specialOf (hT _) F.slot_str_getitem.lookup ?_)
       first
         | exact wpAny_pure (wpAny_bind (fin _ _ (hget _ rfl)))
         | exact wpAny_bind (wpAny_pure (wpAny_bind (fin _ _ (hget _ rfl))))
         | exact wpAny_bind (fin _ _ (hget _ rfl)))
    | (refine wpAny_bind (wpAny_specialOf (hT _) F.slot_str_getitem.lookup ?_)
       first
         | exact wpAny_bind (wpAny_pure (wpAny_bind (fin _ _ (hget _ rfl))))
         | exact wpAny_bind (fin _ _ (hget _ rfl)))
end
/-! ## _law_stretch -/
noncomputable abbrev lamPar (x : Str) (p0 : Pos) : Arguments := { posonlyargs := [], args := [{ arg := x, annotation := none, pos := p0 : PySem.Arg }], vararg := none, kwonlyargs := [], kw_defaults := [], kwarg := none, defaults := [] : PySem.Arguments }
noncomputable abbrev lamScS : Scope := { kind := PySem.ScopeKind.function, names := [(PySem.Str.ofString "one", PySem.NameKind.local), (PySem.Str.ofString "front", PySem.NameKind.free), (PySem.Str.ofString "start", PySem.NameKind.free), (PySem.Str.ofString "_law_prepared", PySem.NameKind.globalImplicit), (PySem.Str.ofString "len", PySem.NameKind.globalImplicit)], isGenerator := false, isCoroutine := false, more := [] : PySem.Scope }
noncomputable abbrev lamBodyS (p1 p2 p3 p4 p5 p6 p7 p8 p9 : Pos) : Expr := .Subscript (.Call (.Name "_law_prepared" p1) [.Name "one" p2] [] p3) (.Slice (some (.Name "start" p4)) (some (.Call (.Name "len" p5) [.Name "front" p6] [] p7)) none p8) p9
theorem prep_len {l : List Nat} (h : Fine l) : (prep l).length ≤ 4 * l.length := by
  unfold prep
  rw [List.length_flatten, List.map_map]
  have : ∀ m : List Nat, (∀ c ∈ m, (Lx (b3R c)).length ≤ 4) → (m.map (List.length ∘ fun c => Lx (b3R c))).sum ≤ 4 * m.length := by
    intro m hm
    induction m with
    | nil => simp
    | cons a r ih =>
      have h1 := hm a (List.mem_cons_self ..)
      have h2 := ih fun c hc => hm c (List.mem_cons_of_mem _ hc)
      rw [List.map_cons, List.sum_cons, List.length_cons]
      show (Lx (b3R a)).length + _ ≤ _
      omega
  refine Nat.le_trans (this _ fun c hc => h.2 c (List.mem_filter.mp hc).1) ?_
  have := List.length_filter_le (fun c : Nat => !b1L.contains (c : Int)) l
  omega
theorem stretchKey (w : World) {g : Heap} {f : Addr} {cv ctv pm : Value} {cF cS : Addr} {front one : List Nat} {tf ts t : Tok} {st : Nat} {q : Str} {p0 p1 p2 p3 p4 p5 p6 p7 p8 p9 : Pos}
    (hf : g.get? f = some { cls := .type "function", data := .func (kla_fn "<lambda>" q (lamPar "one" p0) (lamBodyS p1 p2 p3 p4 p5 p6 p7 p8 p9) lamScS [("start", cS), ("front", cF)] pm cv ctv) }) (hcd : g.CodeRec cv q)
    (hF : g.IsCell cF (some (.str (mkS front) tf))) (hS : g.IsCell cS (some (.int (st : Int) ts))) (hone : Fine one) (hfr : front.length ≤ 900) : KeyS w g f (.str (mkS one) t) (((prep one).take front.length).drop st) 3 := by
  intro A s Q R hE S hQ
  refine wCallLam (vals := [.str (mkS one) t]) (binds := [("one", .str (mkS one) t)]) R S (hE _ _ hf) (hcd.keeps hE) (by with_unfolding_all rfl) (by rfl) (fun h₀ hn hE₀ S₀ R₀ => ?_) rfl rfl rfl rfl
  refine wSliceC ?_
  refine wCall1 S₀ (f := 154) (o := o154 w.params) (by kernel_rfl) (by kernel_rfl) rfl (wN hn rfl ⟨S₀, ?_⟩)
  refine prepared_ok w one t hone _ _ _ R₀ S₀ fun h1 k1 t1 hx1 => ?_
  dsimp only at hx1 ⊢
  have hEs := (hE.trans hE₀).trans hx1
  have S1 : Stat w h1 := S₀.ext hx1
  refine wpAny_evalPart_some (wNf (c := cS) rfl (hS.keeps hEs) (wpAny_evalPart_some ?_))
  refine wCallB S1 (id := "len") (by kernel_rfl) (wNf (c := cF) rfl (hF.keeps hEs) ?_)
  refine P.len_str (by rw [mkS_len]; omega) ?_
  have hpl := prep_len hone
  have hol := hone.1
  refine ⟨_, _, some ((st : Int), ts), some ((front.length : Int), k1 + 1), st, front.length, rfl, rfl, ?_, .inr ⟨_, rfl⟩, .inr ⟨_, rfl⟩, lenOk (by omega), fun h2 t2 k2 hx2 => ?_⟩
  · rw [mkS_len]; rfl
  · exact hQ h2 k2 t2 ((hE₀.trans hx1).trans hx2)
end Mine

namespace Mine
open PySem PySem.W PySem.Calls PyProof.Rows

noncomputable def qS : Str := Str.ofString "_law_stretch" ++ ".<locals>." ++ "<lambda>"
noncomputable def qL : Str := Str.ofString "law" ++ ".<locals>." ++ "<lambda>"
theorem hdS {w : World} {h : Heap} (S : Stat w h) : CodeHd h 167 163 := ⟨o167 w.params, _, _, _, _, _, _, _, _, S.at (by kernel_rfl), rfl, rfl, rfl, rfl, rfl, rfl, rfl, rfl, by decide⟩
theorem hdL {w : World} {h : Heap} (S : Stat w h) : CodeHd h 179 177 := ⟨o179 w.params, _, _, _, _, _, _, _, _, S.at (by kernel_rfl), rfl, rfl, rfl, rfl, rfl, rfl, rfl, rfl, by decide⟩
theorem Stat.b163 {w : World} {h h' : Heap} (S : Stat w h) (e : Heap.ExtBut 163 h h') : Stat w h' := S.but e (by kernel_rfl) (by decide) (by decide)
/-- the book: names, each fine -/
noncomputable abbrev BookIs (vs : List Value) (xs : List (List Nat)) : Prop := Paired (fun v l => RS v l ∧ Fine l) vs xs
theorem stretch_ok (w : World) (A : Around) (s : Shared) (Q : Value → Shared → Prop) (R : Rm A 5) (S : Stat w s.heap) (B : Bm s.heap) (T : Tab s.heap 163 qS) {l : Addr} {items : Array Value} {xs : List (List Nat)} {front : List Nat} {tf ts tl th : Tok} (st lo hi r1 r2 : Nat)
    (hl : s.heap.IsList l items) (hx : BookIs items.toList xs) (hsz : items.size ≤ 1000) (hfr : front.length ≤ 900) (h1 : lo ≤ r1) (h2 : r1 ≤ r2) (h3 : r2 ≤ hi) (h4 : hi ≤ items.size)
    (hA : ∀ (i : Nat) x, lo ≤ i → i < r1 → xs[i]? = some x → ((prep x).take front.length).drop st < front.drop st)
    (hB : ∀ (i : Nat) x, r1 ≤ i → i < hi → xs[i]? = some x → ¬ ((prep x).take front.length).drop st < front.drop st)
    (hC : ∀ (i : Nat) x, r1 ≤ i → i < r2 → xs[i]? = some x → ¬ front.drop st < ((prep x).take front.length).drop st)
    (hD : ∀ (i : Nat) x, r2 ≤ i → i < hi → xs[i]? = some x → front.drop st < ((prep x).take front.length).drop st)
    (hQ : ∀ h' k T t1 t2, Heap.ExtBut 163 s.heap h' → Tab h' 163 qS → IsTup h' T #[.int (r1 : Int) t1, .int (r2 : Int) t2] → Q (.ref T) { s with heap := h', toks := k }) :
    Wp w A (call (.ref 168) [.ref l, .str (mkS front) tf, .int (st : Int) ts, .int (lo : Int) tl, .int (hi : Int) th]) Q s := by
  refine wCallC (f := 168) (vals := [.ref l, .str (mkS front) tf, .int (st : Int) ts, .int (lo : Int) tl, .int (hi : Int) th]) (binds := [("book", .ref l), ("front", .str (mkS front) tf), ("start", .int (st : Int) ts), ("low", .int (lo : Int) tl), ("high", .int (hi : Int) th)]) R S (o := o168 w.params) (by kernel_rfl) rfl rfl ⟨167, o167 w.params, _, _, rfl, S.at (by kernel_rfl), rfl, rfl⟩ (by with_unfolding_all rfl) rfl (fun x hx => ?_) (fun h₀ k F S₀ R₀ => ?_)
  · simp only [List.mem_cons, List.not_mem_nil, or_false] at hx
    rcases hx with rfl | rfl | rfl | rfl | rfl
    · exact .inl (by kernel_rfl)
    · exact .inr ⟨by kernel_rfl, by with_unfolding_all rfl⟩
    · exact .inr ⟨by kernel_rfl, by with_unfolding_all rfl⟩
    · exact .inl (by kernel_rfl)
    · exact .inl (by kernel_rfl)
  have hc1 : (cellsFrom (s.heap.objs.size + 1) (fdX 168 w).scope.names []).lookup (Str.ofString "front") = some (s.heap.objs.size + 1) := by with_unfolding_all rfl
  have hc2 : (cellsFrom (s.heap.objs.size + 1) (fdX 168 w).scope.names []).lookup (Str.ofString "start") = some (s.heap.objs.size + 2) := by with_unfolding_all rfl
  have cF : h₀.IsCell (s.heap.objs.size + 1) (some (.str (mkS front) tf)) := F.cell _ _ hc1
  have cS : h₀.IsCell (s.heap.objs.size + 2) (some (.int (st : Int) ts)) := F.cell _ _ hc2
  refine wpAny_execs_cons (wpAny_Assign_Name (wSlice ?_))
  refine wNc (c := s.heap.objs.size + 1) hc1 cF (wpAny_evalPart_some (wNc (c := s.heap.objs.size + 2) hc2 cS (wpAny_evalPart_none ?_)))
  refine ⟨_, _, some ((st : Int), ts), none, st, front.length, rfl, rfl, rfl, .inr ⟨_, rfl⟩, .inl ⟨rfl, by rw [mkS_len]; omega⟩, lenOk (by omega), fun g1 t1 k1 hx1 => ?_⟩
  dsimp only at hx1 ⊢
  rw [show List.take front.length (Lx (mkS front)) = front from List.take_length]
  have F1 := F.ext hx1
  refine wSt F1.ns fun g2 hn2 hs2 => ?_
  have F2 := F1.stL hn2 hs2
  have E2 : Ext s.heap g2 := F2.keep
  dsimp only at F2 ⊢
  have S2 : Stat w g2 := S.ext E2
  refine wpAny_execs_cons (wpAny_Assign_Name ?_)
  refine wCallKw S2 (f := 41) (o := o41 w.params) (by kernel_rfl) (by kernel_rfl) rfl ?_
  refine aN (wN F2.ns rfl (aN (wN F2.ns rfl (aN (wN F2.ns rfl (aN (wN F2.ns rfl (aNil ?_))))))))
  refine wLam S2 (B.ext E2) (hdS S2) (T.ext E2) (clos := [("start", s.heap.objs.size + 2), ("front", s.heap.objs.size + 1)]) (by with_unfolding_all rfl) (by decide) (by decide) fun f cv ctv g3 k3 hx3 T3 hcd3 hf3 hfo => ?_
  obtain ⟨pm, hfo⟩ := hfo
  dsimp only at hx3 hf3 ⊢
  have ltL : 163 < s.heap.objs.size := by obtain ⟨ps, e, _⟩ := T; exact Heap.lt_size e
  have nL : s.heap.objs.size ≠ 163 := Nat.ne_of_gt ltL
  have n1 : s.heap.objs.size + 1 ≠ 163 := Nat.ne_of_gt (Nat.lt_succ_of_lt ltL)
  have n2 : s.heap.objs.size + 2 ≠ 163 := Nat.ne_of_gt (Nat.lt_succ_of_lt (Nat.lt_succ_of_lt ltL))
  have m1 : s.heap.objs.size + 1 ≠ s.heap.objs.size := Nat.succ_ne_self _
  have m2 : s.heap.objs.size + 2 ≠ s.heap.objs.size := Nat.ne_of_gt (Nat.lt_add_of_pos_right (by decide))
  have nl : l ≠ 163 := by
    obtain ⟨ps, e, _⟩ := T
    obtain ⟨o, ho, hcls, _⟩ := hl
    rintro rfl
    rw [e] at ho; cases ho; cases hcls
  have S3 : Stat w g3 := S2.b163 hx3
  have hn3 := F2.ns.extBut hx3 nL
  have cFa : g2.IsCell (s.heap.objs.size + 1) (some (.str (mkS front) tf)) := F2.cell _ _ hc1
  have cSa : g2.IsCell (s.heap.objs.size + 2) (some (.int (st : Int) ts)) := F2.cell _ _ hc2
  have cBut : ∀ {c : Addr} {v : Option Value}, g2.IsCell c v → c ≠ 163 → g3.IsCell c v := fun x hc => let ⟨o, ho, hd⟩ := x; ⟨o, hx3 _ _ hc ho, hd⟩
  have cF3 := cBut cFa n1
  have cS3 := cBut cSa n2
  have X3 : Heap.ExtBut 163 s.heap g3 := ebThen (ebOf E2) hx3
  have hl3 : g3.IsList l items := hl.extBut X3 nl
  have B3 : Bm g3 := B.but X3 (by decide)
  clear F2 hn2 hs2 hx3 cFa cSa cBut
  refine ⟨S3, ?_⟩
  have key : ∀ (g : Heap) (f : Addr) (p0 p1 p2 p3 p4 p5 p6 p7 p8 p9 : Pos) (cv ctv pm : Value), g.get? f = some { cls := .type "function", data := .func (kla_fn "<lambda>" qS (lamPar "one" p0) (lamBodyS p1 p2 p3 p4 p5 p6 p7 p8 p9) lamScS [("start", s.heap.objs.size + 2), ("front", s.heap.objs.size + 1)] pm cv ctv) } → g.CodeRec cv qS →
      g.IsCell (s.heap.objs.size + 1) (some (.str (mkS front) tf)) → g.IsCell (s.heap.objs.size + 2) (some (.int (st : Int) ts)) →
      ∀ (i : Nat) v, items[i]? = some v → ∃ x, xs[i]? = some x ∧ KeyS w g f v (((prep x).take front.length).drop st) 3 := by
    intro g f p0 p1 p2 p3 p4 p5 p6 p7 p8 p9 cv ctv pm ho hc hF hS i v hv
    obtain ⟨x, hxi, ⟨u, rfl⟩, hfine⟩ := Paired.getL hx (i := i) (a := v) (by simpa using hv)
    exact ⟨x, hxi, stretchKey w ho hc hF hS hfine hfr⟩
  refine bisL_ok w _ { s with heap := g3, toks := k3 } _ 3 R₀ S3 (args := ⟨_, _⟩) (items := items) lo r1 hi hl3 h1 (Nat.le_trans h2 h3) h4 hsz (.inr ⟨_, rfl⟩) ⟨_, _, hfo, rfl⟩ (bindL4 S3) (fun i v hi1 hi2 hv => ?_) (fun i v hi1 hi2 hv => ?_) fun g4 k4 t4 hx4 => ?_
  · obtain ⟨x, hxi, hk⟩ := key g3 f _ _ _ _ _ _ _ _ _ _ cv ctv pm hfo hcd3 cF3 cS3 i v hv
    exact hk.probeL (decide_eq_true (hA i x hi1 hi2 hxi)).symm
  · obtain ⟨x, hxi, hk⟩ := key g3 f _ _ _ _ _ _ _ _ _ _ cv ctv pm hfo hcd3 cF3 cS3 i v hv
    exact hk.probeL (decide_eq_false (hB i x hi1 hi2 hxi)).symm
  dsimp only at hx4 ⊢
  have hn4 := hn3.keeps hx4
  refine wSt hn4 fun g5 hn5 hs5 => ?_
  dsimp only at hn5 hs5 ⊢
  have hs5 : Heap.SameBut s.heap.objs.size g4 g5 := hs5
  have nc : ∀ {c : Addr} {v : Option Value}, g3.IsCell c v → c ≠ s.heap.objs.size → g5.IsCell c v := fun x hc => (x.keeps hx4).sameBut hs5 hc
  have cF5 := nc cF3 m1
  have cS5 := nc cS3 m2
  have X5 : Heap.ExtBut 163 s.heap g5 := fun b o hb e => hs5.extBut b o (Nat.ne_of_lt (Heap.lt_size e)) (hx4 _ _ (X3 b o hb e))
  have S5 : Stat w g5 := S.b163 X5
  have B5 : Bm g5 := B.but X5 (by decide)
  have hl5 : g5.IsList l items := hl.extBut X5 nl
  have T5 : Tab g5 163 qS := by
    obtain ⟨ps, e1, e2, e3⟩ := T3.ext hx4
    refine ⟨ps, hs5.extBut _ _ nL.symm e1, e2, fun pos cv hc => ?_⟩
    have r := e3 pos cv hc
    obtain ⟨c, o, vs, t, q1, q2, q3, q4⟩ := id r
    refine codeRec_but r hs5.extBut fun c' e => ?_
    rw [q1] at e; cases e
    rintro rfl
    obtain ⟨o', es, ep, ho', hd', _⟩ := hn4
    rw [show g4.get? s.heap.objs.size = some o' from ho'] at q2; cases q2
    rw [hd'] at q3; cases q3
  clear hn4 hs5 hx4 hn3 cF3 cS3 X3 hl3 B3 S3 T3 hcd3 hf3 hfo nc
  refine wpAny_execs_cons (wpAny_Assign_Name ?_)
  refine wCallKw S5 (f := 23) (o := o23 w.params) (by kernel_rfl) (by kernel_rfl) rfl ?_
  refine aN (wN hn5 rfl (aN (wN hn5 rfl (aN (wN hn5 rfl (aN (wN hn5 rfl (aNil ?_))))))))
  refine wLam S5 B5 (hdS S5) T5 (clos := [("start", s.heap.objs.size + 2), ("front", s.heap.objs.size + 1)]) (by with_unfolding_all rfl) (by decide) (by decide) fun f2 cv2 ctv2 g6 k6 hx6 T6 hcd6 hf6 hfo6 => ?_
  obtain ⟨pm2, hfo6⟩ := hfo6
  dsimp only at hx6 hf6 ⊢
  have S6 : Stat w g6 := S5.b163 hx6
  have hn6 := hn5.extBut hx6 nL
  have cBut : ∀ {c : Addr} {v : Option Value}, g5.IsCell c v → c ≠ 163 → g6.IsCell c v := fun x hc => let ⟨o, ho, hd⟩ := x; ⟨o, hx6 _ _ hc ho, hd⟩
  have cF6 := cBut cF5 n1
  have cS6 := cBut cS5 n2
  have X6 : Heap.ExtBut 163 s.heap g6 := ebThen X5 hx6
  have hl6 : g6.IsList l items := hl.extBut X6 nl
  refine ⟨S6, ?_⟩
  refine bisR_ok w _ { s with heap := g6, toks := k6 } _ 3 R₀ S6 (args := ⟨_, _⟩) (items := items) r1 r2 hi hl6 h2 h3 h4 hsz (.inr ⟨_, rfl⟩) ⟨_, _, hfo6, rfl⟩ (bindR4 S6) (fun i v hi1 hi2 hv => ?_) (fun i v hi1 hi2 hv => ?_) fun g7 k7 t7 hx7 => ?_
  · obtain ⟨x, hxi, hk⟩ := key g6 f2 _ _ _ _ _ _ _ _ _ _ cv2 ctv2 pm2 hfo6 hcd6 cF6 cS6 i v hv
    exact hk.probeR (decide_eq_false (hC i x hi1 hi2 hxi)).symm
  · obtain ⟨x, hxi, hk⟩ := key g6 f2 _ _ _ _ _ _ _ _ _ _ cv2 ctv2 pm2 hfo6 hcd6 cF6 cS6 i v hv
    exact hk.probeR (decide_eq_true (hD i x hi1 hi2 hxi)).symm
  dsimp only at hx7 ⊢
  have hn7 := hn6.keeps hx7
  refine wSt hn7 fun g8 hn8 hs8 => ?_
  dsimp only at hn8 hs8 ⊢
  have hs8 : Heap.SameBut s.heap.objs.size g7 g8 := hs8
  have X8 : Heap.ExtBut 163 s.heap g8 := fun b o hb e => hs8.extBut b o (Nat.ne_of_lt (Heap.lt_size e)) (hx7 _ _ (X6 b o hb e))
  have T8 : Tab g8 163 qS := by
    obtain ⟨ps, e1, e2, e3⟩ := T6.ext hx7
    refine ⟨ps, hs8.extBut _ _ nL.symm e1, e2, fun pos cv hc => ?_⟩
    have r := e3 pos cv hc
    obtain ⟨c, o, vs, t, q1, q2, q3, q4⟩ := id r
    refine codeRec_but r hs8.extBut fun c' e => ?_
    rw [q1] at e; cases e
    rintro rfl
    obtain ⟨o', es, ep, ho', hd', _⟩ := hn7
    rw [show g7.get? s.heap.objs.size = some o' from ho'] at q2; cases q2
    rw [hd'] at q3; cases q3
  refine wpAny_execs_cons (wpAny_Return_some (wTuple ?_))
  refine aN (wN hn8 rfl (aN (wN hn8 rfl (aNil ⟨by show 2 ≤ _; decide, fun g9 hx9 ht9 _ => ?_⟩))))
  exact hQ g9 _ _ _ _ (ebThen X8 (ebOf hx9)) (T8.ext hx9) ht9
end Mine

namespace Mine
open PySem PySem.W PySem.Calls PyProof.Rows PySem.Builtin PySem.Builtin.Str

/-! ## quotation marks doubled -/
noncomputable def dbl : List Nat → List Nat
  | [] => []
  | c :: r => if c = 34 then 34 :: 34 :: dbl r else c :: dbl r
theorem rep3 (a b c : Nat) : Txt.replace (mkS [a, b, c]) (mkS [34]) (mkS [34, 34]) = mkS (dbl [a, b, c]) := by
  have s0 : subAt (mkS [a, b, c]) (mkS [34]) 0 = (a == 34) := by simp [subAt, mkS, Str.length]
  have s1 : subAt (mkS [a, b, c]) (mkS [34]) 1 = (b == 34) := by simp [subAt, mkS, Str.length]
  have s2 : subAt (mkS [a, b, c]) (mkS [34]) 2 = (c == 34) := by simp [subAt, mkS, Str.length]
  have l3 : (mkS [a, b, c]).length = 3 := rfl
  have l1 : (mkS [34]).length = 1 := rfl
  have l2 : (mkS [34, 34]).length = 2 := rfl
  unfold Txt.replace
  rw [l3, l1, l2]
  have occ : occurrences (mkS [a, b, c]) (mkS [34]) 0 3 (3 + 1) = (if a = 34 then [0] else []) ++ (if b = 34 then [1] else []) ++ (if c = 34 then [2] else []) := by
    unfold occurrences
    simp only [Std.Legacy.Range.forIn_eq_forIn_range', Std.Legacy.Range.size, l1]
    simp only [show List.range' 0 ((3 + 1 - 0 + 1 - 1) / 1) 1 = [0, 1, 2, 3] from rfl, List.forIn_cons, List.forIn_nil, s0, s1, s2]
    by_cases ha : a = 34 <;> by_cases hb : b = 34 <;> by_cases hc : c = 34 <;> (simp [ha, hb, hc, Id.run] <;> rfl)
  rw [occ]
  clear occ s0 s1 s2 l3 l1 l2
  by_cases ha : a = 34 <;> by_cases hb : b = 34 <;> by_cases hc : c = 34 <;> (try subst ha) <;> (try subst hb) <;> (try subst hc) <;> (simp only [dbl, *, if_true, if_false] ; rfl)
end Mine

namespace Mine
open PySem PySem.W PySem.Calls PyProof.Rows

/-! ## the names -/
noncomputable def allSigns : List Nat := [64256, 34, 64257, 64259, 73] ++ (List.range 7).map (fun g => 120120 + 52 * g + 5) ++ (List.range 7).map (fun g => 120120 + 52 * g + 8) ++ unL
theorem prep1 : ((List.range 7).all fun g => (List.range 27).all fun u => (List.range 8).all fun d => (sgL g u).getD d [] |>.all fun c => allSigns.contains c) = true := by kernel_rfl
/-- what the signs fold to -/
noncomputable def b3V : List (List Nat) := [[102, 102], [34], [102, 105], [102, 102, 105], [105]] ++ List.replicate 7 [102] ++ List.replicate 7 [105] ++ unL.map fun c => [c]
theorem b3V_okA : ((allSigns.take 20).map fun c => Lx (b3F c)) = b3V.take 20 := by kernel_rfl
theorem b3V_okB : (((allSigns.drop 20).take 13).map fun c => Lx (b3F c)) = (b3V.drop 20).take 13 := by kernel_rfl
theorem b3V_okC : (((allSigns.drop 20).drop 13).map fun c => Lx (b3F c)) = (b3V.drop 20).drop 13 := by kernel_rfl
theorem b3V_okF : (allSigns.map fun c => Lx (b3F c)) = b3V := by
  rw [← List.take_append_drop 20 allSigns, List.map_append, b3V_okA, ← List.take_append_drop 13 (allSigns.drop 20), List.map_append, b3V_okB, b3V_okC, List.take_append_drop, List.take_append_drop]
theorem b3V_ok : (allSigns.map fun c => Lx (b3R c)) = b3V := by
  rw [← b3V_okF]
  exact List.map_congr_left fun c _ => by rw [b3R_eq]
noncomputable def b3S (c : Nat) : List Nat := ((allSigns.zip b3V).lookup c).getD []
theorem zip_lookup {β : Type} (f : Nat → β) : ∀ (l : List Nat) (c : Nat), c ∈ l → (l.zip (l.map f)).lookup c = some (f c)
  | [], c, h => by cases h
  | a :: r, c, h => by
    rw [List.map_cons, List.zip_cons_cons, List.lookup_cons]
    cases e : c == a with
    | true => rw [beq_iff_eq.mp e]
    | false =>
      refine zip_lookup f r c ((List.mem_cons.mp h).resolve_left fun q => ?_)
      rw [beq_iff_eq.mpr q] at e; cases e
theorem b3S_ok {c : Nat} (h : c ∈ allSigns) : Lx (b3R c) = b3S c := by
  unfold b3S
  rw [← b3V_ok, zip_lookup _ _ _ h]; rfl
noncomputable def prepS (l : List Nat) : List Nat := ((l.filter fun c : Nat => !b1L.contains (c : Int)).map b3S).flatten
theorem prepS_ok {l : List Nat} (h : ∀ c ∈ l, c ∈ allSigns) : prep l = prepS l := by
  unfold prep prepS
  congr 1
  exact List.map_congr_left fun c hc => b3S_ok (h c (List.mem_filter.mp hc).1)
theorem fine1 : (allSigns.all fun c => decide ((b3S c).length ≤ 4)) = true := by kernel_rfl
theorem prepG : ((List.range 7).all fun g => prepS [120120 + 52 * g + 5] == [102] && prepS [120120 + 52 * g + 8] == [105]) = true := by kernel_rfl
theorem prepU : ((List.range 27).all fun u => prepS [unL.getD u 0] == []) = true := by kernel_rfl
theorem prepO : (prepS [64256] == [102, 102] && prepS [34] == [34] && prepS [64257] == [102, 105] && prepS [64259] == [102, 102, 105] && prepS [73] == [105]) = true := by kernel_rfl
theorem prep_app (a b : List Nat) : prep (a ++ b) = prep a ++ prep b := by
  unfold prep
  rw [List.filter_append, List.map_append, List.flatten_append]
theorem prep_flat : ∀ ls : List (List Nat), prep ls.flatten = (ls.map prep).flatten
  | [] => rfl
  | a :: r => by rw [List.flatten_cons, prep_app, prep_flat r, List.map_cons, List.flatten_cons]
theorem prep_sg {g u d : Nat} (hg : g < 7) (hu : u < 27) (hd : d < 8) : prep ((sgL g u).getD d []) = pcL.getD d [] := by
  have h1 := List.all_eq_true.mp prepG g (List.mem_range.mpr hg)
  have h2 := List.all_eq_true.mp prepU u (List.mem_range.mpr hu)
  have h3 := prepO
  have hm : ∀ c ∈ (sgL g u).getD d [], c ∈ allSigns := fun c hc => by
    have a1 := List.all_eq_true.mp prep1 g (List.mem_range.mpr hg)
    have a2 := List.all_eq_true.mp a1 u (List.mem_range.mpr hu)
    have a3 := List.all_eq_true.mp a2 d (List.mem_range.mpr hd)
    have a4 := List.all_eq_true.mp a3 c hc
    simpa using a4
  rw [prepS_ok hm]
  clear hm
  simp only [Bool.and_eq_true, beq_iff_eq] at h1 h2 h3
  obtain ⟨⟨⟨⟨h3, h4⟩, h5⟩, h6⟩, h7⟩ := h3
  rcases (by omega : d = 0 ∨ d = 1 ∨ d = 2 ∨ d = 3 ∨ d = 4 ∨ d = 5 ∨ d = 6 ∨ d = 7) with h | h | h | h | h | h | h | h <;> subst h
  · exact h1.1
  · exact h3
  · exact h4
  · exact h5
  · exact h1.2
  · exact h6
  · exact h7
  · exact h2
noncomputable def sig (c : Int) : List (List Nat) := (figs c).map fun i => (sgL (gOf c) (uOf c)).getD i []
noncomputable def pcs (c : Int) : List (List Nat) := (figs c).map fun i => pcL.getD i []
noncomputable def typed (c : Int) : List Nat := (sig c).flatten
noncomputable def meant (c : Int) : List Nat := (pcs c).flatten
theorem gOf_lt (c : Int) : gOf c < 7 := by
  have h1 := Int.emod_lt_of_pos (c / 512) (show (0 : Int) < 7 by decide)
  unfold gOf; omega
theorem uOf_lt (c : Int) : uOf c < 27 := by
  have h1 := Int.emod_lt_of_pos (c / 512) (show (0 : Int) < 27 by decide)
  unfold uOf; omega
theorem sg_one {g u d : Nat} (hd : d < 8) : ∃ x, (sgL g u).getD d [] = [x] := by
  rcases (by omega : d = 0 ∨ d = 1 ∨ d = 2 ∨ d = 3 ∨ d = 4 ∨ d = 5 ∨ d = 6 ∨ d = 7) with h | h | h | h | h | h | h | h <;> subst h <;> exact ⟨_, rfl⟩
theorem prep_typed (c : Int) : prep (typed c) = meant c := by
  unfold typed meant sig pcs
  rw [prep_flat, List.map_map]
  congr 1
  apply List.map_congr_left
  intro i hi
  exact prep_sg (gOf_lt c) (uOf_lt c) (figs_lt c i hi)
theorem typed3 (c : Int) : ∃ x y z, sig c = [[x], [y], [z]] ∧ typed c = [x, y, z] := by
  have h := figs_lt c
  obtain ⟨x, hx⟩ := sg_one (g := gOf c) (u := uOf c) (h _ (List.mem_cons_self ..))
  obtain ⟨y, hy⟩ := sg_one (g := gOf c) (u := uOf c) (h _ (List.mem_cons_of_mem _ (List.mem_cons_self ..)))
  obtain ⟨z, hz⟩ := sg_one (g := gOf c) (u := uOf c) (h _ (List.mem_cons_of_mem _ (List.mem_cons_of_mem _ (List.mem_cons_self ..))))
  have e : sig c = [[x], [y], [z]] := by
    unfold sig figs
    simp only [List.map_cons, List.map_nil]
    rw [hx, hy, hz]
  exact ⟨x, y, z, e, by unfold typed; rw [e]; rfl⟩
theorem typed_all (c : Int) : ∀ x ∈ typed c, x ∈ allSigns := by
  intro x hx
  unfold typed sig at hx
  obtain ⟨l, hl, hxl⟩ := List.mem_flatten.mp hx
  obtain ⟨i, hi, rfl⟩ := List.mem_map.mp hl
  have h1 := List.all_eq_true.mp prep1 (gOf c) (List.mem_range.mpr (gOf_lt c))
  have h2 := List.all_eq_true.mp h1 (uOf c) (List.mem_range.mpr (uOf_lt c))
  have h3 := List.all_eq_true.mp h2 i (List.mem_range.mpr (figs_lt c i hi))
  have h4 := List.all_eq_true.mp h3 x hxl
  simpa using h4
theorem fine_signs {l : List Nat} (hl : l.length ≤ 200) (h : ∀ x ∈ l, x ∈ allSigns) : Fine l := ⟨hl, fun c hc => by rw [b3S_ok (h c hc)]; exact of_decide_eq_true (List.all_eq_true.mp fine1 c (h c hc))⟩
theorem fine_typed (c : Int) : Fine (typed c) := fine_signs (by obtain ⟨x, y, z, _, e⟩ := typed3 c; rw [e]; show 3 ≤ 200; decide) (typed_all c)
/-- what is told comes out as it was typed -/
theorem parse_dbl : ∀ (l : List Nat) (r : List Nat), parse (dbl l ++ r) = l ++ parse r
  | [], r => rfl
  | c :: l, r => by
    unfold dbl
    by_cases h : c = 34
    · subst h; rw [if_pos rfl]
      show parse (34 :: 34 :: (dbl l ++ r)) = _
      rw [parse_q, parse_dbl l r]; rfl
    · rw [if_neg h]
      show parse (c :: (dbl l ++ r)) = _
      rw [parse_step h, parse_dbl l r]; rfl
theorem dbl_len (l : List Nat) : (dbl l).length ≤ 2 * l.length := by
  induction l with
  | nil => exact Nat.le_refl _
  | cons c r ih => unfold dbl; split <;> simp only [List.length_cons] <;> omega
theorem mem_dbl {x : Nat} : ∀ {l : List Nat}, x ∈ dbl l → x ∈ l
  | [], h => by cases h
  | c :: r, h => by
    unfold dbl at h
    split at h
    · rename_i hc; subst hc
      rcases List.mem_cons.mp h with h | h
      · simp [h]
      · rcases List.mem_cons.mp h with h | h
        · simp [h]
        · exact List.mem_cons_of_mem _ (mem_dbl h)
    · rcases List.mem_cons.mp h with h | h
      · simp [h]
      · exact List.mem_cons_of_mem _ (mem_dbl h)
end Mine

namespace Mine
open PySem PySem.W PySem.Calls PyProof.Rows

/-! ## the law's own frame -/
theorem Tab.but {h h' : Heap} {P a : Addr} {q : Str} (x : Tab h P q) (e : Heap.ExtBut a h h') (ha : P ≠ a) (hf : ∀ o vs, h.get? a = some o → o.data ≠ .fields vs) : Tab h' P q := by
  obtain ⟨ps, e1, e2, e3⟩ := x
  refine ⟨ps, e _ _ ha e1, e2, fun pos cv hc => ?_⟩
  have r := e3 pos cv hc
  obtain ⟨c, o, vs, t, q1, q2, q3, q4⟩ := id r
  refine codeRec_but r e fun c' e' => ?_
  rw [q1] at e'; cases e'
  rintro rfl
  exact hf o vs q2 q3
theorem Tab.butTab {h h' : Heap} {P a : Addr} {q q' : Str} (x : Tab h P q) (y : Tab h a q') (e : Heap.ExtBut a h h') (ha : P ≠ a) : Tab h' P q := by
  obtain ⟨ps, e1, e2, e3⟩ := x
  obtain ⟨pa, f1, f2, f3⟩ := y
  refine ⟨ps, e _ _ ha e1, e2, fun pos cv hc => ?_⟩
  have r := e3 pos cv hc
  exact codeRec_but r e fun c' e' => by subst e'; exact codeRec_ne r f1 f2
/-- the law's frame at L: names m, cells cm; g is the heap at its call -/
structure LS (w : World) (g : Heap) (L : Addr) (m cm : Str → Option Value) (h : Heap) : Prop where
  fresh : g.objs.size ≤ L
  ns : h.Ns L m
  script : h.IsCell (L + 1) (cm "script")
  word : h.IsCell (L + 2) (cm "word")
  line : h.IsCell (L + 3) (cm "line")
  body : h.IsCell (L + 4) (cm "body")
  S : Stat w h
  B : Bm h
  T : Tab h 163 qS
  T' : Tab h 177 qL
  keep : ∀ b o, b ≠ 163 → b ≠ 177 → g.get? b = some o → h.get? b = some o
  lt : 180 < g.objs.size
theorem K_big (P : Params) {a : Addr} (h : 180 < a) : (Mine.K P).lookup a = none := by
  cases e : (Mine.K P).lookup a with
  | none => rfl
  | some o =>
    have hall : ((Mine.K P).all fun p => decide (p.1 ≤ 180)) = true := by kernel_rfl
    have hm : (a, o) ∈ Mine.K P := by
      clear hall
      revert e
      generalize Mine.K P = k
      intro e
      induction k with
      | nil => cases e
      | cons p r ih =>
        obtain ⟨b, o'⟩ := p
        rw [List.lookup_cons] at e
        cases hb : a == b with
        | true => rw [hb] at e; cases e; rw [beq_iff_eq.mp hb]; exact List.mem_cons_self ..
        | false => rw [hb] at e; exact List.mem_cons_of_mem _ (ih e)
    have := of_decide_eq_true (List.all_eq_true.mp hall _ hm)
    exact absurd h (Nat.not_lt.mpr this)
namespace LS
variable {w : World} {g h h' : Heap} {L : Addr} {m cm : Str → Option Value}
theorem ext (x : LS w g L m cm h) (e : Ext h h') : LS w g L m cm h' :=
  ⟨x.fresh, x.ns.keeps e, x.script.keeps e, x.word.keeps e, x.line.keeps e, x.body.keeps e, x.S.ext e, x.B.ext e, x.T.ext e, x.T'.ext e, fun b o h1 h2 e' => e _ _ (x.keep b o h1 h2 e'), x.lt⟩
theorem stL (x : LS w g L m cm h) {m' : Str → Option Value} (hn : h'.Ns L m') (hs : Heap.SameBut L h h') : LS w g L m' cm h' := by
  have l1 := x.lt
  have l2 := x.fresh
  have c : ∀ {a : Addr} {v : Option Value}, h.IsCell a v → a ≠ L → h'.IsCell a v := fun y ha => y.sameBut hs ha
  have nf : ∀ o vs, h.get? L = some o → o.data ≠ .fields vs := by
    intro o vs e
    obtain ⟨o', es, ep, ho, hd, _⟩ := x.ns
    rw [ho] at e; cases e; rw [hd]; exact fun q => nomatch q
  have k0 : (Mine.K w.params).lookup L = none := K_big _ (Nat.lt_of_lt_of_le l1 l2)
  have n1 : L + 1 ≠ L := Nat.succ_ne_self _
  have n2 : L + 2 ≠ L := Nat.ne_of_gt (Nat.lt_add_of_pos_right (by decide))
  have n3 : L + 3 ≠ L := Nat.ne_of_gt (Nat.lt_add_of_pos_right (by decide))
  have n4 : L + 4 ≠ L := Nat.ne_of_gt (Nat.lt_add_of_pos_right (by decide))
  exact ⟨x.fresh, hn, c x.script n1, c x.word n2, c x.line n3, c x.body n4, x.S.but hs.extBut k0 (by show (0 : Nat) ≠ L; omega) (by show (2 : Nat) ≠ L; omega), x.B.but hs.extBut (by show (4 : Nat) ≠ L; omega), x.T.but hs.extBut (by show (163 : Nat) ≠ L; omega) nf, x.T'.but hs.extBut (by show (177 : Nat) ≠ L; omega) nf,
    fun b o h1 h2 e' => hs.extBut b o (Nat.ne_of_lt (Nat.lt_of_lt_of_le (Heap.lt_size e') x.fresh)) (x.keep b o h1 h2 e'), x.lt⟩
/-- a fresh list turned -/
theorem butList (x : LS w g L m cm h) {a : Addr} {items : Array Value} (hl : h.IsList a items) (ha : g.objs.size ≤ a) (hs : Heap.ExtBut a h h') : LS w g L m cm h' := by
  have l1 := x.lt
  have nf : ∀ o vs, h.get? a = some o → o.data ≠ .fields vs := by
    intro o vs e
    obtain ⟨o', ho, _, n, hd⟩ := hl
    rw [ho] at e; cases e; rw [hd]; exact fun q => nomatch q
  have k0 : (Mine.K w.params).lookup a = none := K_big _ (Nat.lt_of_lt_of_le l1 ha)
  have c : ∀ {b : Addr} {v : Option Value}, h.IsCell b v → h'.IsCell b v := fun y => let ⟨o, ho, hd⟩ := y; ⟨o, hs _ _ (ne_cell hl y).symm ho, hd⟩
  exact ⟨x.fresh, x.ns.extBut hs (ne_ns hl x.ns).symm, c x.script, c x.word, c x.line, c x.body, x.S.but hs k0 (by show (0 : Nat) ≠ a; omega) (by show (2 : Nat) ≠ a; omega), x.B.but hs (by show (4 : Nat) ≠ a; omega), x.T.but hs (by show (163 : Nat) ≠ a; omega) nf, x.T'.but hs (by show (177 : Nat) ≠ a; omega) nf,
    fun b o h1 h2 e' => hs b o (Nat.ne_of_lt (Nat.lt_of_lt_of_le (Heap.lt_size e') ha)) (x.keep b o h1 h2 e'), x.lt⟩
/-- _law_stretch's table turned -/
theorem but163 (x : LS w g L m cm h) (hs : Heap.ExtBut 163 h h') (T : Tab h' 163 qS) : LS w g L m cm h' := by
  have l1 := x.lt
  have l2 := x.fresh
  have c : ∀ {b : Addr} {v : Option Value}, h.IsCell b v → b ≠ 163 → h'.IsCell b v := fun y hb => let ⟨o, ho, hd⟩ := y; ⟨o, hs _ _ hb ho, hd⟩
  have n0 : @Ne Nat L 163 := by omega
  have n1 : @Ne Nat (L + 1) 163 := by omega
  have n2 : @Ne Nat (L + 2) 163 := by omega
  have n3 : @Ne Nat (L + 3) 163 := by omega
  have n4 : @Ne Nat (L + 4) 163 := by omega
  exact ⟨x.fresh, x.ns.extBut hs n0, c x.script n1, c x.word n2, c x.line n3, c x.body n4, x.S.b163 hs, x.B.but hs (by decide), T, x.T'.butTab x.T hs (by decide), fun b o h1 h2 e' => hs b o h1 (x.keep b o h1 h2 e'), x.lt⟩
/-- the law's own table turned -/
theorem but177 (x : LS w g L m cm h) (hs : Heap.ExtBut 177 h h') (T : Tab h' 177 qL) : LS w g L m cm h' := by
  have l1 := x.lt
  have l2 := x.fresh
  have c : ∀ {b : Addr} {v : Option Value}, h.IsCell b v → b ≠ 177 → h'.IsCell b v := fun y hb => let ⟨o, ho, hd⟩ := y; ⟨o, hs _ _ hb ho, hd⟩
  have n0 : @Ne Nat L 177 := by omega
  have n1 : @Ne Nat (L + 1) 177 := by omega
  have n2 : @Ne Nat (L + 2) 177 := by omega
  have n3 : @Ne Nat (L + 3) 177 := by omega
  have n4 : @Ne Nat (L + 4) 177 := by omega
  exact ⟨x.fresh, x.ns.extBut hs n0, c x.script n1, c x.word n2, c x.line n3, c x.body n4, x.S.but hs (by kernel_rfl) (by decide) (by decide), x.B.but hs (by decide), x.T.butTab x.T' hs (by decide), T, fun b o h1 h2 e' => hs b o h2 (x.keep b o h1 h2 e'), x.lt⟩
/-- a cell set -/
theorem stC (x : LS w g L m cm h) {n : Str} {c : Addr} {v : Value} (hn : (n = "script" ∧ c = L + 1) ∨ (n = "word" ∧ c = L + 2) ∨ (n = "line" ∧ c = L + 3) ∨ (n = "body" ∧ c = L + 4)) (hcell : h'.IsCell c (some v)) (hs : Heap.SameBut c h h') :
    LS w g L m (fun y => if y = n then some v else cm y) h' := by
  have l1 := x.lt
  have l2 := x.fresh
  have hc : L < c := by rcases hn with ⟨_, rfl⟩ | ⟨_, rfl⟩ | ⟨_, rfl⟩ | ⟨_, rfl⟩ <;> exact Nat.lt_add_of_pos_right (by decide)
  have l3 : @LT.lt Nat _ 180 c := Nat.lt_trans (Nat.lt_of_lt_of_le l1 l2) hc
  have z0 : @Ne Nat 0 c := by omega
  have z2 : @Ne Nat 2 c := by omega
  have z4 : @Ne Nat 4 c := by omega
  have z163 : @Ne Nat 163 c := by omega
  have z177 : @Ne Nat 177 c := by omega
  have nf : ∀ o vs, h.get? c = some o → o.data ≠ .fields vs := by
    have : ∃ v, h.IsCell c v := by
      rcases hn with ⟨_, rfl⟩ | ⟨_, rfl⟩ | ⟨_, rfl⟩ | ⟨_, rfl⟩
      · exact ⟨_, x.script⟩
      · exact ⟨_, x.word⟩
      · exact ⟨_, x.line⟩
      · exact ⟨_, x.body⟩
    obtain ⟨v, o', ho, hd⟩ := this
    intro o vs e
    rw [ho] at e; cases e; rw [hd]; exact fun q => nomatch q
  have k0 : (Mine.K w.params).lookup c = none := K_big _ (Nat.lt_trans (Nat.lt_of_lt_of_le l1 l2) hc)
  have cc : ∀ (n' : Str) (c' : Addr), h.IsCell c' (cm n') → (n' = n → c' = c) → (n' ≠ n → c' ≠ c) → h'.IsCell c' (if n' = n then some v else cm n') := by
    intro n' c' hy h1 h2
    by_cases e : n' = n
    · rw [if_pos e, h1 e]; exact hcell
    · rw [if_neg e]; exact hy.sameBut hs (h2 e)
  refine ⟨x.fresh, x.ns.sameBut hs (Nat.ne_of_lt hc), cc _ _ x.script ?_ ?_, cc _ _ x.word ?_ ?_, cc _ _ x.line ?_ ?_, cc _ _ x.body ?_ ?_, x.S.but hs.extBut k0 z0 z2, x.B.but hs.extBut z4, x.T.but hs.extBut z163 nf, x.T'.but hs.extBut z177 nf,
    fun b o h1 h2 e' => hs.extBut b o (Nat.ne_of_lt (Nat.lt_trans (Nat.lt_of_lt_of_le (Heap.lt_size e') x.fresh) hc)) (x.keep b o h1 h2 e'), x.lt⟩
  all_goals
    rcases hn with ⟨rfl, rfl⟩ | ⟨rfl, rfl⟩ | ⟨rfl, rfl⟩ | ⟨rfl, rfl⟩ <;> intro e <;> first
      | rfl
      | exact absurd e (by decide +kernel)
      | exact absurd rfl e
      | (show @Ne Nat (L + _) (L + _); exact fun q => by have := Nat.add_left_cancel q; omega)
end LS
end Mine

namespace Mine
open PySem PySem.W PySem.Calls PyProof.Rows

theorem cnt_iff {α : Type} {p : α → Bool} : ∀ {l : List α}, l.Pairwise (fun a b => p b = true → p a = true) → ∀ (i : Nat) (a : α), l[i]? = some a → (p a = true ↔ i < l.countP p)
  | [], _, i, a, e => by simp at e
  | x :: r, h, i, a, e => by
    obtain ⟨h1, h2⟩ := List.pairwise_cons.mp h
    rw [List.countP_cons]
    cases hx : p x with
    | true =>
      cases i with
      | zero => simp at e; subst e; simp [hx]
      | succ i =>
        have := cnt_iff h2 i a (by simpa using e)
        rw [this]; simp
    | false =>
      have h0 : ∀ b ∈ r, p b = false := fun b hb => by
        cases hb' : p b with
        | false => rfl
        | true => have := h1 b hb hb'; rw [hx] at this; cases this
      have hc : r.countP p = 0 := by
        rw [List.countP_eq_zero]; intro b hb; rw [h0 b hb]; exact Bool.false_ne_true
      rw [hc]
      cases i with
      | zero => simp at e; subst e; simp [hx]
      | succ i =>
        have hm : a ∈ r := List.mem_of_getElem? (by simpa using e)
        rw [h0 a hm]; simp
section
variable {w : World} {A : Around} {env : Env} {s : Shared}
theorem wUnpack2 {a b : Str} {pa pb p pos : Pos} {kk : Nat} {value : Expr} {Q : Flow → Shared → Prop} (hh : A.handled = none)
    (h : Wp w A (eval value env) (fun v s1 => ∃ t va vb m, v = .ref t ∧ IsTup s1.heap t #[va, vb] ∧ s1.heap.Ns env.locals m ∧
      ∀ h1 h2 h3 k, Ext s1.heap h1 → Heap.SameBut env.locals h1 h2 → h2.Ns env.locals (fun y => if y = a then some va else m y) → Heap.SameBut env.locals h2 h3 →
        h3.Ns env.locals (fun y => if y = b then some vb else if y = a then some va else m y) → Q .next { s1 with heap := h3, toks := k }) s)
    (ha : env.kindOf a = some .local := by kernel_rfl) (hb : env.kindOf b = some .local := by kernel_rfl)
    (hs : swapsWithSole [.Tuple [.Name a pa, .Name b pb] kk p] value pos.line env = pure false := by with_unfolding_all rfl) (hw : swappedStores [.Tuple [.Name a pa, .Name b pb] kk p] value env = pure none := by with_unfolding_all rfl)
    (hp : (env.scope.kind == .class || (env.scope.kind == .module && env.locals != env.globals)) = false := by kernel_rfl) :
    Wp w A (exec (.Assign [.Tuple [.Name a pa, .Name b pb] kk p] value pos) env) Q s := by
  refine wpAny_Assign_stores (wpAny_mono h (fun v s1 h1 => ?_) fun _ _ x => x) hs hw
  obtain ⟨t, va, vb, m, rfl, ht, hn, hq⟩ := h1
  show Wp w A (assign (.Tuple [.Name a pa, .Name b pb] kk p) env (.ref t)) (fun _ => Q .next) s1
  refine wpAny_assign_Tuple hh ht rfl rfl (fun g1 hx1 => ?_)
  have e1 : Ext s1.heap g1 := fun b o e => hx1 b o (Nat.ne_of_lt (Heap.lt_size e)) e
  refine wpAny_assignInOrder_more (wpAny_assign_Name ?_)
  refine wSt (hn.keeps e1) (fun g2 hn2 hs2 => ?_) ha hp
  refine wpAny_assignInOrder_more (wpAny_assign_Name ?_)
  refine wSt hn2 (fun g3 hn3 hs3 => ?_) hb hp
  exact wpAny_assignInOrder_none (hq g1 g2 g3 _ e1 hs2 hn2 hs3 hn3)
end
end Mine

namespace Mine
open PySem PySem.W PySem.Calls PyProof.Rows

section
variable {w : World} {A : Around} {env : Env} {s : Shared}
theorem wPairAt {x : Str} {p q r : Pos} {i : Nat} {k : Nat} {a : Addr} {items : Array Value} {v : Value} {m : Str → Option Value} {Q : Value → Shared → Prop} (hn : s.heap.Ns env.locals m) (hm : m x = some (.ref a)) (ht : IsTup s.heap a items) (hi : i < 2) (hv : items[i]? = some v)
    (h : ∀ k, Q v { s with toks := k }) (hk : env.scope.kind = .function := by kernel_rfl) (hl : env.kindOf x = some .local := by kernel_rfl) (hd : (x == ("__debug__" : Str)) = false := by decide +kernel) :
    Wp w A (eval (.Subscript (.Name x p) (.Constant (.int (i : Int)) k q) r) env) Q s := by
  refine Subscript_ (wN hn hm (wpAny_Constant_int ?_) hk hl hd)
  refine tail_any (T := "tuple") (id := "tuple.__getitem__") ?_ PyProof.Rows.slot_tuple_getitem.lookup ?_ rfl
  · obtain ⟨o, ho, hc, _⟩ := ht
    exact ⟨o, ho, hc⟩
  · have hsz : i < items.size := by
      rcases Nat.lt_or_ge i items.size with q | q
      · exact q
      · rw [Array.getElem?_eq_none q] at hv; cases hv
    have hseq : seqIndex? (i : Int) items.size = some i := by
      unfold seqIndex?
      have h1 : (i : Int) < items.size := by omega
      have h2 : ¬ ((i : Int) < 0) := by omega
      simp [h1, h2]
    have b1 : -(2 ^ 63) ≤ (i : Int) := by omega
    have b2 : (i : Int) < 2 ^ 63 := by omega
    exact PyProof.Rows.getItem_tuple ht b1 b2 hseq hv (h _)
theorem isnot_bools {a b : Bool} {Q : Value → Shared → Prop} (h : Q (.bool (a != b)) s) : Wp w A (compareOp .IsNot (.bool a) (.bool b)) Q s := by
  have e : (!(Value.bool a == Value.bool b)) = (a != b) := by cases a <;> cases b <;> rfl
  show Wp w A (do return Value.bool (!(← isSame (.bool a) (.bool b)))) Q s
  unfold isSame
  cases a <;> cases b <;> exact wpAny_bind (wpAny_pure (wpAny_pure h))
end
noncomputable abbrev Ev (w : World) (L : Addr) : Env := callEnvC (fdX 180 w) L 180
noncomputable abbrev TupIs (h : Heap) (v : Value) (q : List Nat × List Nat) : Prop := ∃ a t u, v = .ref a ∧ IsTup h a #[.str (mkS q.1) t, .str (mkS q.2) u]
noncomputable def insAt (l : List (List Nat)) (r : Nat) (x : List Nat) : List (List Nat) := l.take r ++ [x] ++ l.drop r
noncomputable def cntLt (xs : List (List Nat)) (m : List Nat) : Nat := xs.countP fun x => decide (prep x < m)
noncomputable def lay (st : List (List Nat) × List (List Nat × List Nat)) (c : Int) : List (List Nat) × List (List Nat × List Nat) :=
  if (st.2.map (·.1)).contains (meant c) then st else (insAt st.1 (cntLt st.1 (meant c)) (typed c), st.2 ++ [(meant c, typed c)])
noncomputable def loopBody : List Stmt := match ((fdef 20).2.1 : List Stmt)[3]? with
  | some (Stmt.For _ _ b _ _) => b
  | _ => []
end Mine

namespace Mine
open PySem PySem.W PySem.Calls PyProof.Rows

theorem IsList.upL {h h' : Heap} {a L : Addr} {items : Array Value} {m : Str → Option Value} (x : h.IsList a items) (hn : h.Ns L m) (hs : Heap.SameBut L h h') : h'.IsList a items := x.extBut hs.extBut (ne_ns x hn)
theorem PlainList.upL {h h' : Heap} {a L : Addr} {items : Array Value} {m : Str → Option Value} (x : h.PlainList a items) (hn : h.Ns L m) (hs : Heap.SameBut L h h') : h'.PlainList a items := x.extBut hs.extBut (ne_ns x.isList hn)
/-- the six statements of a turn that read a name out of its reply: what stands after them -/
theorem names_part (w : World) (A : Around) (g : Heap) (L : Addr) (s : Shared) (h : Heap) (k0 : Nat) (m cm : Str → Option Value) (c : Int) (t : Tok) (Q : Flow → Shared → Prop) (R : Rm A 5) (F : LS w g L m cm h)
    (m1 : m "cell" = some (.int c t))
    (hK : ∀ h' k m', LS w g L m' cm h' → (∀ b o, b ≠ L → h.get? b = some o → h'.get? b = some o) → (∀ x, x ≠ (Str.ofString "signs") → x ≠ (Str.ofString "pieces") → x ≠ (Str.ofString "typed") → x ≠ (Str.ofString "meant") → x ≠ (Str.ofString "name") → m' x = m x) →
      (∃ t, m' "typed" = some (.str (mkS (typed c)) t)) → (∃ t, m' "meant" = some (.str (mkS (meant c)) t)) → (∃ t, m' "name" = some (.str (mkS (typed c)) t)) →
      Wp w A (execs (loopBody.drop 5) (Ev w L)) Q { s with heap := h', toks := k }) :
    Wp w A (execs loopBody (Ev w L)) Q { s with heap := h, toks := k0 } := by
  obtain ⟨x, y, z, esig, ety⟩ := typed3 c
  refine wpAny_execs_cons (wUnpack2 R.1 ?_)
  refine wCall1 F.S (f := 149) (o := o149 w.params) (by kernel_rfl) (by kernel_rfl) rfl (wN F.ns m1 ⟨F.S, ?_⟩)
  refine name_ok w c t _ _ _ (R.le (by omega)) F.S fun g1 k1 T D P ss ps hx1 hT hD hP hps hpp => ?_
  have F1 := F.ext hx1
  refine ⟨T, _, _, m, rfl, hT, F1.ns, fun g2 g3 g4 k4 e2 s3 n3 s4 n4 => ?_⟩
  have F2 := F1.ext e2
  have F3 := F2.stL n3 s3
  have F4 := F3.stL n4 s4
  have hD4 := IsList.upL (IsList.upL (hD.at fun o e => e2 _ o e) F2.ns s3) F3.ns s4
  have hP4 := IsList.upL (IsList.upL (hP.at fun o e => e2 _ o e) F2.ns s3) F3.ns s4
  have K4 : ∀ b o, b ≠ L → h.get? b = some o → g4.get? b = some o := fun b o hb e => s4.extBut b o hb (s3.extBut b o hb (e2 _ _ (hx1 _ _ e)))
  clear hD hP hT n3 s3 n4 s4 F1 F2 F3 hx1 e2
  dsimp only at F4 ⊢
  refine wpAny_execs_cons (wpAny_Assign_Name (MethodCall_ (wpAny_Constant_str (GM.join (callWith_method1 (aN (wN F4.ns rfl (aNil ?_))))))))
  have esig' : ((figs c).map fun i => (sgL (gOf c) (uOf c)).getD i []) = sig c := rfl
  rw [esig'] at hps
  refine callJoin hD4 hps (by rw [esig]; show 3 ≤ 1000; decide) (by rw [esig]; intro l hl; simp at hl; rcases hl with rfl | rfl | rfl <;> (show 1 ≤ 100; decide)) fun t5 k5 => ?_
  refine wSt F4.ns fun g5 n5 s5 => ?_
  have F5 := F4.stL n5 s5
  have hP5 := IsList.upL hP4 F4.ns s5
  have K5 : ∀ b o, b ≠ L → h.get? b = some o → g5.get? b = some o := fun b o hb e => s5.extBut b o hb (K4 b o hb e)
  clear n5 s5 F4 hD4 hP4 K4
  dsimp only at F5 ⊢
  refine wpAny_execs_cons (wpAny_Assign_Name (MethodCall_ (wpAny_Constant_str (GM.join (callWith_method1 (aN (wN F5.ns rfl (aNil ?_))))))))
  have epcs' : ((figs c).map fun i => pcL.getD i []) = pcs c := rfl
  rw [epcs'] at hpp
  have hpl : ∀ l ∈ pcs c, l.length ≤ 100 := by
    intro l hl
    obtain ⟨i, hi, rfl⟩ := List.mem_map.mp hl
    have hi8 := figs_lt c i hi
    have : ∀ j : Fin 8, (pcL.getD j.val []).length ≤ 100 := by decide
    exact this ⟨i, hi8⟩
  refine callJoin hP5 hpp (by show 3 ≤ 1000; decide) hpl fun t6 k6 => ?_
  refine wSt F5.ns fun g6 n6 s6 => ?_
  have F6 := F5.stL n6 s6
  have K6 : ∀ b o, b ≠ L → h.get? b = some o → g6.get? b = some o := fun b o hb e => s6.extBut b o hb (K5 b o hb e)
  clear n6 s6 F5 hP5 K5
  dsimp only at F6 ⊢
  rw [show (sig c).flatten = typed c from rfl] at F6
  rw [show (pcs c).flatten = meant c from rfl] at F6
  have hdl := dbl_len (typed c)
  have hty : (typed c).length = 3 := by rw [ety]; rfl
  refine wpAny_execs_cons (wpAny_Assign_Name ?_)
  refine wCall1 F6.S (f := 73) (o := o73 w.params) (by kernel_rfl) (by kernel_rfl) rfl ?_
  refine wpAny_BinOp (wpAny_BinOp (wpAny_Constant_str ?_))
  refine MethodCall_ (wN F6.ns rfl (GM.replace (callWith_method1 (aC (wpAny_Constant_str (aC (wpAny_Constant_str (aNil ?_))))))))
  dsimp only
  refine SC.replaceW (Nat.succ_ne_zero _) (Nat.succ_ne_zero _) (Nat.ne_of_lt (Nat.lt_succ_self _)) rfl (by rw [mkS_len, hty]; decide) (by decide) fun t7 k7 => ?_
  rw [show (Str.ofString "\"") = mkS [34] from rfl, show (Str.ofString "\"\"") = mkS [34, 34] from rfl]
  rw [show Txt.replace (mkS (typed c)) (mkS [34]) (mkS [34, 34]) = mkS (dbl (typed c)) by rw [ety]; exact rep3 x y z]
  refine wAddS (a := op257) (b := dbl (typed c)) (fun t8 k8 => ?_) (by show 5 + _ ≤ _; omega)
  refine wpAny_Constant_str ?_
  refine wAddS (a := op257 ++ dbl (typed c)) (b := [34, 32, 34]) (fun t9 k9 => ⟨F6.S, ?_⟩) (by rw [List.length_append]; show 5 + _ + 3 ≤ _; omega)
  rw [List.append_assoc]
  refine parse_ok w (dbl (typed c) ++ [34, 32, 34]) t9 (by rw [List.length_append]; show _ + 3 ≤ _; omega) _ _ _ (R.le (by omega)) F6.S fun g7 k10 t10 hx7 => ?_
  rw [parse_dbl, show parse [34, 32, 34] = [] from rfl, List.append_nil]
  dsimp only at hx7 ⊢
  have F7 := F6.ext hx7
  refine wSt F7.ns fun g8 n8 s8 => ?_
  have F8 := F7.stL n8 s8
  have K8 : ∀ b o, b ≠ L → h.get? b = some o → g8.get? b = some o := fun b o hb e => s8.extBut b o hb (hx7 _ _ (K6 b o hb e))
  clear n8 s8 F6 F7 hx7 K6
  dsimp only at F8 ⊢
  refine wpAny_execs_cons (wIfF ?_)
  refine wpAny_isTrue_BoolOp (wpAny_allTrue_Or_cons (wpAny_isTrue_Compare1 (wN F8.ns rfl (wN F8.ns rfl (PySem.P.ne_str (wpAny_truthy_bool ?_))))))
  rw [show ((mkS (typed c)).cps.toList != (mkS (typed c)).cps.toList) = false from bne_self_eq_false _, if_neg Bool.false_ne_true]
  refine wpAny_allTrue_Or_cons (wpAny_isTrue_Compare1 ?_)
  refine wCall1 F8.S (f := 154) (o := o154 w.params) (by kernel_rfl) (by kernel_rfl) rfl (wN F8.ns rfl ⟨F8.S, ?_⟩)
  refine prepared_ok w (typed c) _ (fine_typed c) _ _ _ (R.le (by omega)) F8.S fun g9 k11 t11 hx9 => ?_
  rw [prep_typed]
  have F9 := F8.ext hx9
  refine wN F9.ns rfl (PySem.P.ne_str (wpAny_truthy_bool ?_))
  rw [show ((mkS (meant c)).cps.toList != (mkS (meant c)).cps.toList) = false from bne_self_eq_false _, if_neg Bool.false_ne_true]
  refine wpAny_allTrue_Or_nil ⟨rfl, wpAny_execs_nil ?_⟩
  refine hK g9 _ _ F9 (fun b o hb e => hx9 _ _ (K8 b o hb e)) (fun x a1 a2 a3 a4 a5 => ?_) ⟨_, rfl⟩ ⟨_, rfl⟩ ⟨_, rfl⟩
  show (if x = _ then _ else if x = _ then _ else if x = _ then _ else if x = _ then _ else if x = _ then _ else m x) = m x
  rw [if_neg a5, if_neg a4, if_neg a3, if_neg a2, if_neg a1]
end Mine

namespace Mine
open PySem PySem.W PySem.Calls PyProof.Rows

/-! ## the book -/
noncomputable abbrev Rising (xs : List (List Nat)) : Prop := (xs.map prep).Pairwise (· < ·)
theorem lt_tr {a b c : List Nat} (h : a < b) (h' : b < c) : a < c := List.lt_trans h h'
theorem cntLt_iff {xs : List (List Nat)} (hs : Rising xs) (m : List Nat) (i : Nat) (x : List Nat) (hx : xs[i]? = some x) : prep x < m ↔ i < cntLt xs m := by
  have h : xs.Pairwise fun a b => (decide (prep b < m)) = true → (decide (prep a < m)) = true := by
    refine List.Pairwise.imp ?_ (List.pairwise_map.mp hs)
    intro a b hab h
    exact decide_eq_true (lt_tr hab (of_decide_eq_true h))
  have := cnt_iff (p := fun x => decide (prep x < m)) h i x hx
  rw [decide_eq_true_iff] at this
  exact this
theorem found_iff {xs : List (List Nat)} (hs : Rising xs) (m : List Nat) : (∃ x, xs[cntLt xs m]? = some x ∧ prep x = m) ↔ m ∈ xs.map prep := by
  constructor
  · rintro ⟨x, hx, rfl⟩
    exact List.mem_map.mpr ⟨x, List.mem_of_getElem? hx, rfl⟩
  · intro h
    obtain ⟨x, hx, rfl⟩ := List.mem_map.mp h
    obtain ⟨j, hj⟩ := List.mem_iff_getElem?.mp hx
    have h1 : ¬ j < cntLt xs (prep x) := fun q => List.lt_irrefl _ ((cntLt_iff hs (prep x) j x hj).mpr q)
    have hjl : j < xs.length := (List.getElem?_eq_some_iff.mp hj).1
    rcases Nat.lt_or_ge (cntLt xs (prep x)) j with q | q
    · exfalso
      have hr : xs[cntLt xs (prep x)]? = some (xs[cntLt xs (prep x)]'(by omega)) := List.getElem?_eq_getElem (by omega)
      have lt : prep (xs[cntLt xs (prep x)]'(by omega)) < prep x := by
        have h2 := List.pairwise_iff_getElem.mp hs (cntLt xs (prep x)) j (by rw [List.length_map]; omega) (by rw [List.length_map]; omega) q
        rw [List.getElem_map, List.getElem_map] at h2
        obtain ⟨_, e⟩ := List.getElem?_eq_some_iff.mp hj
        rw [e] at h2; exact h2
      exact Nat.lt_irrefl _ ((cntLt_iff hs (prep x) _ _ hr).mp lt)
    · have e : cntLt xs (prep x) = j := by omega
      rw [e]; exact ⟨x, hj, rfl⟩
theorem cntLt_le (xs : List (List Nat)) (m : List Nat) : cntLt xs m ≤ xs.length := List.countP_le_length
theorem Paired.app {α β : Type} {F : α → β → Prop} : ∀ {a b : List α} {c d : List β}, Paired F a c → Paired F b d → Paired F (a ++ b) (c ++ d)
  | _, _, _, _, .nil, h => h
  | _, _, _, _, .cons x t, h => .cons x (Paired.app t h)
theorem Paired.tk {α β : Type} {F : α → β → Prop} : ∀ {a : List α} {c : List β}, Paired F a c → ∀ n, Paired F (a.take n) (c.take n)
  | _, _, .nil, n => by simp; exact .nil
  | _, _, .cons x t, 0 => .nil
  | _, _, .cons x t, n + 1 => .cons x (Paired.tk t n)
theorem Paired.dr {α β : Type} {F : α → β → Prop} : ∀ {a : List α} {c : List β}, Paired F a c → ∀ n, Paired F (a.drop n) (c.drop n)
  | _, _, .nil, n => by simp; exact .nil
  | _, _, .cons x t, 0 => .cons x t
  | _, _, .cons x t, n + 1 => Paired.dr t n
/-- bisect_left with that key, in the whole book -/
theorem bisBook (w : World) (A : Around) (s : Shared) (Q : Value → Shared → Prop) (R : Rm A 3) (S : Stat w s.heap) {l : Addr} {items : Array Value} {xs : List (List Nat)} {mm : List Nat} {t : Tok}
    (hl : s.heap.IsList l items) (hx : BookIs items.toList xs) (hs : Rising xs) (hlen : xs.length ≤ 1000) (hQ : ∀ h' k t, Ext s.heap h' → Q (.int (cntLt xs mm : Nat) t) { s with heap := h', toks := k }) :
    Wp w A (call (.ref 41) [.ref l, .str (mkS mm) t] [(Str.ofString "key", .ref 154)]) Q s := by
  have hsz : items.size = xs.length := by rw [← hx.length]; exact (Array.length_toList).symm
  have hle := cntLt_le xs mm
  refine bisL_ok w A s Q 2 R S (args := ⟨[.ref l, .str (mkS mm) t], [(Str.ofString "key", .ref 154)]⟩) (items := items) 0 (cntLt xs mm) items.size hl (Nat.zero_le _) (by omega) (Nat.le_refl _) (by omega) (.inl ⟨rfl, rfl⟩) ⟨o154 w.params, _, S.at (by kernel_rfl), rfl⟩ (bindL2 S) (fun i v _ hi hv => ?_) (fun i v hi hi2 hv => ?_) hQ
  · obtain ⟨x, hxi, ⟨u, rfl⟩, hfine⟩ := Paired.getL hx (i := i) (a := v) (by simpa using hv)
    exact (keyPrep w s.heap x u hfine).probeL (decide_eq_true ((cntLt_iff hs mm i x hxi).mpr hi)).symm
  · obtain ⟨x, hxi, ⟨u, rfl⟩, hfine⟩ := Paired.getL hx (i := i) (a := v) (by simpa using hv)
    exact (keyPrep w s.heap x u hfine).probeL (decide_eq_false (fun q => Nat.lt_irrefl _ (Nat.lt_of_lt_of_le ((cntLt_iff hs mm i x hxi).mp q) hi))).symm
theorem insBook (w : World) (A : Around) (s : Shared) (Q : Value → Shared → Prop) (R : Rm A 4) (S : Stat w s.heap) {l : Addr} {items : Array Value} {xs : List (List Nat)} {nm : List Nat} {t : Tok}
    (hl : s.heap.PlainList l items) (hx : BookIs items.toList xs) (hs : Rising xs) (hlen : xs.length ≤ 1000) (hn : Fine nm)
    (hQ : ∀ h' k items', h'.PlainList l items' → BookIs items'.toList (insAt xs (cntLt xs (prep nm)) nm) → Heap.ExtBut l s.heap h' → Q .none { s with heap := h', toks := k }) :
    Wp w A (call (.ref 32) [.ref l, .str (mkS nm) t] [(Str.ofString "key", .ref 154)]) Q s := by
  have hsz : items.size = xs.length := by rw [← hx.length]; exact (Array.length_toList).symm
  have hle := cntLt_le xs (prep nm)
  refine insort_ok w A s Q 2 R S (x := .str (mkS nm) t) (y := prep nm) (cntLt xs (prep nm)) hl (by omega) (by omega) ⟨o154 w.params, _, S.at (by kernel_rfl), rfl⟩ (keyPrep w s.heap nm t hn) (fun i v hi hv => ?_) (fun i v hi hi2 hv => ?_) fun h' k hl' hx' => hQ h' k _ hl' ?_ hx'
  · obtain ⟨x, hxi, ⟨u, rfl⟩, hfine⟩ := Paired.getL hx (i := i) (a := v) (by simpa using hv)
    exact ⟨prep x, keyPrep w s.heap x u hfine, (cntLt_iff hs (prep nm) i x hxi).mpr hi⟩
  · obtain ⟨x, hxi, ⟨u, rfl⟩, hfine⟩ := Paired.getL hx (i := i) (a := v) (by simpa using hv)
    exact ⟨prep x, keyPrep w s.heap x u hfine, fun q => Nat.lt_irrefl _ (Nat.lt_of_lt_of_le ((cntLt_iff hs (prep nm) i x hxi).mp q) hi)⟩
  · have e : ((items.extract 0 (cntLt xs (prep nm))).push (.str (mkS nm) t) ++ items.extract (cntLt xs (prep nm))).toList = items.toList.take (cntLt xs (prep nm)) ++ [.str (mkS nm) t] ++ items.toList.drop (cntLt xs (prep nm)) := by
      simp [Array.toList_extract, List.extract_eq_drop_take]
      exact List.take_of_length_le (by rw [List.length_drop, Array.length_toList]; exact Nat.le_refl _)
    rw [e]
    exact Paired.app (Paired.app (Paired.tk hx _) (.cons ⟨⟨_, rfl⟩, hn⟩ .nil)) (Paired.dr hx _)
end Mine

namespace Mine
open PySem PySem.W PySem.Calls PyProof.Rows

theorem lt_or {a b : List Nat} (h : ¬ a < b) (hn : a ≠ b) : b < a := by
  have h1 : b ≤ a := List.not_lt.mp h
  rcases List.le_iff_lt_or_eq.mp h1 with q | q
  · exact q
  · exact absurd q.symm hn
structure Inv (st : List (List Nat) × List (List Nat × List Nat)) : Prop where
  rise : Rising st.1
  perm : (st.1.map fun t => (prep t, t)).Perm st.2
theorem Inv.mem {st : List (List Nat) × List (List Nat × List Nat)} (h : Inv st) (mm : List Nat) : mm ∈ st.1.map prep ↔ mm ∈ st.2.map (·.1) := by
  have e : st.1.map prep = (st.1.map fun t => (prep t, t)).map (·.1) := by rw [List.map_map]; rfl
  rw [e]
  exact (h.perm.map (·.1)).mem_iff
theorem rise_ins {xs : List (List Nat)} (hs : Rising xs) {x : List Nat} (hn : prep x ∉ xs.map prep) : Rising (insAt xs (cntLt xs (prep x)) x) := by
  unfold insAt Rising
  rw [List.map_append, List.map_append, List.map_take, List.map_drop]
  have ht : ∀ a ∈ (xs.map prep).take (cntLt xs (prep x)), a < prep x := by
    intro a ha
    obtain ⟨i, hi⟩ := List.mem_iff_getElem?.mp ha
    rw [List.getElem?_take] at hi
    split at hi
    · rename_i hlt
      rw [List.getElem?_map] at hi
      obtain ⟨y, hy, rfl⟩ := Option.map_eq_some_iff.mp hi
      exact (cntLt_iff hs _ i y hy).mpr hlt
    · cases hi
  have hd : ∀ a ∈ (xs.map prep).drop (cntLt xs (prep x)), prep x < a := by
    intro a ha
    obtain ⟨i, hi⟩ := List.mem_iff_getElem?.mp ha
    rw [List.getElem?_drop, List.getElem?_map] at hi
    obtain ⟨y, hy, rfl⟩ := Option.map_eq_some_iff.mp hi
    refine lt_or (fun q => ?_) fun q => hn (List.mem_map.mpr ⟨y, List.mem_of_getElem? hy, q⟩)
    have := (cntLt_iff hs _ _ y hy).mp q
    omega
  refine List.pairwise_append.mpr ⟨List.pairwise_append.mpr ⟨hs.sublist (List.take_sublist ..), List.pairwise_singleton .., fun a ha b hb => ?_⟩, hs.sublist (List.drop_sublist ..), fun a ha b hb => ?_⟩
  · rw [List.map_singleton] at hb
    rw [List.mem_singleton.mp hb]; exact ht a ha
  · rcases List.mem_append.mp ha with q | q
    · exact lt_tr (ht a q) (hd b hb)
    · rw [List.map_singleton] at q
      rw [List.mem_singleton.mp q]; exact hd b hb
theorem perm_ins {α β : Type} (f : α → β) (xs : List α) (r : Nat) (x : α) {ps : List β} (h : (xs.map f).Perm ps) : ((xs.take r ++ [x] ++ xs.drop r).map f).Perm (ps ++ [f x]) := by
  have e : xs = xs.take r ++ xs.drop r := (List.take_append_drop r xs).symm
  have h1 : (xs.take r ++ [x] ++ xs.drop r).Perm (xs.take r ++ xs.drop r ++ [x]) := by
    rw [List.append_assoc, List.append_assoc]
    exact List.Perm.append_left _ List.perm_append_comm
  rw [← e] at h1
  refine (h1.map f).trans ?_
  rw [List.map_append]
  exact h.append_right _
theorem lay_inv {st : List (List Nat) × List (List Nat × List Nat)} (h : Inv st) (c : Int) : Inv (lay st c) := by
  unfold lay
  split
  · exact h
  · rename_i hc
    have hn : prep (typed c) ∉ st.1.map prep := by
      rw [prep_typed]
      exact fun q => hc (List.contains_iff_mem.mpr ((h.mem _).mp q))
    refine ⟨?_, ?_⟩
    · have := rise_ins h.rise hn
      rw [prep_typed] at this; exact this
    · have := perm_ins (fun t => (prep t, t)) st.1 (cntLt st.1 (meant c)) (typed c) h.perm
      rw [prep_typed] at this
      exact this
theorem lay_len1 (st : List (List Nat) × List (List Nat × List Nat)) (c : Int) : (lay st c).1.length ≤ st.1.length + 1 := by
  unfold lay
  split
  · omega
  · have := cntLt_le st.1 (meant c)
    simp only [insAt, List.length_append, List.length_take, List.length_drop, List.length_singleton]; omega
theorem lay_len2 (st : List (List Nat) × List (List Nat × List Nat)) (c : Int) : (lay st c).2.length ≤ st.2.length + 1 := by
  unfold lay
  split
  · omega
  · simp
theorem inv0 : Inv ([], []) := ⟨List.Pairwise.nil, List.Perm.nil⟩
end Mine

namespace Mine
open PySem PySem.W PySem.Calls PyProof.Rows

theorem TupIs.keep {h h' : Heap} {a : Addr} (hs : Heap.ExtBut a h h') (ha : ∀ its, ¬ IsTup h a its) {vs : List Value} {ps : List (List Nat × List Nat)} (x : Paired (TupIs h) vs ps) : Paired (TupIs h') vs ps :=
  Paired.mono (fun v q hq => by
    obtain ⟨b, t, u, rfl, hb⟩ := hq
    have hne : b ≠ a := by rintro rfl; exact ha _ hb
    obtain ⟨o, ho, r⟩ := hb
    exact ⟨b, t, u, rfl, o, hs b o hne ho, r⟩) x
theorem notTup_ns {h : Heap} {L : Addr} {m : Str → Option Value} (hn : h.Ns L m) (its : Array Value) : ¬ IsTup h L its := by
  rintro ⟨o, ho, _, n, hd⟩
  obtain ⟨o', es, ep, ho', hd', _⟩ := hn
  rw [ho] at ho'; cases ho'; rw [hd] at hd'; cases hd'
theorem notTup_list {h : Heap} {l : Addr} {items : Array Value} (hl : h.IsList l items) (its : Array Value) : ¬ IsTup h l its := by
  rintro ⟨o, ho, hc, _⟩
  obtain ⟨o', ho', hc', _⟩ := hl
  rw [ho] at ho'; cases ho'; rw [hc] at hc'; injection hc' with q; exact absurd q (by decide)
theorem TupIs_uniq {h : Heap} {v : Value} {a b : List Nat × List Nat} (x : TupIs h v a) (y : TupIs h v b) : a = b := by
  obtain ⟨c, t, u, rfl, o, ho, _, n, hd⟩ := x
  obtain ⟨c', t', u', e, o', ho', _, n', hd'⟩ := y
  cases e
  rw [ho] at ho'; cases ho'
  rw [hd] at hd'
  injection hd' with h1 h2
  have h3 := congrArg Array.toList h1
  injection h3 with h4 h5
  injection h5 with h6 h7
  injection h4 with h8 h9
  injection h6 with h10 h11
  exact Prod.ext (mkS_inj h8) (mkS_inj h10)
/-- the rest of a turn: the book and what was laid -/
theorem lay_part (w : World) (A : Around) (g : Heap) (L : Addr) (s : Shared) (h : Heap) (k0 : Nat) (m cm : Str → Option Value) (c : Int) (Q : Flow → Shared → Prop) (R : Rm A 5) (F : LS w g L m cm h)
    {tt tm tn : Tok} {bk ld : Addr} {items lits : Array Value} {xs : List (List Nat)} {ps : List (List Nat × List Nat)}
    (m1 : m "typed" = some (.str (mkS (typed c)) tt)) (m2 : m "meant" = some (.str (mkS (meant c)) tm)) (m3 : m "name" = some (.str (mkS (typed c)) tn)) (m4 : m "book" = some (.ref bk)) (m5 : m "laid" = some (.ref ld))
    (hb : h.PlainList bk items) (hx : BookIs items.toList xs) (hd : h.PlainList ld lits) (hp : Paired (TupIs h) lits.toList ps) (hbl : bk ≠ ld) (hbg : g.objs.size ≤ bk) (hlg : g.objs.size ≤ ld)
    (hs : Rising xs) (hmem : ∀ mm, mm ∈ xs.map prep ↔ mm ∈ ps.map (·.1)) (hlx : xs.length ≤ 900) (hlp : ps.length ≤ 900)
    (hK : ∀ h' k m' items' lits', LS w g L m' cm h' → (∀ b o, b ≠ L → b ≠ bk → b ≠ ld → h.get? b = some o → h'.get? b = some o) → (∀ x, x ≠ (Str.ofString "place") → x ≠ (Str.ofString "found") → m' x = m x) →
      h'.PlainList bk items' → BookIs items'.toList (lay (xs, ps) c).1 → h'.PlainList ld lits' → Paired (TupIs h') lits'.toList (lay (xs, ps) c).2 → Q .next { s with heap := h', toks := k }) :
    Wp w A (execs (loopBody.drop 5) (Ev w L)) Q { s with heap := h, toks := k0 } := by
  refine wpAny_execs_cons (wpAny_Assign_Name ?_)
  refine wCallKw F.S (f := 41) (o := o41 w.params) (by kernel_rfl) (by kernel_rfl) rfl ?_
  refine aN (wN F.ns m4 (aN (wN F.ns m2 (aNil ?_))))
  refine wG F.S (v := .ref 154) (by kernel_rfl) ⟨F.S, ?_⟩
  refine bisBook w _ _ _ (R.le (by omega)) F.S hb.isList hx hs (by omega) fun g1 k1 t1 hx1 => ?_
  have F1 := F.ext hx1
  refine wSt F1.ns fun g2 n2 s2 => ?_
  have F2 := F1.stL n2 s2
  have hb2 := PlainList.upL (hb.at fun o e => hx1 _ o e) F1.ns s2
  have hd2 := PlainList.upL (hd.at fun o e => hx1 _ o e) F1.ns s2
  have hp2 := TupIs.keep s2.extBut (notTup_ns F1.ns) (TupIs.keep (ebOf hx1) (notTup_ns F.ns) hp)
  have K2 : ∀ b o, b ≠ L → h.get? b = some o → g2.get? b = some o := fun b o hb e => s2.extBut b o hb (hx1 _ _ e)
  have hlits : lits.size = ps.length := by rw [← hp.length]; exact (Array.length_toList).symm
  clear n2 s2 hx1 F1 hb hd hp
  dsimp only at F2 ⊢
  have hsz : items.size = xs.length := by rw [← hx.length]; exact (Array.length_toList).symm
  have hle := cntLt_le xs (meant c)
  have hfd : ∀ Q', (∀ k h3, Ext g2 h3 → Q' (.bool (decide (meant c ∈ xs.map prep))) { s with heap := h3, toks := k }) → ∀ k, ∀ e, e = (match loopBody[6]? with | some (Stmt.Assign _ e _) => e | _ => .Constant .none 0 default) → Wp w A (eval e (Ev w L)) Q' { s with heap := g2, toks := k } := by
    rintro Q' hq k e rfl
    refine BoolOp_and (wpAny_Compare1 (wN F2.ns rfl (wCallB F2.S (id := "len") (by kernel_rfl) (wN F2.ns ((show _ = m "book" from rfl).trans m4) ?_))))
    refine call_len_list hb2.isList (by omega) ?_
    refine lt_int (wpAny_truthy_bool ?_)
    by_cases hlt : cntLt xs (meant c) < xs.length
    · rw [decide_eq_true (by omega : ((cntLt xs (meant c) : Nat) : Int) < (items.size : Int)), if_pos rfl]
      refine BoolOp_one (wpAny_Compare1 ?_)
      have hxi : xs[cntLt xs (meant c)]? = some xs[cntLt xs (meant c)] := List.getElem?_eq_getElem hlt
      obtain ⟨v, hv, ⟨u, rfl⟩, hfine⟩ := Paired.get hx hxi
      refine wCall1 F2.S (f := 154) (o := o154 w.params) (by kernel_rfl) (by kernel_rfl) rfl ?_
      refine wpAny_Subscript_Name slot_list_getitem.lookup (wN F2.ns ((show _ = m "book" from rfl).trans m4) (wN F2.ns rfl ⟨hb2.isList.typeIs, ?_⟩))
      refine wpAny_getItem_list hb2.isList (by omega) (by omega) (by rw [Int.toNat_natCast]; simpa using hv) ⟨F2.S, ?_⟩
      refine prepared_ok w _ u hfine _ _ _ (R.le (by omega)) F2.S fun g3 k3 t3 hx3 => ?_
      refine wN ((F2.ext hx3).ns) ((show _ = m "meant" from rfl).trans m2) (PySem.P.eq_str ?_)
      have e : ((mkS (prep xs[cntLt xs (meant c)])).cps.toList == (mkS (meant c)).cps.toList) = decide (meant c ∈ xs.map prep) := by
        show (prep xs[cntLt xs (meant c)] == meant c) = _
        rw [Bool.eq_iff_iff, beq_iff_eq, decide_eq_true_iff, ← found_iff hs (meant c)]
        constructor
        · intro q; exact ⟨_, hxi, q⟩
        · rintro ⟨x, hx', q⟩
          rw [hxi] at hx'; cases hx'; exact q
      rw [e]
      exact hq _ g3 hx3
    · rw [decide_eq_false (by omega : ¬ ((cntLt xs (meant c) : Nat) : Int) < (items.size : Int)), if_neg Bool.false_ne_true]
      have e : decide (meant c ∈ xs.map prep) = false := decide_eq_false fun q => by
        obtain ⟨x, hx', _⟩ := (found_iff hs (meant c)).mpr q
        exact hlt (List.getElem?_eq_some_iff.mp hx').1
      have := hq (k + 1 + 1) g2 (Ext.refl _)
      rw [e] at this
      exact this
  refine wpAny_execs_cons (wpAny_Assign_Name (hfd _ (fun k3 g3 hx3 => ?_) _ _ rfl))
  clear hfd
  have F3 := F2.ext hx3
  refine wSt F3.ns fun g4 n4 s4 => ?_
  have F4 := F3.stL n4 s4
  have hb4 := PlainList.upL (hb2.at fun o e => hx3 _ o e) F3.ns s4
  have hd4 := PlainList.upL (hd2.at fun o e => hx3 _ o e) F3.ns s4
  have hp4 := TupIs.keep s4.extBut (notTup_ns F3.ns) (TupIs.keep (ebOf hx3) (notTup_ns F2.ns) hp2)
  have K4 : ∀ b o, b ≠ L → h.get? b = some o → g4.get? b = some o := fun b o hb e => s4.extBut b o hb (hx3 _ _ (K2 b o hb e))
  clear n4 s4 hx3 F3 hb2 hd2 hp2 K2 F2
  dsimp only at F4 ⊢
  refine wpAny_execs_cons (wIfF (wpAny_isTrue_Compare1 (wN F4.ns rfl (wpAny_Compare1 (wN F4.ns ((show _ = m "meant" from rfl).trans m2) ?_)))))
  refine wCompG (TupIs g4) RS (fun _ => true) (fun q => q.1) (cl := []) (by with_unfolding_all rfl) (fun v a b => TupIs_uniq) ?_
  refine wN F4.ns ((show _ = m "laid" from rfl).trans m5) ⟨ps, seqList R.1 hd4.isList hp4, by omega, ?_, ?_, ?_⟩
  · rintro C a v s3 m3 E' ha hv hn3 hm3 hx3
    exact forIn0 ⟨rfl, _, _, rfl, fun b o e => e⟩
  · rintro C a v s3 m3 ha ⟨b, t, u, rfl, hT⟩ hq hn3 hm3 hx3
    exact wPairAt (i := 0) hn3 hm3 (hT.keeps hx3) (by decide) rfl fun k => ⟨⟨t, rfl⟩, _, _, rfl, fun b o e => e⟩
  intro D g5 k5 ys hD _ hli hpy hx5
  have efl : ps.filter (fun _ => true) = ps := by simp
  rw [efl] at hpy
  refine in_list_strs (vs := ys.toList) (by rw [Array.toArray_toList]; exact hli) (strsAre_of hpy) ?_
  have ein : ((ps.map fun q => q.1).map mkS).any (· == mkS (meant c)) = decide (meant c ∈ xs.map prep) := by
    rw [Bool.eq_iff_iff, decide_eq_true_iff, hmem, List.any_eq_true]
    constructor
    · rintro ⟨y, hy, e⟩
      obtain ⟨q, hq, rfl⟩ := List.mem_map.mp hy
      rw [← mkS_inj (beq_iff_eq.mp e)]; exact hq
    · intro q
      exact ⟨mkS (meant c), List.mem_map_of_mem q, beq_self_eq_true _⟩
  rw [ein]
  refine isnot_bools (wpAny_truthy_bool ⟨bne_self_eq_false _, wpAny_execs_nil ?_⟩)
  dsimp only at hx5 ⊢
  have F5 := F4.ext hx5
  have hb5 := hb4.at fun o e => hx5 _ o e
  have hd5 := hd4.at fun o e => hx5 _ o e
  have hp5 := TupIs.keep (ebOf hx5) (notTup_ns F4.ns) hp4
  have K5 : ∀ b o, b ≠ L → h.get? b = some o → g5.get? b = some o := fun b o hb e => hx5 _ _ (K4 b o hb e)
  clear hx5 F4 hb4 hd4 hp4 K4 hli hpy
  refine wpAny_execs_cons (wpAny_If (wpAny_isTrue_Not (wpAny_isTrue_value (wN F5.ns rfl (wpAny_truthy_bool ?_)))))
  by_cases hin : meant c ∈ xs.map prep
  · rw [decide_eq_true hin]
    rw [if_neg (by decide)]
    have el : lay (xs, ps) c = (xs, ps) := by
      unfold lay
      rw [if_pos]
      exact List.contains_iff_mem.mpr ((hmem _).mp hin)
    refine wpAny_execs_nil (wpAny_execs_nil ?_)
    refine hK g5 _ _ items lits F5 (fun b o h1 h2 h3 e => K5 b o h1 e) (fun x a1 a2 => ?_) hb5 (by rw [el]; exact hx) hd5 (by rw [el]; exact hp5)
    show (if x = _ then _ else if x = _ then _ else m x) = m x
    rw [if_neg a2, if_neg a1]
  · rw [decide_eq_false hin, if_pos (by decide)]
    have el : lay (xs, ps) c = (insAt xs (cntLt xs (meant c)) (typed c), ps ++ [(meant c, typed c)]) := by
      unfold lay
      rw [if_neg]
      intro q
      exact hin ((hmem _).mpr (List.contains_iff_mem.mp q))
    have tb5 : ∀ its, ¬ IsTup g5 bk its := notTup_list hb5.isList
    refine wpAny_execs_cons (wIfF (wpAny_isTrue_Compare1 ?_))
    refine wCallKw F5.S (f := 32) (o := o32 w.params) (by kernel_rfl) (by kernel_rfl) rfl ?_
    refine aN (wN F5.ns ((show _ = m "book" from rfl).trans m4) (aN (wN F5.ns ((show _ = m "name" from rfl).trans m3) (aNil ?_))))
    refine wG F5.S (v := .ref 154) (by kernel_rfl) ⟨F5.S, ?_⟩
    refine insBook w _ _ _ (R.le (by omega)) F5.S hb5 hx hs (by omega) (fine_typed c) fun g6 k6 items' hb6 hx6 he6 => ?_
    rw [prep_typed] at hx6
    refine wpAny_Constant_none (isnot_none_none (wpAny_truthy_bool ⟨rfl, wpAny_execs_nil ?_⟩))
    dsimp only at he6 ⊢
    have F6 := F5.butList hb5.isList hbg he6
    have hd6 := hd5.extBut he6 hbl.symm
    have hp6 := TupIs.keep he6 tb5 hp5
    have K6 : ∀ b o, b ≠ L → b ≠ bk → h.get? b = some o → g6.get? b = some o := fun b o h1 h2 e => he6 b o h2 (K5 b o h1 e)
    clear he6 K5 hp5 hd5 hb5 F5 tb5
    obtain ⟨n6, e6⟩ := id hd6
    refine wpAny_execs_cons (wpAny_Expr_any (MethodCall_ (wN F6.ns ((show _ = m "laid" from rfl).trans m5) (Calls.getMethod_list_append e6 rfl rfl ?_))))
    refine callWith_method1 (args_cons (wTuple ?_) rfl)
    refine aN (wN F6.ns ((show _ = m "meant" from rfl).trans m2) (aN (wN F6.ns ((show _ = m "typed" from rfl).trans m1) (aNil ⟨by show 2 ≤ _; decide, fun g7 hx7 ht7 _ => ?_⟩))))
    dsimp only at hx7 ht7 ⊢
    have F7 := F6.ext hx7
    have hd7 := hd6.at fun o e => hx7 _ o e
    have hb7 := hb6.at fun o e => hx7 _ o e
    have hp7 := TupIs.keep (ebOf hx7) (notTup_ns F6.ns) hp6
    have td7 : ∀ its, ¬ IsTup g7 ld its := notTup_list hd7.isList
    refine aNil ?_
    refine wpAny_list_append_plain hd7 (fun g8 hd8 hs8 => ?_) (by
      show _ ≤ 2 ^ 24
      omega)
    refine wpAny_execs_nil (wpAny_execs_nil ?_)
    have F8 := F7.butList hd7.isList hlg hs8.extBut
    have hT8 : IsTup g8 g6.objs.size #[.str (mkS (meant c)) tm, .str (mkS (typed c)) tt] := by
      obtain ⟨o, ho, r⟩ := id ht7
      exact ⟨o, hs8.extBut _ _ (by rintro rfl; exact td7 _ ht7) ho, r⟩
    refine hK g8 _ _ items' _ F8 (fun b o h1 h2 h3 e => hs8.extBut b o h3 (hx7 _ _ (K6 b o h1 h2 e))) (fun x a1 a2 => ?_) (hb7.extBut hs8.extBut hbl) (by rw [el]; exact hx6) hd8 (by
      rw [el, Array.toList_push]
      exact Paired.app (TupIs.keep hs8.extBut td7 hp7) (.cons ⟨_, tm, tt, rfl, hT8⟩ .nil))
    show (if x = _ then _ else if x = _ then _ else m x) = m x
    rw [if_neg a2, if_neg a1]
end Mine

namespace Mine
open PySem PySem.W PySem.Calls PyProof.Rows

section
variable {w : World} {A : Around} {env : Env}
theorem wForW {target iter : Expr} {body orelse : List Stmt} {pos : Pos} {Q : Flow → Shared → Prop} (s : Shared)
    (h : Wp w A (eval iter env) (fun xv s1 => Wp w A (pyIter xv) (fun it s2 => ∃ I fp wr n P St, ∃ J : Nat → Shared → Prop, it = .ref I ∧ Walks pw w A I fp wr n P St ∧ St 0 s2.heap ∧ J 0 s2 ∧
      (∀ i v s h1 tk, i < n → J i s → St i s.heap → P i v → St (i + 1) h1 → (∀ b o, b ∉ wr → s.heap.get? b = some o → h1.get? b = some o) →
        Wp w A (assign target env v) (fun _ s2 => Wp w A (execs body env) (fun f s3 => match f with
          | .next | .cont => J (i + 1) s3 ∧ St (i + 1) s3.heap
          | .brk => Q .next s3
          | .ret v => Q (.ret v) s3) s2) { s with heap := h1, toks := tk }) ∧
      (∀ s h1 tk, J n s → St n s.heap → (∀ b o, b ∉ wr → s.heap.get? b = some o → h1.get? b = some o) → Wp w A (execs orelse env) Q { s with heap := h1, toks := tk })) s1) s)
    (hs : ∀ x, foldedSetIterable iter env x = pure x := by intro _; rfl) (hlet : ∀ it v, letOwnedTupleGo target it v = pure () := by intro _ _; rfl) :
    Wp w A (exec (.For target iter body orelse pos) env) Q s := by
  refine wpAny_For (wpAny_mono h (fun xv s1 h1 => wpAny_mono h1 (fun it s2 h2 => ?_) fun _ _ x => x) fun _ _ x => x) hs
  obtain ⟨I, fp, wr, n, P, St, J, rfl, W, st, hJ0, turn, fin⟩ := h2
  refine codeAny_mono (codeAny_forLoop (R := fun r s' => match r with | .ok f => Q f s' | .error _ => False) (fun k s => ∃ i, k = n - i ∧ i ≤ n ∧ J i s ∧ St i s.heap) (fun k s hk => ?_) n ⟨0, rfl, Nat.zero_le _, hJ0, st⟩ (hlet _)) ?_
  · obtain ⟨i, rfl, hi, hJ, hSt⟩ := hk
    rcases Nat.lt_or_ge i n with hlt | hge
    · refine W.item i s _ _ hlt hSt fun v h1 tk hv hst1 hkeep => ?_
      refine wpAny_mono (turn i v s h1 tk hlt hJ hSt hv hst1 hkeep) (fun _ s2 h2 => ?_) fun _ _ x => x.elim
      refine wpAny_mono h2 (fun f s3 h3 => ?_) fun _ _ x => x.elim
      cases f with
      | next => exact ⟨n - (i + 1), by omega, i + 1, rfl, hlt, h3.1, h3.2⟩
      | cont => exact ⟨n - (i + 1), by omega, i + 1, rfl, hlt, h3.1, h3.2⟩
      | brk => exact h3
      | ret v => exact h3
    · have hin : i = n := by omega
      subst hin
      refine W.done s _ _ hSt fun h1 tk hkeep => ?_
      exact wpAny_mono (fin s h1 tk hJ hSt hkeep) (fun f s3 h3 => h3) fun _ _ x => x.elim
  · intro r s' hr
    cases r with
    | ok f => exact hr
    | error e => exact hr.elim
theorem wSliceTo {value : Expr} {upper : Expr} {p pos : Pos} {Q : Value → Shared → Prop} {s : Shared}
    (h : Wp w A (eval value env) (fun o s₁ => Wp w A (eval upper env) (fun vu s₃ => ∃ (l : Addr) (items : Array Value) (b : Nat) (k : Tok), o = .ref l ∧ s₃.heap.IsList l items ∧ items.size ≤ 1000 ∧ vu = .int (b : Int) k ∧
      ∀ h' D, Ext s₃.heap h' → s₃.heap.objs.size ≤ D → h'.PlainList D (items.toList.take b).toArray → Q (.ref D) { s₃ with heap := h' }) s₁) s)
    (ht : ∀ o r, letTemporaryGo value o r = pure () := by intro _ _; rfl) : Wp w A (eval (.Subscript value (.Slice none (some upper) none p) pos) env) Q s := by
  refine wpAny_Subscript_list_slice (wpAny_mono h (fun o s1 h1 => wpAny_evalPart_none (wpAny_evalPart_some (wpAny_mono h1 (fun vu s3 h3 => ?_) fun _ _ x => x))) fun _ _ x => x) ht
  obtain ⟨l, items, b, k, rfl, hl, hsz, rfl, hq⟩ := h3
  refine ⟨l, items, none, some (b : Int), rfl, hl, by show _ ≤ 2 ^ 24; omega, .none, .int _ _, ?_⟩
  rw [slicePick_upto']
  have e : s3.heap.objs.size + 1 = (s3.heap.push { cls := .type "slice", data := .fields #[.none, .int (b : Int) k, .none] }).objs.size := (Heap.size_push ..).symm
  refine hq _ _ (fun b o e => Heap.get?_push_of_some _ (Heap.get?_push_of_some _ e)) (Nat.le_succ _) ⟨0, ?_⟩
  rw [e]
  exact Heap.get?_push_size _ rfl
end
end Mine

namespace Mine
open PySem PySem.W PySem.Calls PyProof.Rows

noncomputable def lays (cs : List Int) (i : Nat) : List (List Nat) × List (List Nat × List Nat) := (cs.take i).foldl lay ([], [])
theorem lays_succ {cs : List Int} {i : Nat} {c : Int} (h : cs[i]? = some c) : lays cs (i + 1) = lay (lays cs i) c := by
  unfold lays
  rw [List.take_add_one, h, List.foldl_append]; rfl
theorem foldl_inv (cs : List Int) : ∀ st, Inv st → Inv (cs.foldl lay st) := by
  induction cs with
  | nil => exact fun _ h => h
  | cons c r ih => exact fun st h => ih _ (lay_inv h c)
theorem lays_inv (cs : List Int) (i : Nat) : Inv (lays cs i) := foldl_inv _ _ inv0
theorem foldl_len1 (cs : List Int) : ∀ st, (cs.foldl lay st).1.length ≤ st.1.length + cs.length := by
  induction cs with
  | nil => exact fun _ => Nat.le_refl _
  | cons c r ih => intro st; have := ih (lay st c); have := lay_len1 st c; simp only [List.foldl_cons, List.length_cons]; omega
theorem foldl_len2 (cs : List Int) : ∀ st, (cs.foldl lay st).2.length ≤ st.2.length + cs.length := by
  induction cs with
  | nil => exact fun _ => Nat.le_refl _
  | cons c r ih => intro st; have := ih (lay st c); have := lay_len2 st c; simp only [List.foldl_cons, List.length_cons]; omega
theorem lays_len1 (cs : List Int) (i : Nat) : (lays cs i).1.length ≤ i := by
  have := foldl_len1 (cs.take i) ([], [])
  have h2 : (cs.take i).length ≤ i := List.length_take_le ..
  unfold lays; simp only [List.length_nil] at this; omega
theorem lays_len2 (cs : List Int) (i : Nat) : (lays cs i).2.length ≤ i := by
  have := foldl_len2 (cs.take i) ([], [])
  have h2 : (cs.take i).length ≤ i := List.length_take_le ..
  unfold lays; simp only [List.length_nil] at this; omega
theorem Tab.butIt {h h' : Heap} {P a l : Addr} {i : Nat} {q : Str} (x : Tab h P q) (e : Heap.ExtBut a h h') (ha : P ≠ a) (hit : h.IsListIter a l i) : Tab h' P q := by
  obtain ⟨ps, e1, e2, e3⟩ := x
  refine ⟨ps, e _ _ ha e1, e2, fun pos cv hc => ?_⟩
  have r := e3 pos cv hc
  obtain ⟨c, o, vs, t, q1, q2, q3, q4⟩ := id r
  refine codeRec_but r e fun c' e' => ?_
  rw [q1] at e'; cases e'
  rintro rfl
  obtain ⟨o', ho', _, hd'⟩ := hit
  rw [ho'] at q2; cases q2
  rw [hd'] at q3; cases q3
  cases q4
/-- a list's iterator moved on -/
theorem LS.butIt {w : World} {g h h' : Heap} {L : Addr} {m cm : Str → Option Value} (x : LS w g L m cm h) {a l : Addr} {i : Nat} (hit : h.IsListIter a l i) (ha : g.objs.size ≤ a) (hs : Heap.ExtBut a h h') : LS w g L m cm h' := by
  have l1 := x.lt
  have k0 : (Mine.K w.params).lookup a = none := K_big _ (Nat.lt_of_lt_of_le l1 ha)
  have c : ∀ {b : Addr} {v : Option Value}, h.IsCell b v → h'.IsCell b v := fun y => by
    obtain ⟨o, ho, hd⟩ := y
    refine ⟨o, hs _ _ ?_ ho, hd⟩
    rintro rfl
    obtain ⟨o', ho', _, hd'⟩ := hit
    rw [ho] at ho'; cases ho'; rw [hd] at hd'; cases hd'
  have nL : L ≠ a := by
    rintro rfl
    obtain ⟨o', ho', _, hd'⟩ := hit
    obtain ⟨o, es, ep, ho, hd, _⟩ := x.ns
    rw [ho] at ho'; cases ho'; rw [hd] at hd'; cases hd'
  have l3 : @LT.lt Nat _ 180 a := Nat.lt_of_lt_of_le l1 ha
  have z0 : @Ne Nat 0 a := by omega
  have z2 : @Ne Nat 2 a := by omega
  have z4 : @Ne Nat 4 a := by omega
  have z163 : @Ne Nat 163 a := by omega
  have z177 : @Ne Nat 177 a := by omega
  exact ⟨x.fresh, x.ns.extBut hs nL, c x.script, c x.word, c x.line, c x.body, x.S.but hs k0 z0 z2, x.B.but hs z4, x.T.butIt hs z163 hit, x.T'.butIt hs z177 hit,
    fun b o h1 h2 e' => hs b o (Nat.ne_of_lt (Nat.lt_of_lt_of_le (Heap.lt_size e') ha)) (x.keep b o h1 h2 e'), x.lt⟩
theorem notTup_it {h : Heap} {a l : Addr} {i : Nat} (hit : h.IsListIter a l i) (its : Array Value) : ¬ IsTup h a its := by
  rintro ⟨o, ho, _, n, hd⟩
  obtain ⟨o', ho', _, hd'⟩ := hit
  rw [ho] at ho'; cases ho'; rw [hd] at hd'; cases hd'
noncomputable def lawBody : List Stmt := ((fdef 20).2.1 : List Stmt)
/-- the law's first loop -/
theorem loop1 (w : World) (A : Around) (g : Heap) (L : Addr) (s : Shared) (h : Heap) (k0 : Nat) (m cm : Str → Option Value) (Q : Flow → Shared → Prop) (R : Rm A 5) (F : LS w g L m cm h)
    {cl bk ld : Addr} {citems : Array Value} {cs : List Int} (m0 : m "cells" = some (.ref cl)) (m4 : m "book" = some (.ref bk)) (m5 : m "laid" = some (.ref ld))
    (hcl : h.IsList cl citems) (hcs : Paired RI citems.toList cs) (hlen : cs.length = 6) (hb : h.PlainList bk #[]) (hd : h.PlainList ld #[]) (hbl : bk ≠ ld) (hbg : g.objs.size ≤ bk) (hlg : g.objs.size ≤ ld)
    (hK : ∀ h' k m' items lits, LS w g L m' cm h' → (∀ b o, b ≠ L → b ≠ bk → b ≠ ld → h.get? b = some o → h'.get? b = some o) → m' "cells" = some (.ref cl) → m' "book" = some (.ref bk) → m' "laid" = some (.ref ld) →
      h'.PlainList bk items → BookIs items.toList (lays cs 5).1 → h'.PlainList ld lits → Paired (TupIs h') lits.toList (lays cs 5).2 → Wp w A (execs (lawBody.drop 4) (Ev w L)) Q { s with heap := h', toks := k }) :
    Wp w A (execs (lawBody.drop 3) (Ev w L)) Q { s with heap := h, toks := k0 } := by
  refine wpAny_execs_cons ?_
  refine wForW _ (wSliceTo (wN F.ns m0 (wpAny_Constant_int ⟨cl, citems, 5, _, rfl, hcl, ?_, rfl, fun h1 D hx1 hD hl1 => ?_⟩)))
  · have : citems.size = cs.length := by rw [← hcs.length]; exact (Array.length_toList).symm
    omega
  dsimp only at hx1 hD hl1 ⊢
  have F1 := F.ext hx1
  refine wpAny_pyIter_list hl1.isList ?_
  dsimp only
  have hDlt : D < h1.objs.size := by obtain ⟨n, e⟩ := hl1; exact Heap.lt_size e
  have W := Walks.list (prog := pw) (w := w) (A := A) R.1 h1.objs.size D (Nat.ne_of_lt hDlt) (citems.toList.take 5).toArray
  have hx2 : Ext h1 (h1.push { cls := .type "list_iterator", data := .fields #[.ref D, .int 0 0] }) := fun b o e => Heap.get?_push_of_some _ e
  have hit : (h1.push { cls := .type "list_iterator", data := .fields #[.ref D, .int 0 0] }).IsListIter h1.objs.size D 0 := ⟨_, Heap.get?_push_size _ rfl, rfl, rfl⟩
  generalize h1.push { cls := .type "list_iterator", data := .fields #[.ref D, .int 0 0] } = h2 at hx2 hit
  have F2 := F1.ext hx2
  have hl2 := hl1.isList.at fun o e => hx2 _ o e
  have hsz5 : (citems.toList.take 5).toArray.size = 5 := by
    rw [List.size_toArray, List.length_take, hcs.length, hlen]; rfl
  rw [hsz5] at W
  have DL : D ≠ L := Nat.ne_of_gt (Nat.lt_of_lt_of_le (by obtain ⟨o, _, _, e, _⟩ := F.ns; exact Heap.lt_size e) hD)
  have Db : D ≠ bk := Nat.ne_of_gt (Nat.lt_of_lt_of_le (by obtain ⟨n, e⟩ := hb; exact Heap.lt_size e) hD)
  have Dd : D ≠ ld := Nat.ne_of_gt (Nat.lt_of_lt_of_le (by obtain ⟨n, e⟩ := hd; exact Heap.lt_size e) hD)
  have lt1 : ∀ a, a < h.objs.size → h1.objs.size ≠ a := fun a ha e => by
    have : h.objs.size ≤ D := hD
    omega
  have IL : h1.objs.size ≠ L := lt1 _ (by obtain ⟨o, _, _, e, _⟩ := F.ns; exact Heap.lt_size e)
  have Ib : h1.objs.size ≠ bk := lt1 _ (by obtain ⟨n, e⟩ := hb; exact Heap.lt_size e)
  have Id : h1.objs.size ≠ ld := lt1 _ (by obtain ⟨n, e⟩ := hd; exact Heap.lt_size e)
  refine ⟨h1.objs.size, _, _, 5, _, _, fun i s' => ∃ h' k m' items lits, s' = { s with heap := h', toks := k } ∧ LS w g L m' cm h' ∧ (∀ b o, b ≠ L → b ≠ bk → b ≠ ld → h.get? b = some o → h'.get? b = some o) ∧ m' "cells" = some (.ref cl) ∧ m' "book" = some (.ref bk) ∧ m' "laid" = some (.ref ld) ∧
      h'.PlainList bk items ∧ BookIs items.toList (lays cs i).1 ∧ h'.PlainList ld lits ∧ Paired (TupIs h') lits.toList (lays cs i).2, rfl, W, ⟨hit, hl2⟩, ?_, ?_, ?_⟩
  · exact ⟨h2, _, m, #[], #[], rfl, F2, fun b o _ _ _ e => hx2 _ _ (hx1 _ _ e), m0, m4, m5, (hb.at fun o e => hx1 _ o e).at fun o e => hx2 _ o e, .nil, (hd.at fun o e => hx1 _ o e).at fun o e => hx2 _ o e, .nil⟩
  · rintro i v s3 h3 tk hi ⟨h', k, m', items, lits, rfl, F', K', q0, q4, q5, hb', hx', hd', hp'⟩ hSt hv hst3 hk3
    have ek : Heap.ExtBut h1.objs.size h' h3 := fun b o hb e => hk3 b o (by simpa using hb) e
    have hgI : g.objs.size ≤ h1.objs.size := by
      exact Nat.le_trans F.fresh (Nat.le_trans (Nat.le_of_lt (by obtain ⟨o, _, _, e, _⟩ := F.ns; exact Heap.lt_size e : L < h.objs.size)) (Nat.le_trans hD (Nat.le_of_lt hDlt)))
    have F3 := F'.butIt hSt.1 hgI ek
    have hb3 := hb'.extBut ek Ib.symm
    have hd3 := hd'.extBut ek Id.symm
    have hp3 := TupIs.keep ek (notTup_it hSt.1) hp'
    refine wpAny_assign_Name (wSt F3.ns fun h4 n4 s4 => ?_)
    have F4 := F3.stL n4 s4
    have hb4 := PlainList.upL hb3 F3.ns s4
    have hd4 := PlainList.upL hd3 F3.ns s4
    have hp4 := TupIs.keep s4.extBut (notTup_ns F3.ns) hp3
    obtain ⟨c, hc, tc, rfl⟩ : ∃ c, cs[i]? = some c ∧ RI v c := by
      have hv' : citems.toList[i]? = some v := by
        have : (citems.toList.take 5)[i]? = some v := by simpa using hv
        rw [List.getElem?_take, if_pos hi] at this; exact this
      exact Paired.getL hcs hv'
    dsimp only at F4 ⊢
    refine names_part w A g L s h4 _ _ cm c tc _ R F4 rfl fun h5 k5 m5' F5 K5 mm ⟨t1, e1⟩ ⟨t2, e2⟩ ⟨t3, e3⟩ => ?_
    have hne : ∀ {a : Addr} {its : Array Value}, h4.IsList a its → a ≠ L := fun hl => ne_ns hl F4.ns
    have hb5 := hb4.at fun o e => K5 _ o (hne hb4.isList) e
    have hd5 := hd4.at fun o e => K5 _ o (hne hd4.isList) e
    have hp5 := TupIs.keep (fun b o hb e => K5 b o hb e) (notTup_ns F4.ns) hp4
    have hcell : ∀ x, x ≠ (Str.ofString "signs") → x ≠ (Str.ofString "pieces") → x ≠ (Str.ofString "typed") → x ≠ (Str.ofString "meant") → x ≠ (Str.ofString "name") → x ≠ (Str.ofString "cell") → m5' x = m' x := fun x a1 a2 a3 a4 a5 a6 => (mm x a1 a2 a3 a4 a5).trans (if_neg a6)
    have u0 : m5' "cells" = some (.ref cl) := (hcell _ (by decide +kernel) (by decide +kernel) (by decide +kernel) (by decide +kernel) (by decide +kernel) (by decide +kernel)).trans q0
    have u4 : m5' "book" = some (.ref bk) := (hcell _ (by decide +kernel) (by decide +kernel) (by decide +kernel) (by decide +kernel) (by decide +kernel) (by decide +kernel)).trans q4
    have u5 : m5' "laid" = some (.ref ld) := (hcell _ (by decide +kernel) (by decide +kernel) (by decide +kernel) (by decide +kernel) (by decide +kernel) (by decide +kernel)).trans q5
    have I5 := lays_inv cs i
    have L1 := lays_len1 cs i
    have L2 := lays_len2 cs i
    have hlst : ∀ {b : Addr} {o : Obj}, b ≠ L → h3.get? b = some o → h5.get? b = some o := fun hb e => K5 _ _ hb (s4.extBut _ _ hb e)
    refine lay_part w A g L s h5 k5 m5' cm c _ R F5 e1 e2 e3 u4 u5 hb5 hx' hd5 hp5 hbl hbg hlg I5.rise (fun y => I5.mem y) (by omega) (by omega) fun h6 k6 m6 items6 lits6 F6 K6 mm6 hb6 hx6 hd6 hp6 => ?_
    refine ⟨⟨h6, k6, m6, items6, lits6, rfl, F6, fun b o h1 h2 h3 e => ?_, (mm6 _ (by decide +kernel) (by decide +kernel)).trans u0, (mm6 _ (by decide +kernel) (by decide +kernel)).trans u4, (mm6 _ (by decide +kernel) (by decide +kernel)).trans u5, hb6, ?_, hd6, ?_⟩, ?_⟩
    · refine K6 b o h1 h2 h3 (hlst h1 (ek b o ?_ (K' b o h1 h2 h3 e)))
      intro q
      exact lt1 b (Heap.lt_size e) q.symm
    · rw [lays_succ hc]; exact hx6
    · rw [lays_succ hc]; exact hp6
    · obtain ⟨o, ho, r⟩ := hst3.1
      obtain ⟨o2, ho2, r2⟩ := hst3.2
      exact ⟨⟨o, K6 _ o IL Ib Id (hlst IL ho), r⟩, ⟨o2, K6 _ o2 DL Db Dd (hlst DL ho2), r2⟩⟩
  · rintro s3 h3 tk ⟨h', k, m', items, lits, rfl, F', K', q0, q4, q5, hb', hx', hd', hp'⟩ hSt hk3
    have ek : Heap.ExtBut h1.objs.size h' h3 := fun b o hb e => hk3 b o (by simpa using hb) e
    have hgI : g.objs.size ≤ h1.objs.size := by
      exact Nat.le_trans F.fresh (Nat.le_trans (Nat.le_of_lt (by obtain ⟨o, _, _, e, _⟩ := F.ns; exact Heap.lt_size e : L < h.objs.size)) (Nat.le_trans hD (Nat.le_of_lt hDlt)))
    have F3 := F'.butIt hSt.1 hgI ek
    have hb3 := hb'.extBut ek Ib.symm
    have hd3 := hd'.extBut ek Id.symm
    have hp3 := TupIs.keep ek (notTup_it hSt.1) hp'
    refine wpAny_execs_nil ?_
    refine hK h3 tk m' items lits F3 (fun b o h1 h2 h3 e => ek b o ?_ (K' b o h1 h2 h3 e)) q0 q4 q5 hb3 hx' hd3 hp3
    intro q
    exact lt1 b (Heap.lt_size e) q.symm
end Mine

namespace Mine
open PySem PySem.W PySem.Calls PyProof.Rows

/-! ## sorting at most five things, all unlike -/
noncomputable def evalT {α : Type} (lt : Nat → Nat → Bool) : KasT α → α
  | .ret a => a
  | .ask i j k => evalT lt (k (lt i j))
noncomputable def okT {α : Type} (n : Nat) (lt : Nat → Nat → Bool) : KasT α → Bool
  | .ret _ => true
  | .ask i j k => decide (i < n) && decide (j < n) && okT n lt (k (lt i j))
theorem kasWp_eval {α : Type} {cmp : Nat → Nat → (Bool → Shared → Prop) → Shared → Prop} {lt : Nat → Nat → Bool} {n : Nat} {s : Shared} (hc : ∀ i j C, i < n → j < n → C (lt i j) s → cmp i j C s) {Q : α → Shared → Prop} :
    ∀ t : KasT α, okT n lt t = true → Q (evalT lt t) s → t.kasWp cmp Q s
  | .ret a, _, h => h
  | .ask i j k, ok, h => by
    simp only [okT, Bool.and_eq_true, decide_eq_true_eq] at ok
    exact hc i j _ ok.1.1 ok.1.2 (kasWp_eval hc (k (lt i j)) ok.2 h)
noncomputable def allL (b : Nat) : Nat → List (List Nat)
  | 0 => [[]]
  | k + 1 => (allL b k).flatMap fun l => (List.range b).map (· :: l)
theorem mem_allL {b : Nat} : ∀ {l : List Nat}, (∀ x ∈ l, x < b) → l ∈ allL b l.length
  | [], _ => List.mem_singleton.mpr rfl
  | x :: l, h => List.mem_flatMap.mpr ⟨l, mem_allL fun y hy => h y (List.mem_cons_of_mem _ hy), List.mem_map.mpr ⟨x, List.mem_range.mpr (h x (List.mem_cons_self ..)), rfl⟩⟩
noncomputable def noDup : List Nat → Bool
  | [] => true
  | x :: l => !l.contains x && noDup l
theorem noDup_of {l : List Nat} (h : l.Pairwise (· ≠ ·)) : noDup l = true := by
  induction l with
  | nil => rfl
  | cons x r ih =>
    obtain ⟨h1, h2⟩ := List.pairwise_cons.mp h
    unfold noDup
    rw [ih h2, Bool.and_true, Bool.not_eq_true', ← Bool.not_eq_true]
    intro q
    exact h1 x (List.contains_iff_mem.mp q) rfl
noncomputable def rkLt (rk : List Nat) (i j : Nat) : Bool := decide (rk.getD i 0 < rk.getD j 0)
theorem sort5 : ([2, 3, 4, 5].all fun n => (allL n n).all fun rk => !noDup rk || (okT n (rkLt rk) (kas_sort n) && ((evalT (rkLt rk) (kas_sort n)).toList.map (rk.getD · 0) == List.range n) && (evalT (rkLt rk) (kas_sort n)).toList.all fun i => decide (i < n))) = true := by decide +kernel
theorem sort_rank {n : Nat} (h2 : 2 ≤ n) (h5 : n ≤ 5) {rk : List Nat} (hl : rk.length = n) (hlt : ∀ x ∈ rk, x < n) (hd : rk.Pairwise (· ≠ ·)) :
    okT n (rkLt rk) (kas_sort n) = true ∧ (evalT (rkLt rk) (kas_sort n)).toList.map (rk.getD · 0) = List.range n ∧ ∀ i ∈ (evalT (rkLt rk) (kas_sort n)).toList, i < n := by
  have hn : n ∈ [2, 3, 4, 5] := by
    rcases (by omega : n = 2 ∨ n = 3 ∨ n = 4 ∨ n = 5) with rfl | rfl | rfl | rfl <;> simp
  have h1 := List.all_eq_true.mp sort5 n hn
  have hm := mem_allL hlt
  rw [hl] at hm
  have h3 := List.all_eq_true.mp h1 rk hm
  rw [noDup_of hd] at h3
  simp only [Bool.not_true, Bool.false_or, Bool.and_eq_true, beq_iff_eq] at h3
  exact ⟨h3.1.1, h3.1.2, fun i hi => of_decide_eq_true (List.all_eq_true.mp h3.2 i hi)⟩
end Mine

namespace Mine
open PySem PySem.W PySem.Calls PyProof.Rows

theorem sortTree {w : World} {A : Around} {s : Shared} {a : Addr} {vs : List Value} {n : Nat} {P : PySem.Fin → Shared → Prop} {κ : SortKind} {lt : Nat → Nat → Bool} (ho : s.heap.get? a = some (seqObj "list" vs.toArray n)) (h2 : 2 ≤ vs.length) (h64 : vs.length < 64)
    (hkind : ∀ s' : Shared, Heap.ExtBut a s.heap s'.heap → ∀ Q : SortKind → Shared → Prop, Q κ s' → Wp w A (keyKind' vs.toArray) Q s')
    (hask : ∀ s' : Shared, Heap.ExtBut a s.heap s'.heap → ∀ i j C, i < vs.length → j < vs.length → C (lt i j) s' → kas_ask pw w A κ vs i j C s')
    (hok : okT vs.length lt (kas_sort vs.length) = true)
    (h : ∀ p : Array Nat, p = evalT lt (kas_sort vs.length) → p.size = vs.length → P (.done (.ret .none)) { s with heap := sortedHeap s.heap a vs (List.toArray (p.toList.map fun i => vs.getD i Value.none)) }) :
    Wp w A (Builtin.«list.sort» ⟨[.ref a], []⟩) P s := by
  rw [list_sort_plain]
  have ha : a < s.heap.objs.size := Heap.lt_size ho
  refine wpAny_bind (listItems_at ho rfl ?_)
  refine wpAny_bind (listUpdate_at ho rfl ?_ (by rw [List.size_toArray, sizeLine_eq]; omega) (Nat.zero_le _))
  obtain ⟨e1, ho1⟩ : ∃ e1, (s.heap.update a (Obj.mapSeq fun _ => #[])).get? a = some (seqObj "list" #[] e1) := ⟨_, get?_update_seq ho (fun _ => #[])⟩
  refine wpAny_bind (seqEpoch_at ho1 rfl ?_)
  refine wpAny_bind (wpAny_newTuple ?_ (by show vs.length ≤ _; rw [sizeLine_eq]; omega))
  refine wpAny_bind (wpAny_newList ?_ (Nat.zero_le _))
  refine wpAny_holding ?_
  have ho6 : (((s.heap.update a (Obj.mapSeq fun _ => #[])).push (seqObj "tuple" vs.toArray 0)).push (seqObj "list" #[] 0)).get? a = some (seqObj "list" #[] e1) := by
    rw [Heap.get?_push_ne _ _ _ (by rw [size_push', Heap.size_update]; exact Nat.ne_of_lt (Nat.lt_succ_of_lt ha)), Heap.get?_push_ne _ _ _ (by rw [Heap.size_update]; exact Nat.ne_of_lt ha)]
    exact ho1
  have hx : Heap.ExtBut a s.heap (((s.heap.update a (Obj.mapSeq fun _ => #[])).push (seqObj "tuple" vs.toArray 0)).push (seqObj "list" #[] 0)) := fun b o hb e =>
    Heap.get?_push_of_some _ (Heap.get?_push_of_some _ ((Heap.SameBut.update s.heap a _).extBut b o hb e))
  show Wp w A _ P { s with heap := ((s.heap.update a (Obj.mapSeq fun _ => #[])).push (seqObj "tuple" vs.toArray 0)).push (seqObj "list" #[] 0) }
  dsimp only
  have hn2 : ¬ vs.toArray.size < 2 := by rw [List.size_toArray]; omega
  rw [if_neg hn2, if_neg hn2]
  refine wpAny_bind (hkind { s with heap := _ } hx _ ?_)
  refine wpAny_bind (wpAny_mono (kat_run (prog := pw) (w := w) (A := A) (E := fun _ _ => False) (Q := fun st' s' => s' = { s with heap := ((s.heap.update a (Obj.mapSeq fun _ => #[])).push (seqObj "tuple" vs.toArray 0)).push (seqObj "list" #[] 0) } ∧ ∃ p : Array Nat, p = evalT lt (kas_sort vs.length) ∧ p.size = vs.length ∧ arrOf st' = p.map (kas_item (vs.toArray.zip vs.toArray)) ∧ failedOf st' = none)
    (G := fun p s' => s' = { s with heap := ((s.heap.update a (Obj.mapSeq fun _ => #[])).push (seqObj "tuple" vs.toArray 0)).push (seqObj "list" #[] 0) } ∧ p = evalT lt (kas_sort vs.length)) (ks := vs) rfl h2 h64 (fun p' st' s' a1 a2 a3 a4 => ⟨a4.1, p', a4.2, a1, a2, a3⟩) (kasWp_eval (fun i j C hi hj hc => hask _ hx i j C hi hj hc) _ hok ⟨rfl, rfl⟩)) ?_ fun _ _ e => e)
  rintro ⟨⟨⟩, st'⟩ s' ⟨rfl, p, hp, hps, har, hf⟩
  dsimp only
  have hout := kat_snds (ks := vs) (vs := vs) rfl har
  have hsz : (List.toArray (p.toList.map fun i => vs.getD i Value.none)).size = vs.length := by rw [List.size_toArray, List.length_map, Array.length_toList, hps]
  rw [hout]
  refine wpAny_bind (seqEpoch_at ho6 rfl ?_)
  refine wpAny_bind (listUpdate_at ho6 rfl ?_ (Nat.zero_le _) (Nat.le_trans (Nat.le_of_eq hsz) (by rw [sizeLine_eq]; omega)))
  rw [hf]
  simp only [bne_self_eq_false, Bool.false_eq_true, if_false]
  exact wpAny_pure (h p hp hps)
theorem sortedTree {w : World} {A : Around} {s : Shared} {l : Addr} {vs : List Value} {Q : Value → Shared → Prop} {κ : SortKind} {lt : Nat → Nat → Bool} (hl : s.heap.IsList l vs.toArray) (h2 : 2 ≤ vs.length) (h64 : vs.length < 64)
    (hkind : ∀ s' : Shared, Ext s.heap s'.heap → ∀ Q : SortKind → Shared → Prop, Q κ s' → Wp w A.in1.in1 (keyKind' vs.toArray) Q s')
    (hask : ∀ s' : Shared, Ext s.heap s'.heap → ∀ i j C, i < vs.length → j < vs.length → C (lt i j) s' → kas_ask pw w A.in1.in1 κ vs i j C s')
    (hok : okT vs.length lt (kas_sort vs.length) = true)
    (h : ∀ h' D k, Ext s.heap h' → s.heap.objs.size ≤ D → h'.PlainList D (List.toArray ((evalT lt (kas_sort vs.length)).toList.map fun i => vs.getD i Value.none)) → Q (.ref D) { s with heap := h', toks := k }) :
    Wp w A (call (.builtin "sorted") [.ref l]) Q s := by
  refine Calls.call_function_entry kind_sorted plain_sorted entry_sorted (args_sorted1 _) ?_
  unfold Builtin.«sorted»
  refine wpAny_bind (m := checkCount "sorted" 1 1 _) (wpAny_pure ?_)
  refine wpAny_bind (collect_list hl ?_ (by rw [sizeLine_eq]; omega))
  refine wpAny_bind (wpAny_newList ?_ (by rw [sizeLine_eq]; omega))
  have hsz : ((s.heap.push (seqObj "list" #[] 0)).update s.heap.objs.size (Obj.mapSeq (· ++ vs.toArray))).objs.size = s.heap.objs.size + 1 := by
    rw [Heap.size_update, size_push']
  have hoL : (((s.heap.push (seqObj "list" #[] 0)).update s.heap.objs.size (Obj.mapSeq (· ++ vs.toArray))).push (seqObj "list" vs.toArray 0)).get? (s.heap.objs.size + 1) = some (seqObj "list" vs.toArray 0) := by
    rw [← hsz]; exact Heap.get?_push_size _ rfl
  have keep : Ext s.heap (((s.heap.push (seqObj "list" #[] 0)).update s.heap.objs.size (Obj.mapSeq (· ++ vs.toArray))).push (seqObj "list" vs.toArray 0)) := fun b o q => by
    have hlt : b < s.heap.objs.size := Heap.lt_size q
    rw [Heap.get?_push_ne _ _ _ (by rw [hsz]; exact Nat.ne_of_lt (Nat.lt_succ_of_lt hlt)), Heap.get?_update_ne _ _ _ _ (Nat.ne_of_lt hlt), Heap.get?_push_ne _ _ _ (Nat.ne_of_lt hlt)]
    exact q
  show wpAny _ _ _ _ _ { s with heap := ((s.heap.push (seqObj "list" #[] 0)).update s.heap.objs.size (Obj.mapSeq (· ++ vs.toArray))).push (seqObj "list" vs.toArray 0) }
  rw [hsz]
  have up : ∀ {h' : Heap}, Heap.ExtBut (s.heap.objs.size + 1) (((s.heap.push (seqObj "list" #[] 0)).update s.heap.objs.size (Obj.mapSeq (· ++ vs.toArray))).push (seqObj "list" vs.toArray 0)) h' → Ext s.heap h' := fun e b o q =>
    e b o (Nat.ne_of_lt (Nat.lt_succ_of_lt (Heap.lt_size q))) (keep b o q)
  refine wpAny_bind (wpAny_holding (wpAny_call_entry slot_list_sort ⟨_, hoL, rfl⟩ entry_list_sort (sortTree hoL h2 h64 (fun s' hs' => hkind s' (up hs')) (fun s' hs' => hask s' (up hs')) hok fun p hp hps => ⟨_, rfl, ?_⟩) (args_list_sort _)))
  refine wpAny_pure ⟨_, rfl, ?_⟩
  subst hp
  refine h _ _ _ (up fun b o hb e => ?_) (Nat.le_succ _) ?_
  · rw [sortedHeap_old hb (Heap.lt_size e)]; exact e
  · obtain ⟨e, he⟩ := sortedHeap_at (out := List.toArray ((evalT lt (kas_sort vs.length)).toList.map fun i => vs.getD i Value.none)) hoL
    exact ⟨e, he⟩
end Mine

namespace Mine
open PySem PySem.W PySem.Calls PyProof.Rows

theorem sortTree0 {w : World} {A : Around} {s : Shared} {a : Addr} {vs : List Value} {n : Nat} {P : PySem.Fin → Shared → Prop} (ho : s.heap.get? a = some (seqObj "list" vs.toArray n)) (h2 : vs.length < 2)
    (h : P (.done (.ret .none)) { s with heap := sortedHeap s.heap a vs vs.toArray }) :
    Wp w A (Builtin.«list.sort» ⟨[.ref a], []⟩) P s := by
  rw [list_sort_plain]
  have ha : a < s.heap.objs.size := Heap.lt_size ho
  refine wpAny_bind (listItems_at ho rfl ?_)
  refine wpAny_bind (listUpdate_at ho rfl ?_ (by rw [List.size_toArray, sizeLine_eq]; omega) (Nat.zero_le _))
  obtain ⟨e1, ho1⟩ : ∃ e1, (s.heap.update a (Obj.mapSeq fun _ => #[])).get? a = some (seqObj "list" #[] e1) := ⟨_, get?_update_seq ho (fun _ => #[])⟩
  refine wpAny_bind (seqEpoch_at ho1 rfl ?_)
  refine wpAny_bind (wpAny_newTuple ?_ (by show vs.length ≤ _; rw [sizeLine_eq]; omega))
  refine wpAny_bind (wpAny_newList ?_ (Nat.zero_le _))
  refine wpAny_holding ?_
  have ho6 : (((s.heap.update a (Obj.mapSeq fun _ => #[])).push (seqObj "tuple" vs.toArray 0)).push (seqObj "list" #[] 0)).get? a = some (seqObj "list" #[] e1) := by
    rw [Heap.get?_push_ne _ _ _ (by rw [size_push', Heap.size_update]; exact Nat.ne_of_lt (Nat.lt_succ_of_lt ha)), Heap.get?_push_ne _ _ _ (by rw [Heap.size_update]; exact Nat.ne_of_lt ha)]
    exact ho1
  show Wp w A _ P { s with heap := ((s.heap.update a (Obj.mapSeq fun _ => #[])).push (seqObj "tuple" vs.toArray 0)).push (seqObj "list" #[] 0) }
  dsimp only
  have hn2 : vs.toArray.size < 2 := by rw [List.size_toArray]; omega
  rw [if_pos hn2, if_pos hn2]
  refine wpAny_bind (wpAny_pure ?_)
  rw [StateT.run_pure]
  refine wpAny_bind (wpAny_pure ?_)
  dsimp only
  have eo : (Array.map (·.2) (arrOf (SortSt.mk' general' (vs.toArray.zip vs.toArray) #[] 7 none))) = vs.toArray := by
    show (Array.map (·.2) (vs.toArray.zip vs.toArray)) = vs.toArray
    apply Array.toList_inj.mp
    simp [Array.toList_zip, List.map_snd_zip]
  refine wpAny_bind (seqEpoch_at ho6 rfl ?_)
  refine wpAny_bind (listUpdate_at ho6 rfl ?_ (Nat.zero_le _) (by rw [eo, List.size_toArray, sizeLine_eq]; omega))
  simp only [bne_self_eq_false, Bool.false_eq_true, if_false]
  rw [eo]
  exact wpAny_pure h
theorem sortedTree0 {w : World} {A : Around} {s : Shared} {l : Addr} {vs : List Value} {Q : Value → Shared → Prop} (hl : s.heap.IsList l vs.toArray) (h2 : vs.length < 2)
    (h : ∀ h' D k, Ext s.heap h' → s.heap.objs.size ≤ D → h'.PlainList D vs.toArray → Q (.ref D) { s with heap := h', toks := k }) :
    Wp w A (call (.builtin "sorted") [.ref l]) Q s := by
  refine Calls.call_function_entry kind_sorted plain_sorted entry_sorted (args_sorted1 _) ?_
  unfold Builtin.«sorted»
  refine wpAny_bind (m := checkCount "sorted" 1 1 _) (wpAny_pure ?_)
  refine wpAny_bind (collect_list hl ?_ (by rw [sizeLine_eq]; omega))
  refine wpAny_bind (wpAny_newList ?_ (by rw [sizeLine_eq]; omega))
  have hsz : ((s.heap.push (seqObj "list" #[] 0)).update s.heap.objs.size (Obj.mapSeq (· ++ vs.toArray))).objs.size = s.heap.objs.size + 1 := by
    rw [Heap.size_update, size_push']
  have hoL : (((s.heap.push (seqObj "list" #[] 0)).update s.heap.objs.size (Obj.mapSeq (· ++ vs.toArray))).push (seqObj "list" vs.toArray 0)).get? (s.heap.objs.size + 1) = some (seqObj "list" vs.toArray 0) := by
    rw [← hsz]; exact Heap.get?_push_size _ rfl
  have keep : Ext s.heap (((s.heap.push (seqObj "list" #[] 0)).update s.heap.objs.size (Obj.mapSeq (· ++ vs.toArray))).push (seqObj "list" vs.toArray 0)) := fun b o q => by
    have hlt : b < s.heap.objs.size := Heap.lt_size q
    rw [Heap.get?_push_ne _ _ _ (by rw [hsz]; exact Nat.ne_of_lt (Nat.lt_succ_of_lt hlt)), Heap.get?_update_ne _ _ _ _ (Nat.ne_of_lt hlt), Heap.get?_push_ne _ _ _ (Nat.ne_of_lt hlt)]
    exact q
  show wpAny _ _ _ _ _ { s with heap := ((s.heap.push (seqObj "list" #[] 0)).update s.heap.objs.size (Obj.mapSeq (· ++ vs.toArray))).push (seqObj "list" vs.toArray 0) }
  rw [hsz]
  have up : ∀ {h' : Heap}, Heap.ExtBut (s.heap.objs.size + 1) (((s.heap.push (seqObj "list" #[] 0)).update s.heap.objs.size (Obj.mapSeq (· ++ vs.toArray))).push (seqObj "list" vs.toArray 0)) h' → Ext s.heap h' := fun e b o q =>
    e b o (Nat.ne_of_lt (Nat.lt_succ_of_lt (Heap.lt_size q))) (keep b o q)
  refine wpAny_bind (wpAny_holding (wpAny_call_entry slot_list_sort ⟨_, hoL, rfl⟩ entry_list_sort (sortTree0 hoL h2 ⟨_, rfl, ?_⟩) (args_list_sort _)))
  refine wpAny_pure ⟨_, rfl, ?_⟩
  refine h _ _ _ (up fun b o hb e => ?_) (Nat.le_succ _) ?_
  · rw [sortedHeap_old hb (Heap.lt_size e)]; exact e
  · obtain ⟨e, he⟩ := sortedHeap_at (out := vs.toArray) hoL
    exact ⟨e, he⟩
end Mine

namespace Mine
open PySem PySem.W PySem.Calls PyProof.Rows

theorem eqBoolS {w : World} {A : Around} {s : Shared} {x y : List Nat} {t u : Tok} {Q : Bool → Shared → Prop} (h : Q (decide (x = y)) s) : Wp w A (eqBool (.str (mkS x) t) (.str (mkS y) u)) Q s := by
  refine PyProof.Rows.eqBool_str ?_
  have e : (mkS x == mkS y) = decide (x = y) := by
    rw [Bool.eq_iff_iff, beq_iff_eq, decide_eq_true_iff]
    exact ⟨mkS_inj, fun q => by rw [q]⟩
  rw [e]; exact h
/-- one question of the sort of laid -/
theorem askPairs {w : World} {A : Around} {s : Shared} {vs : List Value} {ps : List (List Nat × List Nat)} (hp : Paired (TupIs s.heap) vs ps) (hd : (ps.map (·.1)).Pairwise (· ≠ ·)) {i j : Nat} (hi : i < vs.length) (hj : j < vs.length) {C : Bool → Shared → Prop}
    (h : C (decide ((ps.getD i ([], [])).1 < (ps.getD j ([], [])).1)) s) : kas_ask pw w A (tuples' true) vs i j C s := by
  unfold kas_ask
  have gi : vs[i]? = some (vs.getD i .none) := by rw [List.getD_eq_getElem?_getD, List.getElem?_eq_getElem hi]; rfl
  have gj : vs[j]? = some (vs.getD j .none) := by rw [List.getD_eq_getElem?_getD, List.getElem?_eq_getElem hj]; rfl
  obtain ⟨p, hpi, a, t, u, e1, o, ho, hc, n, hd1⟩ := Paired.getL hp gi
  obtain ⟨q, hqj, b, t', u', e2, o', ho', hc', n', hd2⟩ := Paired.getL hp gj
  have ep : ps.getD i ([], []) = p := by rw [List.getD_eq_getElem?_getD, hpi]; rfl
  have eq : ps.getD j ([], []) = q := by rw [List.getD_eq_getElem?_getD, hqj]; rfl
  rw [ep, eq] at h
  rw [e1, e2]
  refine kat_lt ho hd1 ho' hd2 ?_
  refine kat_cons (eqBoolS ?_)
  by_cases he : p.1 = q.1
  · have hij : i = j := by
      have pi' : (ps.map (·.1))[i]? = some p.1 := by rw [List.getElem?_map, hpi]; rfl
      have pj' : (ps.map (·.1))[j]? = some q.1 := by rw [List.getElem?_map, hqj]; rfl
      obtain ⟨li, vi⟩ := List.getElem?_eq_some_iff.mp pi'
      obtain ⟨lj, vj⟩ := List.getElem?_eq_some_iff.mp pj'
      rcases Nat.lt_trichotomy i j with q' | q' | q'
      · exact absurd (vi.trans (he.trans vj.symm)) (List.pairwise_iff_getElem.mp hd i j li lj q')
      · exact q'
      · exact absurd (vj.trans (he.symm.trans vi.symm)) (List.pairwise_iff_getElem.mp hd j i lj li q')
    subst hij
    rw [hpi] at hqj; cases hqj
    rw [decide_eq_true rfl]
    refine kat_yes (kat_cons (eqBoolS ?_))
    rw [decide_eq_true rfl]
    refine kat_yes (kat_nil ?_)
    rw [decide_eq_false (List.lt_irrefl _)] at h
    exact h
  · rw [decide_eq_false he]
    exact kat_no (oneLt_str h)
theorem kindPairs {w : World} {A : Around} {s : Shared} {vs : List Value} {ps : List (List Nat × List Nat)} (hp : Paired (TupIs s.heap) vs ps) (hne : 0 < vs.length) {Q : SortKind → Shared → Prop} (h : Q (tuples' true) s) : Wp w A (keyKind' vs.toArray) Q s := by
  have : ∃ fs, KatTups s.heap vs fs ∧ fs.length = vs.length ∧ ∀ v ∈ fs, ∃ x t, v = .str x t := by
    clear hne h
    induction hp with
    | nil => exact ⟨[], KatTups.nil, rfl, fun v hv => by cases hv⟩
    | cons h1 h2 ih =>
      obtain ⟨fs, f1, f2, f3⟩ := ih
      obtain ⟨a, t, u, rfl, o, ho, hc, n, hd⟩ := h1
      refine ⟨_, KatTups.cons ho hc hd rfl f1, by rw [List.length_cons, List.length_cons, f2], fun v hv => ?_⟩
      rcases List.mem_cons.mp hv with rfl | hv
      · exact ⟨_, _, rfl⟩
      · exact f3 v hv
  obtain ⟨fs, f1, f2, f3⟩ := this
  refine kat_kind (T := .type "str") f1 (by omega) (fun v hv => ?_) (by decide) h
  obtain ⟨x, t, rfl⟩ := f3 v hv
  exact Looks.of_pure rfl
end Mine

namespace Mine
open PySem PySem.W PySem.Calls PyProof.Rows

/-! ## sorting what was laid gives the book -/
noncomputable def cntF (ms : List (List Nat)) (m : List Nat) : Nat := ms.countP fun x => decide (x < m)
theorem cntF_lt {ms : List (List Nat)} {a b : List Nat} (ha : a ∈ ms) (h : a < b) : cntF ms a < cntF ms b := by
  induction ms with
  | nil => cases ha
  | cons x r ih =>
    have mono : cntF r a ≤ cntF r b := List.countP_mono_left fun y _ hy => decide_eq_true (lt_tr (of_decide_eq_true hy) h)
    unfold cntF at *
    rw [List.countP_cons, List.countP_cons]
    rcases List.mem_cons.mp ha with rfl | ha
    · rw [if_neg (by simp [List.lt_irrefl]), if_pos (decide_eq_true h)]; omega
    · have := ih ha
      by_cases hx : x < a
      · rw [if_pos (decide_eq_true hx), if_pos (decide_eq_true (lt_tr hx h))]; omega
      · rw [if_neg (by simpa using hx)]
        split <;> omega
theorem cntF_iff {ms : List (List Nat)} {a b : List Nat} (ha : a ∈ ms) (hb : b ∈ ms) : a < b ↔ cntF ms a < cntF ms b := by
  refine ⟨cntF_lt ha, fun h => ?_⟩
  by_cases q : a < b
  · exact q
  · exfalso
    by_cases e : a = b
    · subst e; exact Nat.lt_irrefl _ h
    · have := cntF_lt hb (lt_or q e)
      omega
theorem cntF_bound {ms : List (List Nat)} {a : List Nat} (ha : a ∈ ms) : cntF ms a < ms.length := by
  induction ms with
  | nil => cases ha
  | cons x r ih =>
    unfold cntF at *
    rw [List.countP_cons, List.length_cons]
    have hle : r.countP (fun x => decide (x < a)) ≤ r.length := List.countP_le_length
    rcases List.mem_cons.mp ha with rfl | ha
    · rw [if_neg (by simp [List.lt_irrefl])]; omega
    · have := ih ha
      split <;> omega
/-- ranks in a rising list -/
theorem cntF_rise {ms : List (List Nat)} (h : ms.Pairwise (· < ·)) (k : Nat) (a : List Nat) (hk : ms[k]? = some a) : cntF ms a = k := by
  have hp : ms.Pairwise fun x y => (decide (y < a)) = true → (decide (x < a)) = true := h.imp fun {x y} hxy q => decide_eq_true (lt_tr hxy (of_decide_eq_true q))
  have key := cnt_iff (p := fun x => decide (x < a)) hp
  have h1 : ¬ k < cntF ms a := fun q => by
    have := (key k a hk).mpr q
    exact List.lt_irrefl _ (of_decide_eq_true this)
  have hkl : k < ms.length := (List.getElem?_eq_some_iff.mp hk).1
  rcases Nat.lt_or_ge (cntF ms a) k with q | q
  · exfalso
    have hr : ms[cntF ms a]? = some (ms[cntF ms a]'(by omega)) := List.getElem?_eq_getElem (by omega)
    have lt : ms[cntF ms a]'(by omega) < a := by
      have h2 := List.pairwise_iff_getElem.mp h (cntF ms a) k (by omega) hkl q
      obtain ⟨_, e⟩ := List.getElem?_eq_some_iff.mp hk
      rw [e] at h2; exact h2
    exact Nat.lt_irrefl _ ((key _ _ hr).mp (decide_eq_true lt))
  · omega
theorem cntF_perm {a b : List (List Nat)} (h : a.Perm b) (m : List Nat) : cntF a m = cntF b m := h.countP_eq _
theorem ne_of_rise {ms : List (List Nat)} (h : ms.Pairwise (· < ·)) : ms.Pairwise (· ≠ ·) := h.imp fun {a b} q e => by subst e; exact List.lt_irrefl _ q
theorem firsts_ne {xs : List (List Nat)} {ps : List (List Nat × List Nat)} (h : Inv (xs, ps)) : (ps.map (·.1)).Pairwise (· ≠ ·) := by
  have e : (xs.map fun t => (prep t, t)).map (·.1) = xs.map prep := by rw [List.map_map]; rfl
  have hp : (xs.map prep).Perm (ps.map (·.1)) := by rw [← e]; exact h.perm.map _
  exact (hp.pairwise_iff (fun {a b} q => q.symm)).mp (ne_of_rise h.rise)
theorem sorted_book {xs : List (List Nat)} {ps : List (List Nat × List Nat)} (h : Inv (xs, ps)) (h2 : 2 ≤ ps.length) (h5 : ps.length ≤ 5) :
    okT ps.length (rkLt (ps.map fun q => cntF (ps.map (·.1)) q.1)) (kas_sort ps.length) = true ∧
      (evalT (rkLt (ps.map fun q => cntF (ps.map (·.1)) q.1)) (kas_sort ps.length)).toList.map (fun i => ps.getD i ([], [])) = (xs.map fun t => (prep t, t)) ∧ ∀ i ∈ (evalT (rkLt (ps.map fun q => cntF (ps.map (·.1)) q.1)) (kas_sort ps.length)).toList, i < ps.length := by
  have hlen : xs.length = ps.length := by have := h.perm.length_eq; rwa [List.length_map] at this
  have e : (xs.map fun t => (prep t, t)).map (·.1) = xs.map prep := by rw [List.map_map]; rfl
  have hpm : (xs.map prep).Perm (ps.map (·.1)) := by rw [← e]; exact h.perm.map _
  have hmem : ∀ q ∈ ps, q.1 ∈ ps.map (·.1) := fun q hq => List.mem_map_of_mem hq
  have hne := firsts_ne h
  have hrk : ∀ x ∈ ps.map (fun q => cntF (ps.map (·.1)) q.1), x < ps.length := by
    intro x hx
    obtain ⟨q, hq, rfl⟩ := List.mem_map.mp hx
    have := cntF_bound (hmem q hq)
    rwa [List.length_map] at this
  have hd : (ps.map fun q => cntF (ps.map (·.1)) q.1).Pairwise (· ≠ ·) := by
    rw [List.pairwise_map]
    have h1 : ps.Pairwise fun a b => a.1 ≠ b.1 := List.pairwise_map.mp hne
    refine h1.imp_of_mem fun {a b} ha hb hab heq => ?_
    by_cases q : a.1 < b.1
    · have := cntF_lt (hmem a ha) q; omega
    · have := cntF_lt (hmem b hb) (lt_or q hab); omega
  obtain ⟨r1, r2, r3⟩ := sort_rank h2 h5 (by rw [List.length_map]) hrk hd
  refine ⟨r1, ?_, r3⟩
  generalize (evalT (rkLt (ps.map fun q => cntF (ps.map (·.1)) q.1)) (kas_sort ps.length)).toList = es at r2 r3
  have hel : es.length = ps.length := by have := congrArg List.length r2; simpa using this
  apply List.ext_getElem
  · rw [List.length_map, List.length_map, hel, hlen]
  intro k hk1 hk2
  rw [List.getElem_map, List.getElem_map]
  rw [List.length_map] at hk1 hk2
  have hik : es[k] < ps.length := r3 _ (List.getElem_mem hk1)
  have hr : cntF (ps.map (·.1)) (ps[es[k]]).1 = k := by
    have a1 : (es.map ((ps.map fun q => cntF (ps.map (·.1)) q.1).getD · 0))[k]? = (List.range ps.length)[k]? := by rw [r2]
    rw [List.getElem?_map, List.getElem?_eq_getElem hk1, List.getElem?_range (by omega)] at a1
    simp only [Option.map_some, Option.some.injEq] at a1
    rw [List.getD_eq_getElem?_getD, List.getElem?_map, List.getElem?_eq_getElem hik] at a1
    exact a1
  have hx : (prep xs[k], xs[k]) ∈ ps := h.perm.mem_iff.mp (List.mem_map.mpr ⟨xs[k], List.getElem_mem _, rfl⟩)
  have hr2 : cntF (ps.map (·.1)) (prep xs[k]) = k := by
    rw [← cntF_perm hpm]
    exact cntF_rise h.rise k _ (by rw [List.getElem?_map, List.getElem?_eq_getElem hk2]; rfl)
  have hpi : ps[es[k]] ∈ ps := List.getElem_mem _
  have ef : (ps[es[k]]).1 = prep xs[k] := by
    by_cases q : (ps[es[k]]).1 < prep xs[k]
    · have := cntF_lt (hmem _ hpi) q; omega
    · by_cases q2 : (ps[es[k]]).1 = prep xs[k]
      · exact q2
      · have q3 : cntF (ps.map (·.1)) (prep xs[k]) < cntF (ps.map (·.1)) (ps[es[k]]).1 := cntF_lt (hmem _ hx) (lt_or q q2)
        omega
  have eg : ps.getD es[k] ([], []) = ps[es[k]] := by rw [List.getD_eq_getElem?_getD, List.getElem?_eq_getElem hik]; rfl
  rw [eg]
  obtain ⟨j, hj⟩ := List.mem_iff_getElem?.mp hx
  obtain ⟨hjl, hjv⟩ := List.getElem?_eq_some_iff.mp hj
  have hij : es[k] = j := by
    have pi' : ∀ (i : Nat) (hi : i < ps.length), (ps.map (·.1))[i]'(by rw [List.length_map]; exact hi) = (ps[i]).1 := fun i hi => List.getElem_map ..
    rcases Nat.lt_trichotomy es[k] j with q | q | q
    · exact absurd ((pi' _ hik).trans (ef.trans ((congrArg Prod.fst hjv).symm.trans (pi' _ hjl).symm))) (List.pairwise_iff_getElem.mp hne _ _ _ _ q)
    · exact q
    · exact absurd ((pi' _ hjl).trans ((congrArg Prod.fst hjv).trans (ef.symm.trans (pi' _ hik).symm))) (List.pairwise_iff_getElem.mp hne _ _ _ _ q)
  have : ps[es[k]] = ps[j] := by congr 1
  rw [this, hjv]
end Mine

namespace Mine
open PySem PySem.W PySem.Calls PyProof.Rows

theorem TupIs.ext {h h' : Heap} (e : Ext h h') {vs : List Value} {ps : List (List Nat × List Nat)} (x : Paired (TupIs h) vs ps) : Paired (TupIs h') vs ps :=
  Paired.mono (fun v q hq => by
    obtain ⟨b, t, u, rfl, hb⟩ := hq
    exact ⟨b, t, u, rfl, hb.keeps e⟩) x
/-- sorted(laid) -/
theorem sortedLaid (w : World) (A : Around) (s : Shared) (Q : Value → Shared → Prop) {l : Addr} {items : Array Value} {xs : List (List Nat)} {ps : List (List Nat × List Nat)} (hl : s.heap.IsList l items) (hp : Paired (TupIs s.heap) items.toList ps) (hI : Inv (xs, ps)) (h5 : ps.length ≤ 5)
    (hQ : ∀ h' D k items', Ext s.heap h' → s.heap.objs.size ≤ D → h'.PlainList D items' → Paired (TupIs s.heap) items'.toList (xs.map fun t => (prep t, t)) → Q (.ref D) { s with heap := h', toks := k }) :
    Wp w A (call (.builtin "sorted") [.ref l]) Q s := by
  have hl' : s.heap.IsList l items.toList.toArray := by rw [Array.toArray_toList]; exact hl
  have hlen := hp.length
  by_cases h2 : ps.length < 2
  · refine sortedTree0 hl' (by omega) fun h' D k hx hD hpl => hQ h' D k _ hx hD hpl ?_
    have e : ps = xs.map fun t => (prep t, t) := by
      have := hI.perm.length_eq
      rw [List.length_map] at this
      match ps, xs, hI.perm, h2, this with
      | [], [], _, _, _ => rfl
      | [p], [x], hp, _, _ => exact (List.singleton_perm_singleton.mp hp).symm ▸ rfl
    rw [← e]
    exact hp
  · obtain ⟨o1, o2, o3⟩ := sorted_book hI (by omega) h5
    rw [← hlen] at o1 o2 o3
    refine sortedTree (κ := tuples' true) hl' (by omega) (by omega) (fun s' hx Q' hq => kindPairs (TupIs.ext hx hp) (by omega) hq) (fun s' hx i j C hi hj hc => askPairs (TupIs.ext hx hp) (firsts_ne hI) hi hj ?_) o1 fun h' D k hx hD hpl => hQ h' D k _ hx hD hpl ?_
    · have hi' : i < ps.length := by omega
      have hj' : j < ps.length := by omega
      have e : rkLt (ps.map fun q => cntF (ps.map (·.1)) q.1) i j = decide ((ps.getD i ([], [])).1 < (ps.getD j ([], [])).1) := by
        unfold rkLt
        rw [List.getD_eq_getElem?_getD, List.getD_eq_getElem?_getD, List.getElem?_map, List.getElem?_map, List.getD_eq_getElem?_getD, List.getD_eq_getElem?_getD, List.getElem?_eq_getElem hi', List.getElem?_eq_getElem hj']
        rw [Bool.eq_iff_iff, decide_eq_true_iff, decide_eq_true_iff]
        exact (cntF_iff (List.mem_map_of_mem (List.getElem_mem _)) (List.mem_map_of_mem (List.getElem_mem _))).symm
      rw [← e]; exact hc
    · rw [← o2]
      have : ∀ es : List Nat, (∀ i ∈ es, i < items.toList.length) → Paired (TupIs s.heap) (es.map fun i => items.toList.getD i Value.none) (es.map fun i => ps.getD i ([], [])) := by
        intro es hes
        induction es with
        | nil => exact .nil
        | cons i r ih =>
          refine .cons ?_ (ih fun j hj => hes j (List.mem_cons_of_mem _ hj))
          have hi := hes i (List.mem_cons_self ..)
          have gi : items.toList[i]? = some (items.toList.getD i .none) := by rw [List.getD_eq_getElem?_getD, List.getElem?_eq_getElem hi]; rfl
          obtain ⟨q, hq, hT⟩ := Paired.getL hp gi
          dsimp only
          rw [show ps.getD i ([], []) = q by rw [List.getD_eq_getElem?_getD, hq]; rfl]
          exact hT
      exact this _ o3
end Mine

namespace Mine
open PySem PySem.W PySem.Calls PyProof.Rows

/-- two lists of the same texts: no difference -/
theorem neSame {w : World} {A : Around} {s : Shared} {l b : Addr} {items items2 : Array Value} {xs : List (List Nat)} {Q : Value → Shared → Prop} (hu : A.units < cLine) (hl : s.heap.IsList l items) (hb : s.heap.IsList b items2)
    (hx : Paired RS items.toList xs) (hy : Paired RS items2.toList xs) (h : Q (.bool false) s) : Wp w A (compareOp .NotEq (.ref l) (.ref b)) Q s := by
  have l1 := hx.length
  have l2 := hy.length
  have hsz : items.size = items2.size := by rw [← Array.length_toList, ← Array.length_toList, l1, l2]
  refine PySem.SeqAt.RcNeAt.lists (e := fun _ => true) hl hb hsz hu (fun j h1 h2 => ?_) pw w _ _ ?_
  · obtain ⟨x, hj, t, e1⟩ := Paired.getL hx (i := j) (a := items[j]) (by simp [h1])
    obtain ⟨y, hj2, u, e2⟩ := Paired.getL hy (i := j) (a := items2[j]) (by simp [h2])
    rw [hj] at hj2; cases hj2
    rw [e1, e2]
    intro prog w E Q hq
    refine PyProof.Rows.eqBool_str ?_
    rw [beq_self_eq_true]; exact hq
  · have e : (!(List.range items.size).all fun _ => true) = false := by rw [Bool.not_eq_false', List.all_eq_true]; exact fun _ _ => rfl
    rw [e]; exact h
end Mine

namespace Mine
open PySem PySem.W PySem.Calls PyProof.Rows

/-- the book has the names in the order of what they mean -/
theorem stmt4 (w : World) (A : Around) (g : Heap) (L : Addr) (s : Shared) (h : Heap) (k0 : Nat) (m cm : Str → Option Value) (Q : Flow → Shared → Prop) (R : Rm A 5) (F : LS w g L m cm h)
    {bk ld : Addr} {items lits : Array Value} {xs : List (List Nat)} {ps : List (List Nat × List Nat)} (m4 : m "book" = some (.ref bk)) (m5 : m "laid" = some (.ref ld))
    (hb : h.IsList bk items) (hx : BookIs items.toList xs) (hd : h.IsList ld lits) (hp : Paired (TupIs h) lits.toList ps) (hI : Inv (xs, ps)) (h5 : ps.length ≤ 5)
    (hK : ∀ h' k, LS w g L m cm h' → Ext h h' → Wp w A (execs (lawBody.drop 5) (Ev w L)) Q { s with heap := h', toks := k }) :
    Wp w A (execs (lawBody.drop 4) (Ev w L)) Q { s with heap := h, toks := k0 } := by
  have hlen : xs.length = ps.length := by have := hI.perm.length_eq; rwa [List.length_map] at this
  refine wpAny_execs_cons (wIfF (wpAny_isTrue_Compare1 (wN F.ns m4 ?_)))
  refine wCompG (TupIs h) RS (fun _ => true) (fun q => q.2) (cl := []) (by with_unfolding_all rfl) (fun v a b => TupIs_uniq) ?_
  refine wCallB F.S (id := "sorted") (by kernel_rfl) (wN F.ns m5 ?_)
  refine sortedLaid w A _ _ hd hp hI h5 fun h1 D k1 its hx1 hD hl1 hp1 => ?_
  dsimp only at hx1 hD hl1 hp1 ⊢
  refine ⟨_, seqList R.1 hl1.isList hp1, by rw [List.length_map]; omega, ?_, ?_, ?_⟩
  · rintro C a v s3 m3 E' ha hv hn3 hm3 hx3
    exact forIn0 ⟨rfl, _, _, rfl, fun b o e => e⟩
  · rintro C a v s3 m3 ha ⟨b, t, u, rfl, hT⟩ hq hn3 hm3 hx3
    exact wPairAt (i := 1) hn3 hm3 ((hT.keeps hx1).keeps hx3) (by decide) rfl fun k => ⟨⟨u, rfl⟩, _, _, rfl, fun b o e => e⟩
  intro D2 h2 k2 ys hD2 _ hli hpy hx2
  have ef : ((xs.map fun t => (prep t, t)).filter (fun _ => true)).map (fun q => q.2) = xs := by
    rw [List.filter_eq_self.mpr (fun _ _ => rfl), List.map_map]
    exact List.map_id' xs
  rw [ef] at hpy
  have hx12 : Ext h h2 := hx1.trans hx2
  refine neSame (by have := R.2.2; omega) (hb.at fun o e => hx12 _ o e) hli (Paired.mono (fun v q hq => hq.1) hx) hpy (wpAny_truthy_bool ⟨rfl, wpAny_execs_nil ?_⟩)
  exact hK h2 _ (F.ext hx12) hx12
end Mine

namespace Mine
open PySem PySem.W PySem.Calls PyProof.Rows

section
variable {w : World} {A : Around} {env : Env} {s : Shared}
theorem wListAt {x : Str} {p q r : Pos} {i : Nat} {k : Nat} {a : Addr} {items : Array Value} {v : Value} {m : Str → Option Value} {Q : Value → Shared → Prop} (hn : s.heap.Ns env.locals m) (hm : m x = some (.ref a)) (ht : s.heap.IsList a items) (hi : i < 1000) (hv : items[i]? = some v)
    (h : ∀ k, Q v { s with toks := k }) (hk : env.scope.kind = .function := by kernel_rfl) (hl : env.kindOf x = some .local := by kernel_rfl) (hd : (x == ("__debug__" : Str)) = false := by decide +kernel) :
    Wp w A (eval (.Subscript (.Name x p) (.Constant (.int (i : Int)) k q) r) env) Q s := by
  refine Subscript_ (wN hn hm (wpAny_Constant_int ?_) hk hl hd)
  refine tail_any (T := "list") (id := "list.__getitem__") ht.typeIs slot_list_getitem.lookup ?_ rfl
  have b1 : (0 : Int) ≤ (i : Int) := by omega
  have b2 : (i : Int) < 2 ^ 63 := by omega
  exact wpAny_getItem_list ht b1 b2 (by rw [Int.toNat_natCast]; exact hv) (h _)
end
/-- the asked name, and its reply's body -/
noncomputable def bodyOf (c : Int) : List Nat := dbl (typed c) ++ [34, 32, 120, 34]
theorem asked_part (w : World) (A : Around) (g : Heap) (L : Addr) (s : Shared) (h : Heap) (k0 : Nat) (m cm : Str → Option Value) (Q : Flow → Shared → Prop) (R : Rm A 5) (F : LS w g L m cm h)
    {cl : Addr} {citems : Array Value} {cs : List Int} {c : Int} (m0 : m "cells" = some (.ref cl)) (hcl : h.IsList cl citems) (hcs : Paired RI citems.toList cs) (hc : cs[5]? = some c)
    (hK : ∀ h' k m' cm' P ps, LS w g L m' cm' h' → (∀ b o, b ≠ L → b ≠ L + 4 → h.get? b = some o → h'.get? b = some o) → (∀ x, x ≠ (Str.ofString "signs") → x ≠ (Str.ofString "pieces") → x ≠ (Str.ofString "asked") → m' x = m x) →
      (∃ t, m' "asked" = some (.str (mkS (typed c)) t)) → m' "pieces" = some (.ref P) → h'.IsList P ps → Paired RS ps.toList (pcs c) → (∃ t, cm' "body" = some (.str (mkS (bodyOf c)) t)) →
      Wp w A (execs (lawBody.drop 8) (Ev w L)) Q { s with heap := h', toks := k }) :
    Wp w A (execs (lawBody.drop 5) (Ev w L)) Q { s with heap := h, toks := k0 } := by
  obtain ⟨x, y, z, esig, ety⟩ := typed3 c
  refine wpAny_execs_cons (wUnpack2 R.1 ?_)
  obtain ⟨v, hv, tc, rfl⟩ := Paired.get hcs hc
  refine wCall1 F.S (f := 149) (o := o149 w.params) (by kernel_rfl) (by kernel_rfl) rfl (wListAt (i := 5) F.ns m0 hcl (by decide) (by simpa using hv) fun k1 => ⟨F.S, ?_⟩)
  refine name_ok w c tc _ _ _ (R.le (by omega)) F.S fun g1 k1 T D P ss ps hx1 hT hD hP hps hpp => ?_
  have F1 := F.ext hx1
  refine ⟨T, _, _, m, rfl, hT, F1.ns, fun g2 g3 g4 k4 e2 s3 n3 s4 n4 => ?_⟩
  have F2 := F1.ext e2
  have F3 := F2.stL n3 s3
  have F4 := F3.stL n4 s4
  have hD4 := IsList.upL (IsList.upL (hD.at fun o e => e2 _ o e) F2.ns s3) F3.ns s4
  have hP4 := IsList.upL (IsList.upL (hP.at fun o e => e2 _ o e) F2.ns s3) F3.ns s4
  have K4 : ∀ b o, b ≠ L → h.get? b = some o → g4.get? b = some o := fun b o hb e => s4.extBut b o hb (s3.extBut b o hb (e2 _ _ (hx1 _ _ e)))
  clear hD hP hT n3 s3 n4 s4 F1 F2 F3 hx1 e2
  dsimp only at F4 ⊢
  refine wpAny_execs_cons (wpAny_Assign_Name (MethodCall_ (wpAny_Constant_str (GM.join (callWith_method1 (aN (wN F4.ns rfl (aNil ?_))))))))
  have esig' : ((figs c).map fun i => (sgL (gOf c) (uOf c)).getD i []) = sig c := rfl
  rw [esig'] at hps
  refine callJoin hD4 hps (by rw [esig]; show 3 ≤ 1000; decide) (by rw [esig]; intro l hl; simp at hl; rcases hl with rfl | rfl | rfl <;> (show 1 ≤ 100; decide)) fun t5 k5 => ?_
  refine wSt F4.ns fun g5 n5 s5 => ?_
  have F5 := F4.stL n5 s5
  have hP5 := IsList.upL hP4 F4.ns s5
  have K5 : ∀ b o, b ≠ L → h.get? b = some o → g5.get? b = some o := fun b o hb e => s5.extBut b o hb (K4 b o hb e)
  clear n5 s5 F4 hD4 hP4 K4
  dsimp only at F5 ⊢
  rw [show (sig c).flatten = typed c from rfl] at F5
  have hdl := dbl_len (typed c)
  have hty : (typed c).length = 3 := by rw [ety]; rfl
  refine wpAny_execs_cons (wpAny_Assign_Name ?_)
  refine wpAny_BinOp ?_
  refine MethodCall_ (wN F5.ns rfl (GM.replace (callWith_method1 (aC (wpAny_Constant_str (aC (wpAny_Constant_str (aNil ?_))))))))
  dsimp only
  refine SC.replaceW (Nat.succ_ne_zero _) (Nat.succ_ne_zero _) (Nat.ne_of_lt (Nat.lt_succ_self _)) rfl (by rw [mkS_len, hty]; decide) (by decide) fun t7 k7 => ?_
  rw [show (Str.ofString "\"") = mkS [34] from rfl, show (Str.ofString "\"\"") = mkS [34, 34] from rfl]
  rw [show Txt.replace (mkS (typed c)) (mkS [34]) (mkS [34, 34]) = mkS (dbl (typed c)) by rw [ety]; exact rep3 x y z]
  refine wpAny_Constant_str ?_
  refine wAddS (a := dbl (typed c)) (b := [34, 32, 120, 34]) (fun t8 k8 => ?_) (by show _ + 4 ≤ _; omega)
  refine wStc (c := L + 4) (by with_unfolding_all rfl) F5.body fun g6 c6 s6 => ?_
  have F6 := F5.stC (n := "body") (c := L + 4) (.inr (.inr (.inr ⟨rfl, rfl⟩))) c6 s6
  have hP6 := hP5.extBut s6.extBut (ne_cell hP5 F5.body)
  refine hK g6 _ _ _ P ps F6 (fun b o h1 h2 e => s6.extBut b o h2 (K5 b o h1 e)) (fun x a1 a2 a3 => ?_) ⟨_, rfl⟩ rfl hP6 hpp ⟨_, rfl⟩
  show (if x = _ then _ else if x = _ then _ else if x = _ then _ else m x) = m x
  rw [if_neg a3, if_neg a2, if_neg a1]
end Mine

namespace Mine
open PySem PySem.W PySem.Calls PyProof.Rows

section
variable {w : World} {A : Around} {env : Env} {s : Shared}
/-- the last item of a list -/
theorem wLast {x : Str} {p q r t : Pos} {k : Nat} {a : Addr} {items : Array Value} {v : Value} {m : Str → Option Value} {Q : Value → Shared → Prop} (hn : s.heap.Ns env.locals m) (hm : m x = some (.ref a)) (ht : s.heap.IsList a items) (h0 : 0 < items.size) (hi : items.size < 1000) (hv : items[items.size - 1]? = some v)
    (h : ∀ k, Q v { s with toks := k }) (hk : env.scope.kind = .function := by kernel_rfl) (hl : env.kindOf x = some .local := by kernel_rfl) (hd : (x == ("__debug__" : Str)) = false := by decide +kernel) :
    Wp w A (eval (.Subscript (.Name x p) (.UnaryOp .USub (.Constant (.int 1) k q) r) t) env) Q s := by
  refine Subscript_ (wN hn hm ?_ hk hl hd)
  refine wpAny_UnaryOp (wpAny_Constant_int (neg_int ?_))
  refine tail_any (T := "list") (id := "list.__getitem__") ht.typeIs slot_list_getitem.lookup ?_ rfl
  refine wpAny_getItem_list_neg ht (by decide) (by omega) (by decide) ?_ (h _)
  rw [show (-1 + (items.size : Int)).toNat = items.size - 1 by omega]
  exact hv
end
/-! ## sizes -/
noncomputable def szStep (l : List Int) (p : List Nat) : List Int :=
  let l1 := if p = [34] then l ++ [l.getLastD 0] else l
  l1 ++ [l1.getLastD 0 + (p.length : Int)]
theorem last_of {vs : List Value} {l : List Int} (h : Paired RI vs l) (h0 : 0 < l.length) : ∃ t, vs[vs.length - 1]? = some (.int (l.getLastD 0) t) := by
  have e : l[l.length - 1]? = some (l.getLastD 0) := by
    rw [← List.getLast?_eq_getElem?]
    cases l with
    | nil => cases h0
    | cons a r => simp [List.getLastD, List.getLast?]
  obtain ⟨v, hv, t, rfl⟩ := Paired.get h e
  rw [h.length]
  exact ⟨t, hv⟩
end Mine

namespace Mine
open PySem PySem.W PySem.Calls PyProof.Rows

noncomputable def sizeBody : List Stmt := match ((fdef 20).2.1 : List Stmt)[9]? with
  | some (Stmt.For _ _ b _ _) => b
  | _ => []
theorem szStep_len (l : List Int) (p : List Nat) : (szStep l p).length ≤ l.length + 2 ∧ 0 < (szStep l p).length := by
  unfold szStep
  dsimp only
  split <;> simp
/-- a turn of the loop that measures the pieces -/
theorem size_turn (w : World) (A : Around) (g : Heap) (L : Addr) (s : Shared) (h : Heap) (k0 : Nat) (m cm : Str → Option Value) (Q : Flow → Shared → Prop) (R : Rm A 5) (F : LS w g L m cm h)
    {Z : Addr} {zs : Array Value} {l : List Int} {p : List Nat} {tp : Tok} (m1 : m "piece" = some (.str (mkS p) tp)) (m2 : m "sizes" = some (.ref Z)) (hz : h.PlainList Z zs) (hp : Paired RI zs.toList l) (h0 : 0 < l.length) (hl : l.length ≤ 900) (hpl : p.length ≤ 100) (hZ : g.objs.size ≤ Z)
    (hK : ∀ h' k zs', LS w g L m cm h' → Heap.ExtBut Z h h' → h'.PlainList Z zs' → Paired RI zs'.toList (szStep l p) → Q .next { s with heap := h', toks := k }) :
    Wp w A (execs sizeBody (Ev w L)) Q { s with heap := h, toks := k0 } := by
  have app : ∀ (h1 : Heap) (k1 : Nat) (zs1 : Array Value) (l1 : List Int), LS w g L m cm h1 → h1.PlainList Z zs1 → Paired RI zs1.toList l1 → 0 < l1.length → l1.length ≤ 950 → (∀ h' k zs', LS w g L m cm h' → Heap.ExtBut Z h1 h' → h'.PlainList Z zs' → Paired RI zs'.toList (l1 ++ [l1.getLastD 0 + (p.length : Int)]) → Q .next { s with heap := h', toks := k }) →
      Wp w A (execs (sizeBody.drop 1) (Ev w L)) Q { s with heap := h1, toks := k1 } := by
    intro h1 k1 zs1 l1 F1 hz1 hp1 h01 hl1 hq
    have hsz : zs1.size = l1.length := by rw [← hp1.length]; exact (Array.length_toList).symm
    obtain ⟨t, ht⟩ := last_of hp1 h01
    have ht' : zs1[zs1.size - 1]? = some (.int (l1.getLastD 0) t) := by rw [← ht]; simp
    obtain ⟨n, e⟩ := id hz1
    refine wpAny_execs_cons (wpAny_Expr_any (MethodCall_ (wN F1.ns m2 (Calls.getMethod_list_append e rfl rfl ?_))))
    refine callWith_method1 (aBin (wpAny_BinOp (wLast F1.ns m2 hz1.isList (by omega) (by omega) ht' fun k2 => ?_)))
    refine wCallB F1.S (id := "len") (by kernel_rfl) (wN F1.ns m1 ?_)
    refine PySem.P.len_str (by rw [mkS_len]; omega) ?_
    rw [mkS_len]
    refine add_int (aNil ?_)
    refine wpAny_list_append_plain hz1 (fun h2 hz2 hs2 => ?_) (by show _ ≤ 2 ^ 24; omega)
    refine wpAny_execs_nil (hq h2 _ _ (F1.butList hz1.isList hZ hs2.extBut) hs2.extBut hz2 ?_)
    rw [Array.toList_push]
    exact Paired.app hp1 (.cons ⟨_, rfl⟩ .nil)
  refine wpAny_execs_cons (wpAny_If (wpAny_isTrue_Compare1 (wN F.ns m1 (wpAny_Constant_str (PySem.P.eq_str (wpAny_truthy_bool ?_))))))
  by_cases he : p = [34]
  · have ee : ((mkS p).cps.toList == (Str.ofString "\"").cps.toList) = true := by rw [he]; rfl
    rw [ee, if_pos rfl]
    have hsz : zs.size = l.length := by rw [← hp.length]; exact (Array.length_toList).symm
    obtain ⟨t, ht⟩ := last_of hp h0
    have ht' : zs[zs.size - 1]? = some (.int (l.getLastD 0) t) := by rw [← ht]; simp
    obtain ⟨n, e⟩ := id hz
    refine wpAny_execs_cons (wpAny_Expr_any (MethodCall_ (wN F.ns m2 (Calls.getMethod_list_append e rfl rfl ?_))))
    refine callWith_method1 (aSub (wLast F.ns m2 hz.isList (by omega) (by omega) ht' fun k2 => aNil ?_))
    refine wpAny_list_append_plain hz (fun h2 hz2 hs2 => ?_) (by show _ ≤ 2 ^ 24; omega)
    refine wpAny_execs_nil (app h2 _ _ (l ++ [l.getLastD 0]) (F.butList hz.isList hZ hs2.extBut) hz2 ?_ (by simp) (by rw [List.length_append]; show _ + 1 ≤ _; omega) fun h3 k3 zs3 F3 he3 hz3 hp3 => hK h3 k3 zs3 F3 (ebThen hs2.extBut he3) hz3 ?_)
    · rw [Array.toList_push]
      exact Paired.app hp (.cons ⟨_, rfl⟩ .nil)
    · unfold szStep; rw [if_pos he]; exact hp3
  · have ee : ((mkS p).cps.toList == (Str.ofString "\"").cps.toList) = false := by
      show (p == [34]) = false
      simpa using he
    rw [ee, if_neg Bool.false_ne_true]
    refine wpAny_execs_nil (app h _ zs l F hz hp h0 (by omega) fun h3 k3 zs3 F3 he3 hz3 hp3 => hK h3 k3 zs3 F3 he3 hz3 ?_)
    unfold szStep; rw [if_neg he]; exact hp3
end Mine

namespace Mine
open PySem PySem.W PySem.Calls PyProof.Rows

/-! ## a word against a front -/
/-- x against the front f: below it, within it, above it -/
noncomputable def at3 : List Nat → List Nat → Ordering
  | [], _ => .eq
  | _ :: _, [] => .lt
  | a :: f, b :: x => if b < a then .lt else if a < b then .gt else at3 f x
theorem at3_nil (x : List Nat) : at3 [] x = .eq := by cases x <;> rfl
theorem at3_cn (a : Nat) (f : List Nat) : at3 (a :: f) [] = .lt := rfl
theorem at3_cc (a b : Nat) (f x : List Nat) : at3 (a :: f) (b :: x) = if b < a then .lt else if a < b then .gt else at3 f x := rfl
theorem at3_below {a b : Nat} (f x : List Nat) (h : b < a) : at3 (a :: f) (b :: x) = .lt := by rw [at3_cc, if_pos h]
theorem at3_above {a b : Nat} (f x : List Nat) (h : a < b) : at3 (a :: f) (b :: x) = .gt := by rw [at3_cc, if_neg (by omega), if_pos h]
theorem at3_in (a : Nat) (f x : List Nat) : at3 (a :: f) (a :: x) = at3 f x := by rw [at3_cc, if_neg (by omega), if_neg (by omega)]
theorem at3_lt : ∀ {f x : List Nat}, at3 f x = .lt ↔ x < f
  | [], x => by
    rw [at3_nil]
    exact ⟨fun h => (nomatch h), fun h => absurd h (List.not_lt_nil x)⟩
  | a :: f, [] => ⟨fun _ => List.nil_lt_cons .., fun _ => rfl⟩
  | a :: f, b :: x => by
    rw [List.cons_lt_cons_iff]
    rcases Nat.lt_trichotomy b a with h | h | h
    · rw [at3_below f x h]; exact ⟨fun _ => .inl h, fun _ => rfl⟩
    · subst h
      rw [at3_in, at3_lt]
      exact ⟨fun q => .inr ⟨rfl, q⟩, fun q => q.elim (fun q => absurd q (Nat.lt_irrefl _)) fun q => q.2⟩
    · rw [at3_above f x h]
      refine ⟨fun q => (nomatch q), ?_⟩
      rintro (q | ⟨q, _⟩) <;> omega
theorem at3_eq : ∀ {f x : List Nat}, at3 f x = .eq ↔ f <+: x
  | [], x => by rw [at3_nil]; simp
  | a :: f, [] => by rw [at3_cn]; simp
  | a :: f, b :: x => by
    rw [List.cons_prefix_cons]
    rcases Nat.lt_trichotomy b a with h | h | h
    · rw [at3_below f x h]
      refine ⟨fun q => (nomatch q), ?_⟩
      rintro ⟨q, _⟩; omega
    · subst h
      rw [at3_in, at3_eq]; simp
    · rw [at3_above f x h]
      refine ⟨fun q => (nomatch q), ?_⟩
      rintro ⟨q, _⟩; omega
theorem at3_self {f W : List Nat} (h : f <+: W) : at3 f W = .eq := at3_eq.mpr h
/-- what lies below a word lies not above it -/
theorem at3_mono : ∀ {f x y : List Nat}, x < y → (at3 f y = .lt → at3 f x = .lt) ∧ (at3 f x = .gt → at3 f y = .gt)
  | [], x, y, h => by rw [at3_nil, at3_nil]; exact ⟨fun q => (nomatch q), fun q => (nomatch q)⟩
  | a :: f, [], y, h => ⟨fun _ => rfl, fun q => (nomatch q)⟩
  | a :: f, b :: x, [], h => absurd h (List.not_lt_nil _)
  | a :: f, b :: x, c :: y, h => by
    rcases Nat.lt_trichotomy b a with h1 | h1 | h1
    · rw [at3_below f x h1]; exact ⟨fun _ => rfl, fun q => (nomatch q)⟩
    · subst h1
      rw [at3_in]
      rcases List.cons_lt_cons_iff.mp h with h9 | ⟨h8, h9⟩
      · rw [at3_above f y h9]; exact ⟨fun q => (nomatch q), fun _ => rfl⟩
      · subst h8; rw [at3_in]; exact at3_mono h9
    · rw [at3_above f x h1]
      have h2 : a < c := by rcases List.cons_lt_cons_iff.mp h with h | ⟨rfl, h⟩ <;> omega
      rw [at3_above f y h2]; exact ⟨fun q => q, fun q => q⟩
/-- a front that has grown -/
theorem at3_grow : ∀ {g f x : List Nat}, g <+: f → (at3 g x = .lt → at3 f x = .lt) ∧ (at3 g x = .gt → at3 f x = .gt)
  | [], f, x, h => by rw [at3_nil]; exact ⟨fun q => (nomatch q), fun q => (nomatch q)⟩
  | a :: g, [], x, h => by simp at h
  | a :: g, c :: f, [], h => ⟨fun _ => rfl, fun q => (nomatch q)⟩
  | a :: g, c :: f, b :: x, h => by
    obtain ⟨h8, h9⟩ := List.cons_prefix_cons.mp h
    subst h8
    rcases Nat.lt_trichotomy b a with h1 | h1 | h1
    · rw [at3_below g x h1, at3_below f x h1]; exact ⟨fun q => q, fun q => q⟩
    · subst h1
      rw [at3_in, at3_in]; exact at3_grow h9
    · rw [at3_above g x h1, at3_above f x h1]; exact ⟨fun q => q, fun q => q⟩
/-- the letters by which the front has grown, and the word's letters at these places -/
theorem grown0 : ∀ {f x : List Nat}, ((x.take f.length < f) ↔ at3 f x = .lt) ∧ ((f < x.take f.length) ↔ at3 f x = .gt)
  | [], x => by
    rw [at3_nil, List.length_nil, List.take_zero]
    exact ⟨⟨fun q => absurd q (List.not_lt_nil _), fun q => (nomatch q)⟩, ⟨fun q => absurd q (List.not_lt_nil _), fun q => (nomatch q)⟩⟩
  | a :: f, [] => by
    rw [List.take_nil]
    exact ⟨⟨fun _ => rfl, fun _ => List.nil_lt_cons ..⟩, ⟨fun q => absurd q (List.not_lt_nil _), fun q => (nomatch q)⟩⟩
  | a :: f, b :: x => by
    rw [List.length_cons, List.take_succ_cons, List.cons_lt_cons_iff, List.cons_lt_cons_iff]
    rcases Nat.lt_trichotomy b a with h | h | h
    · rw [at3_below f x h]
      refine ⟨⟨fun _ => rfl, fun _ => .inl h⟩, ⟨?_, fun q => (nomatch q)⟩⟩
      rintro (q | ⟨q, _⟩) <;> omega
    · subst h
      obtain ⟨i1, i2⟩ := grown0 (f := f) (x := x)
      rw [at3_in, ← i1, ← i2]
      exact ⟨⟨fun q => q.elim (fun q => absurd q (Nat.lt_irrefl _)) fun q => q.2, fun q => .inr ⟨rfl, q⟩⟩, ⟨fun q => q.elim (fun q => absurd q (Nat.lt_irrefl _)) fun q => q.2, fun q => .inr ⟨rfl, q⟩⟩⟩
    · rw [at3_above f x h]
      refine ⟨⟨?_, fun q => (nomatch q)⟩, ⟨fun _ => rfl, fun _ => .inl h⟩⟩
      rintro (q | ⟨q, _⟩) <;> omega
theorem grown_lt : ∀ {st : Nat} {f x : List Nat}, at3 (f.take st) x = .eq → (((x.take f.length).drop st < f.drop st) ↔ at3 f x = .lt) ∧ ((f.drop st < (x.take f.length).drop st) ↔ at3 f x = .gt)
  | 0, f, x, h => by rw [List.drop_zero, List.drop_zero]; exact grown0
  | st + 1, [], x, h => by
    rw [List.length_nil, List.take_zero, List.drop_nil, at3_nil]
    exact ⟨⟨fun q => absurd q (List.not_lt_nil _), fun q => (nomatch q)⟩, ⟨fun q => absurd q (List.not_lt_nil _), fun q => (nomatch q)⟩⟩
  | st + 1, a :: f, [], h => by rw [List.take_succ_cons, at3_cn] at h; cases h
  | st + 1, a :: f, b :: x, h => by
    rw [List.take_succ_cons] at h
    rcases Nat.lt_trichotomy b a with h1 | h1 | h1
    · rw [at3_below _ x h1] at h; cases h
    · subst h1
      rw [at3_in] at h
      rw [List.length_cons, List.take_succ_cons, List.drop_succ_cons, List.drop_succ_cons, at3_in]
      exact grown_lt h
    · rw [at3_above _ x h1] at h; cases h
theorem lcp_nl (y : List Nat) : lcp [] y = 0 := by cases y <;> rfl
theorem lcp_nr (x : List Nat) : lcp x [] = 0 := by cases x <;> rfl
theorem lcp_cc (a b : Nat) (x y : List Nat) : lcp (a :: x) (b :: y) = if a = b then lcp x y + 1 else 0 := rfl
theorem lcp_comm : ∀ x y : List Nat, lcp x y = lcp y x
  | [], y => by rw [lcp_nl, lcp_nr]
  | a :: x, [] => rfl
  | a :: x, b :: y => by
    rw [lcp_cc, lcp_cc, lcp_comm x y]
    by_cases h : a = b
    · rw [if_pos h, if_pos h.symm]
    · rw [if_neg h, if_neg (Ne.symm h)]
/-- with one that bears the front: sharing as much is bearing it too -/
theorem lcp_front : ∀ {f x y : List Nat}, at3 f x = .eq → (f.length ≤ lcp x y ↔ at3 f y = .eq)
  | [], x, y, h => by rw [at3_nil]; simp
  | a :: f, [], y, h => by rw [at3_cn] at h; cases h
  | a :: f, b :: x, [], h => by
    rw [lcp_nr, at3_cn, List.length_cons]
    exact ⟨fun q => absurd q (Nat.not_succ_le_zero _), fun q => (nomatch q)⟩
  | a :: f, b :: x, c :: y, h => by
    obtain ⟨rfl, h'⟩ := List.cons_prefix_cons.mp (at3_eq.mp h)
    have ih := lcp_front (f := f) (y := y) (at3_eq.mpr h')
    rw [at3_eq, List.cons_prefix_cons, ← at3_eq, ← ih, lcp_cc, List.length_cons]
    by_cases e : a = c
    · rw [if_pos e]
      exact ⟨fun q => ⟨e, Nat.le_of_succ_le_succ q⟩, fun q => Nat.succ_le_succ q.2⟩
    · rw [if_neg e]
      exact ⟨fun q => absurd q (Nat.not_succ_le_zero _), fun q => absurd q.1 e⟩
end Mine

namespace Mine
open PySem PySem.W PySem.Calls PyProof.Rows

/-! ## what neighbours share tells all -/
noncomputable def lowN (f : List Nat) (l : List (List Nat)) : Nat := l.countP fun x => at3 f x == .lt
noncomputable def highN (f : List Nat) (l : List (List Nat)) : Nat := l.countP fun x => at3 f x != .gt
section
variable {B : List (List Nat)} {f g W : List Nat}
theorem lowN_iff (hB : B.Pairwise (· < ·)) (f : List Nat) {i : Nat} {x : List Nat} (h : B[i]? = some x) : at3 f x = .lt ↔ i < lowN f B := by
  have hp : B.Pairwise fun a b => (at3 f b == .lt) = true → (at3 f a == .lt) = true := hB.imp fun {a b} hab q => by
    rw [beq_iff_eq] at q ⊢; exact (at3_mono hab).1 q
  have := cnt_iff hp i x h
  rw [beq_iff_eq] at this
  exact this
theorem highN_iff (hB : B.Pairwise (· < ·)) (f : List Nat) {i : Nat} {x : List Nat} (h : B[i]? = some x) : at3 f x ≠ .gt ↔ i < highN f B := by
  have hp : B.Pairwise fun a b => (at3 f b != .gt) = true → (at3 f a != .gt) = true := hB.imp fun {a b} hab q => by
    rw [bne_iff_ne] at q ⊢; exact fun q' => q ((at3_mono hab).2 q')
  have := cnt_iff hp i x h
  rw [bne_iff_ne] at this
  exact this
theorem low_high (f : List Nat) (B : List (List Nat)) : lowN f B ≤ highN f B := List.countP_mono_left fun x _ h => by
  rw [beq_iff_eq] at h; rw [bne_iff_ne, h]; exact fun q => nomatch q
theorem high_le (f : List Nat) (B : List (List Nat)) : highN f B ≤ B.length := List.countP_le_length
theorem low_grow (h : g <+: f) (B : List (List Nat)) : lowN g B ≤ lowN f B := List.countP_mono_left fun x _ q => by
  rw [beq_iff_eq] at q ⊢; exact (at3_grow h).1 q
theorem high_grow (h : g <+: f) (B : List (List Nat)) : highN f B ≤ highN g B := List.countP_mono_left fun x _ q => by
  rw [bne_iff_ne] at q ⊢; exact fun q' => q ((at3_grow h).2 q')
theorem low_nil (B : List (List Nat)) : lowN [] B = 0 := List.countP_eq_zero.mpr fun x _ => by rw [at3_nil]; decide
theorem high_nil (B : List (List Nat)) : highN [] B = B.length := List.countP_eq_length.mpr fun x _ => by rw [at3_nil]; decide
/-- within the stretch of the front before -/
theorem within {st : Nat} (hB : B.Pairwise (· < ·)) {i : Nat} {x : List Nat} (h : B[i]? = some x) (h1 : lowN (f.take st) B ≤ i) (h2 : i < highN (f.take st) B) :
    (((x.take f.length).drop st < f.drop st) ↔ i < lowN f B) ∧ ((f.drop st < (x.take f.length).drop st) ↔ ¬ i < highN f B) := by
  have e : at3 (f.take st) x = .eq := by
    have a1 : at3 (f.take st) x ≠ .lt := fun q => Nat.lt_irrefl _ (Nat.lt_of_lt_of_le ((lowN_iff hB _ h).mp q) h1)
    have a2 := (highN_iff hB _ h).mpr h2
    cases q : at3 (f.take st) x with
    | lt => exact absurd q a1
    | gt => exact absurd q a2
    | eq => rfl
  obtain ⟨g1, g2⟩ := grown_lt e
  rw [g1, g2, lowN_iff hB f h, ← highN_iff hB f h]
  exact ⟨Iff.rfl, Decidable.not_not.symm⟩
end
theorem cnt_split (p : List Nat → Bool) (W : List Nat) : ∀ B : List (List Nat), B.countP p = (B.filter (· != W)).countP p + (if p W = true then B.length - (B.filter (· != W)).length else 0)
  | [] => by simp
  | x :: r => by
    have ih := cnt_split p W r
    have hl := List.length_filter_le (· != W) r
    rw [List.countP_cons, ih]
    by_cases hx : x = W
    · subst hx
      have e : List.filter (· != x) (x :: r) = List.filter (· != x) r := List.filter_cons_of_neg (by simp)
      rw [e, List.length_cons]
      by_cases hp : p x = true
      · rw [if_pos hp, if_pos hp, if_pos hp]; omega
      · rw [if_neg hp, if_neg hp, if_neg hp]
    · have e : List.filter (· != W) (x :: r) = x :: List.filter (· != W) r := List.filter_cons_of_pos (by simpa using hx)
      rw [e, List.countP_cons, List.length_cons, List.length_cons]
      split <;> split <;> omega
/-- the other ones, in order; the word's place among them; the line; what neighbours share -/
structure Nb (oth : List (List Nat)) (W : List Nat) (p : Nat) : Prop where
  rise : oth.Pairwise (· < ·)
  out : ∀ x ∈ oth, x ≠ W
  place : p = oth.countP fun x => decide (x < W)
noncomputable def lineOf (oth : List (List Nat)) (W : List Nat) (p : Nat) : List (List Nat) := oth.take p ++ [W] ++ oth.drop p
noncomputable def shOf (oth : List (List Nat)) (W : List Nat) (p : Nat) : List Nat := (List.range oth.length).map fun k => lcp ((lineOf oth W p).getD k []) ((lineOf oth W p).getD (k + 1) [])
namespace Nb
variable {oth : List (List Nat)} {W f : List Nat} {p : Nat}
theorem le (h : Nb oth W p) : p ≤ oth.length := by rw [h.place]; exact List.countP_le_length
theorem lt_iff (h : Nb oth W p) {i : Nat} {x : List Nat} (hx : oth[i]? = some x) : x < W ↔ i < p := by
  have hp : oth.Pairwise fun a b => (decide (b < W)) = true → (decide (a < W)) = true := h.rise.imp fun {a b} hab q => decide_eq_true (lt_tr hab (of_decide_eq_true q))
  have := cnt_iff hp i x hx
  rw [decide_eq_true_iff, ← h.place] at this
  exact this
theorem gt_of (h : Nb oth W p) {i : Nat} {x : List Nat} (hx : oth[i]? = some x) (hi : p ≤ i) : W < x :=
  lt_or (fun q => Nat.lt_irrefl _ (Nat.lt_of_lt_of_le ((h.lt_iff hx).mp q) hi)) (h.out x (List.mem_of_getElem? hx))
theorem line_lt (h : Nb oth W p) {j : Nat} (hj : j < p) : (lineOf oth W p)[j]? = oth[j]? := by
  have hl := h.le
  unfold lineOf
  rw [List.getElem?_append_left (by rw [List.length_append, List.length_take, List.length_singleton]; omega), List.getElem?_append_left (by rw [List.length_take]; omega), List.getElem?_take, if_pos hj]
theorem line_at (h : Nb oth W p) : (lineOf oth W p)[p]? = some W := by
  have hl := h.le
  unfold lineOf
  rw [List.getElem?_append_left (by rw [List.length_append, List.length_take, List.length_singleton]; omega), List.getElem?_append_right (by rw [List.length_take]; omega), List.length_take, Nat.min_eq_left hl, Nat.sub_self]
  rfl
theorem line_gt (h : Nb oth W p) {j : Nat} (hj : p ≤ j) : (lineOf oth W p)[j + 1]? = oth[j]? := by
  have hl := h.le
  unfold lineOf
  rw [List.getElem?_append_right (by rw [List.length_append, List.length_take, List.length_singleton]; omega), List.getElem?_drop, List.length_append, List.length_take, List.length_singleton, Nat.min_eq_left hl]
  congr 1
  omega
theorem line_len (h : Nb oth W p) : (lineOf oth W p).length = oth.length + 1 := by
  have hl := h.le
  unfold lineOf
  rw [List.length_append, List.length_append, List.length_take, List.length_drop, List.length_singleton]; omega
theorem sh_len : (shOf oth W p).length = oth.length := by unfold shOf; rw [List.length_map, List.length_range]
theorem sh_at {k : Nat} (hk : k < oth.length) : (shOf oth W p).getD k 0 = lcp ((lineOf oth W p).getD k []) ((lineOf oth W p).getD (k + 1) []) := by
  unfold shOf
  rw [List.getD_eq_getElem?_getD, List.getElem?_map, List.getElem?_range hk]; rfl
/-- the test of the loop that goes down -/
theorem begin_test (h : Nb oth W p) (hf : f <+: W) {b : Nat} (hb : b ≤ p) (h1 : lowN f oth ≤ b) (h0 : 0 < b) : f.length ≤ (shOf oth W p).getD (b - 1) 0 ↔ lowN f oth < b := by
  have hl := h.le
  have hW := at3_self hf
  have notgt : ∀ {i : Nat} {x : List Nat}, oth[i]? = some x → i < p → at3 f x ≠ .gt := fun {i x} hx hi q => by
    have := (at3_mono ((h.lt_iff hx).mpr hi)).2 q
    rw [hW] at this; cases this
  have hx : oth[b - 1]? = some (oth[b - 1]'(by omega)) := List.getElem?_eq_getElem _
  rw [sh_at (by omega), show b - 1 + 1 = b by omega, List.getD_eq_getElem?_getD, List.getD_eq_getElem?_getD, h.line_lt (by omega), hx, Option.getD_some]
  generalize oth[b - 1]'(by omega) = x at hx
  have hy : at3 f ((lineOf oth W p)[b]?.getD []) = .eq := by
    rcases Nat.lt_or_ge b p with q | q
    · rw [h.line_lt q]
      have hz : oth[b]? = some (oth[b]'(by omega)) := List.getElem?_eq_getElem _
      rw [hz, Option.getD_some]
      generalize oth[b]'(by omega) = z at hz
      have a1 : at3 f z ≠ .lt := fun q => by have := (lowN_iff h.rise f hz).mp q; omega
      have a2 := notgt hz q
      cases e : at3 f z with
      | lt => exact absurd e a1
      | gt => exact absurd e a2
      | eq => rfl
    · have : b = p := by omega
      subst this
      rw [h.line_at]; exact hW
  rw [lcp_comm, lcp_front hy]
  have c := lowN_iff h.rise f hx
  have ng := notgt hx (by omega)
  constructor
  · intro q
    rcases Nat.lt_or_ge (lowN f oth) b with r | r
    · exact r
    · have := c.mpr (by omega)
      rw [q] at this; cases this
  · intro q
    have a1 : at3 f x ≠ .lt := fun r => by have := c.mp r; omega
    cases e : at3 f x with
    | lt => exact absurd e a1
    | gt => exact absurd e ng
    | eq => rfl
/-- the test of the loop that goes up -/
theorem end_test (h : Nb oth W p) (hf : f <+: W) {b : Nat} (hb : p ≤ b) (h1 : b ≤ highN f oth) (h0 : b < oth.length) : f.length ≤ (shOf oth W p).getD b 0 ↔ b < highN f oth := by
  have hW := at3_self hf
  have notlt : ∀ {i : Nat} {x : List Nat}, oth[i]? = some x → p ≤ i → at3 f x ≠ .lt := fun {i x} hx hi q => by
    have := (at3_mono (h.gt_of hx hi)).1 q
    rw [hW] at this; cases this
  have hx : oth[b]? = some (oth[b]'h0) := List.getElem?_eq_getElem _
  rw [sh_at h0, List.getD_eq_getElem?_getD, List.getD_eq_getElem?_getD, h.line_gt hb, hx, Option.getD_some]
  generalize oth[b]'h0 = x at hx
  have hy : at3 f ((lineOf oth W p)[b]?.getD []) = .eq := by
    rcases Nat.lt_or_ge p b with q | q
    · obtain ⟨c, rfl⟩ : ∃ c, b = c + 1 := ⟨b - 1, by omega⟩
      rw [h.line_gt (by omega)]
      have hz : oth[c]? = some (oth[c]'(by omega)) := List.getElem?_eq_getElem _
      rw [hz, Option.getD_some]
      generalize oth[c]'(by omega) = z at hz
      have a1 := notlt hz (by omega)
      have a2 := (highN_iff h.rise f hz).mpr (by omega)
      cases e : at3 f z with
      | lt => exact absurd e a1
      | gt => exact absurd e a2
      | eq => rfl
    · have : b = p := by omega
      subst this
      rw [h.line_at]; exact hW
  rw [lcp_front hy]
  have c := highN_iff h.rise f hx
  have nl := notlt hx hb
  constructor
  · intro q
    refine c.mp ?_
    rw [q]; exact fun r => nomatch r
  · intro q
    have a2 := c.mpr q
    cases e : at3 f x with
    | lt => exact absurd e nl
    | gt => exact absurd e a2
    | eq => rfl
theorem low_place (h : Nb oth W p) (hf : f <+: W) : lowN f oth ≤ p := by
  rw [h.place]
  refine List.countP_mono_left fun x hx q => ?_
  rw [beq_iff_eq] at q
  refine decide_eq_true ?_
  by_cases r : x < W
  · exact r
  · have := (at3_mono (lt_or r (h.out x hx))).1 q
    rw [at3_self hf] at this; cases this
theorem place_high (h : Nb oth W p) (hf : f <+: W) : p ≤ highN f oth := by
  rw [h.place]
  refine List.countP_mono_left fun x hx q => ?_
  rw [bne_iff_ne]
  intro r
  have := (at3_mono (of_decide_eq_true q)).2 r
  rw [at3_self hf] at this; cases this
/-- is any other name left? -/
theorem crowd (h : Nb oth W p) (hf : f <+: W) : lowN f oth < highN f oth ↔ (0 < p ∧ f.length ≤ (shOf oth W p).getD (p - 1) 0) ∨ (p < oth.length ∧ f.length ≤ (shOf oth W p).getD p 0) := by
  have l1 := h.low_place hf
  have l2 := h.place_high hf
  have l3 := high_le f oth
  constructor
  · intro q
    rcases Nat.lt_or_ge (lowN f oth) p with r | r
    · exact .inl ⟨by omega, (h.begin_test hf (Nat.le_refl _) l1 (by omega)).mpr r⟩
    · exact .inr ⟨by omega, (h.end_test hf (Nat.le_refl _) l2 (by omega)).mpr (by omega)⟩
  · rintro (⟨r0, r⟩ | ⟨r0, r⟩)
    · have := (h.begin_test hf (Nat.le_refl _) l1 r0).mp r; omega
    · have := (h.end_test hf (Nat.le_refl _) l2 r0).mp r; omega
end Nb
/-- the greatest of a list of sizes, and -1 -/
noncomputable def maxOf (l : List Nat) : Int := l.foldl (fun (a : Int) (n : Nat) => max a (n : Int)) (-1)
theorem foldl_max (n : Int) : ∀ (l : List Nat) (a : Int), n ≤ l.foldl (fun (a : Int) (m : Nat) => max a (m : Int)) a ↔ n ≤ a ∨ ∃ m ∈ l, n ≤ (m : Int)
  | [], a => by simp
  | x :: l, a => by
    rw [List.foldl_cons, foldl_max n l]
    constructor
    · rintro (q | ⟨m, hm, q⟩)
      · rcases (by omega : n ≤ a ∨ n ≤ (x : Int)) with r | r
        · exact .inl r
        · exact .inr ⟨x, List.mem_cons_self .., r⟩
      · exact .inr ⟨m, List.mem_cons_of_mem _ hm, q⟩
    · rintro (q | ⟨m, hm, q⟩)
      · exact .inl (by omega)
      · rcases List.mem_cons.mp hm with rfl | hm
        · exact .inl (by omega)
        · exact .inr ⟨m, hm, q⟩
theorem le_maxOf (n : Nat) (l : List Nat) : (n : Int) ≤ maxOf l ↔ ∃ m ∈ l, n ≤ m := by
  unfold maxOf
  rw [foldl_max]
  constructor
  · rintro (q | ⟨m, hm, q⟩)
    · omega
    · exact ⟨m, hm, by omega⟩
  · rintro ⟨m, hm, q⟩
    exact .inr ⟨m, hm, by omega⟩
noncomputable def needOf (sh : List Nat) (p : Nat) : Int := 1 + maxOf ((sh.take (p + 1)).drop (p - 1))
theorem slice_two (sh : List Nat) (p n : Nat) : (∃ m ∈ (sh.take (p + 1)).drop (p - 1), n ≤ m) ↔ (0 < p ∧ p - 1 < sh.length ∧ n ≤ sh.getD (p - 1) 0) ∨ (p < sh.length ∧ n ≤ sh.getD p 0) := by
  constructor
  · rintro ⟨m, hm, q⟩
    obtain ⟨j, hj⟩ := List.mem_iff_getElem?.mp hm
    rw [List.getElem?_drop, List.getElem?_take] at hj
    split at hj
    · rename_i hlt
      have hl := (List.getElem?_eq_some_iff.mp hj).1
      have e : sh.getD (p - 1 + j) 0 = m := by rw [List.getD_eq_getElem?_getD, hj]; rfl
      rcases (by omega : p - 1 + j = p ∨ (0 < p ∧ p - 1 + j = p - 1)) with r | ⟨r0, r⟩
      · rw [r] at e hl; exact .inr ⟨hl, by omega⟩
      · rw [r] at e hl; exact .inl ⟨r0, hl, by omega⟩
    · cases hj
  · have key : ∀ k, p - 1 ≤ k → k < p + 1 → k < sh.length → n ≤ sh.getD k 0 → ∃ m ∈ (sh.take (p + 1)).drop (p - 1), n ≤ m := by
      intro k k1 k2 k3 k4
      refine ⟨sh.getD k 0, List.mem_iff_getElem?.mpr ⟨k - (p - 1), ?_⟩, k4⟩
      rw [List.getElem?_drop, List.getElem?_take, show p - 1 + (k - (p - 1)) = k by omega, if_pos k2, List.getD_eq_getElem?_getD, List.getElem?_eq_getElem k3]
      rfl
    rintro (⟨r0, r1, r2⟩ | ⟨r1, r2⟩)
    · exact key _ (by omega) (by omega) r1 r2
    · exact key _ (by omega) (by omega) r1 r2
theorem Nb.need {oth : List (List Nat)} {W f : List Nat} {p : Nat} (h : Nb oth W p) (hf : f <+: W) : lowN f oth < highN f oth ↔ (f.length : Int) < needOf (shOf oth W p) p := by
  have hl := h.le
  rw [h.crowd hf]
  have e : (f.length : Int) < needOf (shOf oth W p) p ↔ (f.length : Int) ≤ maxOf (((shOf oth W p).take (p + 1)).drop (p - 1)) := by unfold needOf; omega
  rw [e, le_maxOf, slice_two, Nb.sh_len]
  constructor
  · rintro (⟨a, b⟩ | q)
    · exact .inl ⟨a, by omega, b⟩
    · exact .inr q
  · rintro (⟨a, b, c⟩ | q)
    · exact .inl ⟨a, c⟩
    · exact .inr q
/-- how many fronts leave another name: the place that halving finds -/
theorem crowded_iff {oth : List (List Nat)} {W : List Nat} {p N : Nat} (h : Nb oth W p) (fr : Nat → List Nat) (h1 : ∀ i < N, fr i <+: W) (h2 : ∀ i j, i < j → j < N → (fr i).length ≤ (fr j).length) {i : Nat} (hi : i < N) :
    ((fr i).length : Int) < needOf (shOf oth W p) p ↔ i < (List.range N).countP fun i => decide (lowN (fr i) oth < highN (fr i) oth) := by
  have hp : (List.range N).Pairwise fun a b => decide (lowN (fr b) oth < highN (fr b) oth) = true → decide (lowN (fr a) oth < highN (fr a) oth) = true := by
    refine List.Pairwise.imp_of_mem ?_ List.pairwise_lt_range
    intro a b ha hb hab q
    have hbN := List.mem_range.mp hb
    have q1 := (h.need (h1 b hbN)).mp (of_decide_eq_true q)
    have := h2 a b hab hbN
    exact decide_eq_true ((h.need (h1 a (by omega))).mpr (by omega))
  have := cnt_iff hp i i (List.getElem?_range hi)
  rw [decide_eq_true_iff, h.need (h1 i hi)] at this
  exact this
end Mine

namespace Mine
open PySem PySem.W PySem.Calls PyProof.Rows

/-! ## how long the front is at each cut -/
noncomputable def cum (b : Nat) : List Nat → List Nat
  | [] => [b]
  | x :: l => if x = 34 then b :: b :: cum (b + (prep [x]).length) l else b :: cum (b + (prep [x]).length) l
noncomputable abbrev ofN (l : List Nat) : List Int := l.map fun (n : Nat) => (n : Int)
theorem cum_q (b : Nat) (l : List Nat) {x : Nat} (h : x = 34) : cum b (x :: l) = b :: b :: cum (b + (prep [x]).length) l := by
  conv => lhs; unfold cum
  rw [if_pos h]
theorem cum_n (b : Nat) (l : List Nat) {x : Nat} (h : ¬ x = 34) : cum b (x :: l) = b :: cum (b + (prep [x]).length) l := by
  conv => lhs; unfold cum
  rw [if_neg h]
theorem cum_len : ∀ (b : Nat) (l : List Nat), (cum b l).length = (dbl l).length + 1
  | b, [] => rfl
  | b, x :: l => by
    unfold cum dbl
    have := cum_len (b + (prep [x]).length) l
    split <;> simp only [List.length_cons] <;> omega
theorem cum_last : ∀ (b : Nat) (l : List Nat), (cum b l).getLastD 0 = b + (prep l).length
  | b, [] => rfl
  | b, x :: l => by
    have e : prep (x :: l) = prep [x] ++ prep l := prep_app [x] l
    have := cum_last (b + (prep [x]).length) l
    have hl := cum_len (b + (prep [x]).length) l
    rw [e, List.length_append, ← Nat.add_assoc, ← this]
    by_cases hx : x = 34
    · rw [cum_q b l hx]
      generalize cum (b + (prep [x]).length) l = z at hl
      cases z with
      | nil => cases hl
      | cons y r => simp [List.getLastD]
    · rw [cum_n b l hx]
      generalize cum (b + (prep [x]).length) l = z at hl
      cases z with
      | nil => cases hl
      | cons y r => simp [List.getLastD]
theorem cum_ge : ∀ (b : Nat) (l : List Nat), ∀ n ∈ cum b l, b ≤ n
  | b, [], n, h => by unfold cum at h; rw [List.mem_singleton.mp h]; exact Nat.le_refl _
  | b, x :: l, n, h => by
    have ih := cum_ge (b + (prep [x]).length) l
    unfold cum at h
    split at h
    · rcases List.mem_cons.mp h with rfl | h
      · exact Nat.le_refl _
      · rcases List.mem_cons.mp h with rfl | h
        · exact Nat.le_refl _
        · have := ih n h; omega
    · rcases List.mem_cons.mp h with rfl | h
      · exact Nat.le_refl _
      · have := ih n h; omega
theorem cum_mono : ∀ (b : Nat) (l : List Nat), (cum b l).Pairwise (· ≤ ·)
  | b, [] => List.pairwise_singleton ..
  | b, x :: l => by
    have ih := cum_mono (b + (prep [x]).length) l
    have hg := cum_ge (b + (prep [x]).length) l
    unfold cum
    split
    · refine List.pairwise_cons.mpr ⟨fun n hn => ?_, List.pairwise_cons.mpr ⟨fun n hn => ?_, ih⟩⟩
      · rcases List.mem_cons.mp hn with rfl | hn
        · exact Nat.le_refl _
        · have := hg n hn; omega
      · have := hg n hn; omega
    · refine List.pairwise_cons.mpr ⟨fun n hn => ?_, ih⟩
      have := hg n hn; omega
theorem parse_nil : parse [] = [] := rfl
theorem prep_nil : prep [] = [] := rfl
/-- what has come in of the doubled name -/
theorem cum_front : ∀ (l : List Nat) (b i : Nat), i ≤ (dbl l).length → ∃ n, (cum b l)[i]? = some n ∧ b + (prep (parse ((dbl l).take i))).length = n ∧ prep (parse ((dbl l).take i)) <+: prep l
  | [], b, i, h => by
    have : i = 0 := Nat.le_zero.mp h
    subst this
    exact ⟨b, rfl, rfl, List.prefix_rfl⟩
  | x :: l, b, i, h => by
    have e : prep (x :: l) = prep [x] ++ prep l := prep_app [x] l
    by_cases hx : x = 34
    · have ed : dbl (x :: l) = 34 :: 34 :: dbl l := by
        conv => lhs; unfold dbl
        rw [if_pos hx]
      have ec : cum b (x :: l) = b :: b :: cum (b + (prep [x]).length) l := by
        conv => lhs; unfold cum
        rw [if_pos hx]
      rw [ed] at h ⊢
      rw [ec]
      match i, h with
      | 0, _ => exact ⟨b, rfl, rfl, List.nil_prefix⟩
      | 1, _ =>
        refine ⟨b, rfl, ?_, ?_⟩
        · rw [show List.take 1 (34 :: 34 :: dbl l) = [34] from rfl, parse_e (.inl rfl)]; rfl
        · rw [show List.take 1 (34 :: 34 :: dbl l) = [34] from rfl, parse_e (.inl rfl)]; exact List.nil_prefix
      | i + 2, h =>
        obtain ⟨n, h1, h2, h3⟩ := cum_front l (b + (prep [x]).length) i (by simpa using h)
        have ep : prep (parse (List.take (i + 2) (34 :: 34 :: dbl l))) = prep [x] ++ prep (parse ((dbl l).take i)) := by
          rw [List.take_succ_cons, List.take_succ_cons, parse_q, hx]
          exact prep_app [34] _
        refine ⟨n, by simpa using h1, ?_, ?_⟩
        · rw [ep, List.length_append]; omega
        · rw [ep, e]; exact (List.prefix_append_right_inj _).mpr h3
    · have ed : dbl (x :: l) = x :: dbl l := by
        conv => lhs; unfold dbl
        rw [if_neg hx]
      have ec : cum b (x :: l) = b :: cum (b + (prep [x]).length) l := by
        conv => lhs; unfold cum
        rw [if_neg hx]
      rw [ed] at h ⊢
      rw [ec]
      match i, h with
      | 0, _ => exact ⟨b, rfl, rfl, List.nil_prefix⟩
      | i + 1, h =>
        obtain ⟨n, h1, h2, h3⟩ := cum_front l (b + (prep [x]).length) i (by simpa using h)
        have ep : prep (parse (List.take (i + 1) (x :: dbl l))) = prep [x] ++ prep (parse ((dbl l).take i)) := by
          rw [List.take_succ_cons, parse_step hx]
          exact prep_app [x] _
        refine ⟨n, by simpa using h1, ?_, ?_⟩
        · rw [ep, List.length_append]; omega
        · rw [ep, e]; exact (List.prefix_append_right_inj _).mpr h3
/-- the sizes that the law reckons -/
noncomputable def szs (c : Int) : List Nat := cum 0 (typed c) ++ List.replicate 4 (meant c).length
theorem body_len (c : Int) : (bodyOf c).length = (dbl (typed c)).length + 4 := by unfold bodyOf; rw [List.length_append]; rfl
theorem szs_len (c : Int) : (szs c).length = (bodyOf c).length + 1 := by
  unfold szs
  rw [List.length_append, List.length_replicate, cum_len, body_len]
theorem cum_le (c : Int) : ∀ n ∈ cum 0 (typed c), n ≤ (meant c).length := by
  intro n hn
  obtain ⟨i, hi⟩ := List.mem_iff_getElem?.mp hn
  have hl := (List.getElem?_eq_some_iff.mp hi).1
  rw [cum_len] at hl
  obtain ⟨n', h1, h2, h3⟩ := cum_front (typed c) 0 i (by omega)
  rw [hi] at h1; cases h1
  have := h3.length_le
  rw [prep_typed] at this
  omega
theorem szs_mono (c : Int) : (szs c).Pairwise (· ≤ ·) := by
  refine List.pairwise_append.mpr ⟨cum_mono 0 _, List.pairwise_replicate.mpr (.inr (Nat.le_refl _)), fun a ha b hb => ?_⟩
  rw [(List.mem_replicate.mp hb).2]
  exact cum_le c a ha
theorem parse_tail : ∀ j : Nat, parse (List.take j [34, 32, 120, 34]) = []
  | 0 => rfl
  | 1 => rfl
  | 2 => rfl
  | 3 => rfl
  | j + 4 => by rw [List.take_of_length_le (by show 4 ≤ _; omega)]; rfl
theorem take_prefix {a W : List Nat} (h : a <+: W) : W.take a.length = a := by
  obtain ⟨r, rfl⟩ := h
  simp
theorem front_at (c : Int) {i : Nat} (hi : i ≤ (bodyOf c).length) : ∃ n, (szs c)[i]? = some n ∧ n ≤ (meant c).length ∧ frontOf (bodyOf c) i = (meant c).take n := by
  unfold frontOf
  rcases Nat.lt_or_ge (dbl (typed c)).length i with h | h
  · refine ⟨(meant c).length, ?_, Nat.le_refl _, ?_⟩
    · unfold szs
      rw [List.getElem?_append_right (by rw [cum_len]; omega), List.getElem?_replicate, if_pos (by rw [cum_len]; rw [body_len] at hi; omega)]
    · unfold bodyOf
      rw [List.take_append, List.take_of_length_le (by omega), parse_dbl, parse_tail, List.append_nil, prep_typed, List.take_length]
  · obtain ⟨n, h1, h2, h3⟩ := cum_front (typed c) 0 i h
    rw [prep_typed] at h3
    have e : (bodyOf c).take i = (dbl (typed c)).take i := by
      unfold bodyOf
      rw [List.take_append, show i - (dbl (typed c)).length = 0 by omega, List.take_zero, List.append_nil]
    rw [e]
    have hn : (prep (parse ((dbl (typed c)).take i))).length = n := by omega
    refine ⟨n, ?_, ?_, ?_⟩
    · unfold szs
      rw [List.getElem?_append_left (by rw [cum_len]; omega)]; exact h1
    · have := h3.length_le; omega
    · rw [← hn]; exact (take_prefix h3).symm
theorem front_pre (c : Int) {i : Nat} (hi : i ≤ (bodyOf c).length) : frontOf (bodyOf c) i <+: meant c := by
  obtain ⟨n, _, _, e⟩ := front_at c hi
  rw [e]; exact List.take_prefix ..
theorem front_mono (c : Int) {i j : Nat} (hij : i < j) (hj : j ≤ (bodyOf c).length) : (frontOf (bodyOf c) i).length ≤ (frontOf (bodyOf c) j).length := by
  obtain ⟨n, h1, h2, e⟩ := front_at c (i := i) (by omega)
  obtain ⟨n', h1', h2', e'⟩ := front_at c hj
  obtain ⟨l1, v1⟩ := List.getElem?_eq_some_iff.mp h1
  obtain ⟨l2, v2⟩ := List.getElem?_eq_some_iff.mp h1'
  have := List.pairwise_iff_getElem.mp (szs_mono c) i j l1 l2 hij
  rw [v1, v2] at this
  rw [e, e', List.length_take, List.length_take]; omega
theorem front_grow (c : Int) {i : Nat} (hi : i + 1 ≤ (bodyOf c).length) : frontOf (bodyOf c) i = (frontOf (bodyOf c) (i + 1)).take (frontOf (bodyOf c) i).length := by
  obtain ⟨n, _, h2, e⟩ := front_at c (i := i) (by omega)
  obtain ⟨n', _, h2', e'⟩ := front_at c hi
  have h := front_mono c (i := i) (j := i + 1) (by omega) hi
  rw [e, e'] at h ⊢
  rw [List.length_take, List.length_take] at h
  rw [List.length_take, List.take_take]
  congr 1
  omega
theorem front_zero (c : Int) : frontOf (bodyOf c) 0 = [] := rfl
theorem front_last (c : Int) : frontOf (bodyOf c) (bodyOf c).length = meant c := by
  unfold frontOf
  rw [List.take_length]
  unfold bodyOf
  rw [parse_dbl, show parse [34, 32, 120, 34] = [] from rfl, List.append_nil, prep_typed]
/-- the loop that measures the pieces gives them -/
theorem q34 : (allSigns.all fun x => (prepS [x] == [34]) == (x == 34)) = true := by kernel_rfl
theorem last_app (l : List Int) (v : Int) : (l ++ [v]).getLastD 0 = v := by simp
theorem szStep_q (l : List Int) (v : Int) {p : List Nat} (h : p = [34]) : szStep (l ++ [v]) p = l ++ [v] ++ [v] ++ [v + (p.length : Int)] := by
  unfold szStep; dsimp only; rw [if_pos h, last_app, last_app]
theorem szStep_n (l : List Int) (v : Int) {p : List Nat} (h : ¬ p = [34]) : szStep (l ++ [v]) p = l ++ [v] ++ [v + (p.length : Int)] := by
  unfold szStep; dsimp only; rw [if_neg h, last_app]
theorem szStep_cum : ∀ (l : List Nat), (∀ x ∈ l, prep [x] = [34] ↔ x = 34) → ∀ (pre : List Int) (b : Nat), (l.map fun x => prep [x]).foldl szStep (pre ++ [(b : Int)]) = pre ++ ofN (cum b l)
  | [], _, pre, b => rfl
  | x :: l, h, pre, b => by
    have h0 := h x (List.mem_cons_self ..)
    have ih := szStep_cum l fun y hy => h y (List.mem_cons_of_mem _ hy)
    rw [List.map_cons, List.foldl_cons]
    have eb : ((b : Int) + ((prep [x]).length : Int)) = ((b + (prep [x]).length : Nat) : Int) := by omega
    by_cases hx : x = 34
    · rw [szStep_q _ _ (h0.mpr hx), cum_q b l hx, eb, ih]
      simp
    · rw [szStep_n _ _ (fun q => hx (h0.mp q)), cum_n b l hx, eb, ih]
      simp
theorem pcs_typed (c : Int) : pcs c = (typed c).map fun x => prep [x] := by
  have e : pcs c = (sig c).map prep := by
    unfold pcs sig
    rw [List.map_map]
    apply List.map_congr_left
    intro i hi
    exact (prep_sg (gOf_lt c) (uOf_lt c) (figs_lt c i hi)).symm
  obtain ⟨x, y, z, e1, e2⟩ := typed3 c
  rw [e, e1, e2]; rfl
theorem szs_loop (c : Int) : (pcs c).foldl szStep [0] = ofN (cum 0 (typed c)) := by
  have hq : ∀ x ∈ typed c, prep [x] = [34] ↔ x = 34 := fun x hx => by
    have h := List.all_eq_true.mp q34 x (typed_all c x hx)
    rw [beq_iff_eq] at h
    rw [prepS_ok (l := [x]) (fun y hy => by rw [List.mem_singleton.mp hy]; exact typed_all c x hx)]
    constructor
    · intro q
      rw [q] at h
      exact beq_iff_eq.mp (h.symm.trans (beq_self_eq_true _))
    · intro q
      rw [beq_iff_eq.mpr q] at h
      exact beq_iff_eq.mp h
  have := szStep_cum (typed c) hq [] 0
  rw [pcs_typed]
  exact this
theorem szs_tail (c : Int) : (ofN (cum 0 (typed c))).getLastD 0 = ((meant c).length : Int) := by
  have h := cum_last 0 (typed c)
  rw [prep_typed, Nat.zero_add] at h
  rw [← h]
  have hl := cum_len 0 (typed c)
  generalize cum 0 (typed c) = l at hl ⊢
  rw [List.getLastD_eq_getLast?, List.getLastD_eq_getLast?, List.getLast?_map]
  cases l.getLast? <;> rfl
end Mine

namespace Mine
open PySem PySem.W PySem.Calls PyProof.Rows

section
variable {w : World} {A : Around} {env : Env} {s : Shared}
/-- a list and a list -/
theorem wAddL {l b : Addr} {its its2 : Array Value} {Q : Value → Shared → Prop} (hl : s.heap.PlainList l its) (hb : s.heap.PlainList b its2) (hsz : its.size + its2.size ≤ 10000)
    (h : ∀ h', Ext s.heap h' → h'.PlainList s.heap.objs.size (its ++ its2) → Q (.ref s.heap.objs.size) { s with heap := h' }) : Wp w A (binaryOp .Add (.ref l) (.ref b)) Q s := by
  obtain ⟨n, e⟩ := hl
  obtain ⟨n2, e2⟩ := hb
  exact PySem.P.add_list e e2 (h _ (fun b o e => Heap.get?_push_of_some _ e) ⟨_, Heap.get?_push_size _ rfl⟩) (by rw [sizeLine_eq]; omega)
/-- a list so many times -/
theorem wMulL {l : Addr} {its : Array Value} {x : Int} {u : Tok} {Q : Value → Shared → Prop} (hl : s.heap.PlainList l its) (h0 : 0 ≤ x) (h1 : x ≤ 100) (hsz : its.size ≤ 100) (hne : its.isEmpty = false)
    (h : ∀ h' its', Ext s.heap h' → h'.PlainList s.heap.objs.size its' → its'.toList = (List.replicate x.toNat its.toList).flatten → Q (.ref s.heap.objs.size) { s with heap := h' }) : Wp w A (binaryOp .Mult (.ref l) (.int x u)) Q s := by
  obtain ⟨n, e⟩ := hl
  have hm : its.size * x.toNat ≤ 10000 := Nat.le_trans (Nat.mul_le_mul hsz (by omega : x.toNat ≤ 100)) (by decide)
  refine wpAny_binaryOp_repeat_ref (T := "list") (U := "int") (by decide) ⟨_, e, rfl⟩ (fun s' => typeIs_int s' x u) noFill_list_mul F.fills_int_mul F.slot_int_rmul repeat_list F.slot_int_index.lookup
    (call_meets F.slot_int_rmul (typeIs_int s x u) F.entry_int_rmul (F.args_int_rmul_2 _ _) (int___rmul___int_list x u l its n)
      ⟨e, rfl, ⟨_, e, rfl⟩, call_meets F.slot_list_mul ⟨_, e, rfl⟩ F.entry_list_mul (F.args_list_mul_2 _ _)
        (AutoListH.list___mul___list_int_3 l its n x u (by simp [Builtin.List.listFitsIndex]; omega) (by omega) (by simp [Builtin.List.listTooLong, sizeLine]; omega))
        ⟨e, h _ _ (fun b o e => Heap.get?_push_of_some _ e) ⟨_, Heap.get?_push_size _ rfl⟩ ?_⟩⟩)
  rw [hne, if_neg Bool.false_ne_true]
  generalize x.toNat = k
  have key : ∀ (k : Nat) (acc : Array Value), (List.foldl (fun x1 x2 => x1 ++ x2) acc (List.replicate k its)).toList = acc.toList ++ (List.replicate k its.toList).flatten := by
    intro k
    induction k with
    | zero => intro acc; simp
    | succ k ih =>
      intro acc
      rw [List.replicate_succ, List.foldl_cons, ih, List.replicate_succ, List.flatten_cons, Array.toList_append, List.append_assoc]
  rw [key]; simp
end
end Mine

namespace Mine
open PySem PySem.W PySem.Calls PyProof.Rows

theorem foldl_sz_len (pl : List (List Nat)) : ∀ l : List Int, 0 < l.length → 0 < (pl.foldl szStep l).length ∧ (pl.foldl szStep l).length ≤ l.length + 2 * pl.length := by
  induction pl with
  | nil => intro l h; exact ⟨h, Nat.le_refl _⟩
  | cons p r ih =>
    intro l h
    have h1 := szStep_len l p
    have h2 := ih (szStep l p) h1.2
    rw [List.foldl_cons, List.length_cons]
    exact ⟨h2.1, by omega⟩
/-- the loop that measures the pieces: statement 9 -/
theorem size_loop (w : World) (A : Around) (g : Heap) (L : Addr) (s : Shared) (h : Heap) (k0 : Nat) (m cm : Str → Option Value) (Q : Flow → Shared → Prop) (R : Rm A 5) (F : LS w g L m cm h)
    {P Z : Addr} {ps zs : Array Value} {pl : List (List Nat)} (m1 : m "pieces" = some (.ref P)) (m2 : m "sizes" = some (.ref Z)) (hP : h.IsList P ps) (hp : Paired RS ps.toList pl) (hpl : ∀ p ∈ pl, p.length ≤ 100) (hlen : pl.length ≤ 100)
    (hz : h.PlainList Z zs) (hzs : Paired RI zs.toList [0]) (hZP : P ≠ Z) (hZ : g.objs.size ≤ Z)
    (hK : ∀ h' k m' zs', LS w g L m' cm h' → (∀ b o, b ≠ L → b ≠ Z → h.get? b = some o → h'.get? b = some o) → (∀ x, x ≠ (Str.ofString "piece") → m' x = m x) → h'.PlainList Z zs' → Paired RI zs'.toList (pl.foldl szStep [0]) →
      Wp w A (execs (lawBody.drop 10) (Ev w L)) Q { s with heap := h', toks := k }) :
    Wp w A (execs (lawBody.drop 9) (Ev w L)) Q { s with heap := h, toks := k0 } := by
  refine wpAny_execs_cons ?_
  refine wForW _ (wN F.ns m1 ?_)
  refine wpAny_pyIter_list hP ?_
  dsimp only
  have hPlt : P < h.objs.size := by obtain ⟨o, e, _⟩ := hP; exact Heap.lt_size e
  have hZlt : Z < h.objs.size := by obtain ⟨n, e⟩ := hz; exact Heap.lt_size e
  have hLlt : L < h.objs.size := by obtain ⟨o, _, _, e, _⟩ := F.ns; exact Heap.lt_size e
  have W := Walks.list (prog := pw) (w := w) (A := A) R.1 h.objs.size P (Nat.ne_of_lt hPlt) ps
  have hx1 : Ext h (h.push { cls := .type "list_iterator", data := .fields #[.ref P, .int 0 0] }) := fun b o e => Heap.get?_push_of_some _ e
  have hit : (h.push { cls := .type "list_iterator", data := .fields #[.ref P, .int 0 0] }).IsListIter h.objs.size P 0 := ⟨_, Heap.get?_push_size _ rfl, rfl, rfl⟩
  generalize h.push { cls := .type "list_iterator", data := .fields #[.ref P, .int 0 0] } = h1 at hx1 hit
  have F1 := F.ext hx1
  have hsz : ps.size = pl.length := by rw [← hp.length]; exact (Array.length_toList).symm
  rw [hsz] at W
  have IL : h.objs.size ≠ L := Nat.ne_of_gt hLlt
  have IZ : h.objs.size ≠ Z := Nat.ne_of_gt hZlt
  have PL : P ≠ L := ne_ns hP F.ns
  have hgI : g.objs.size ≤ h.objs.size := Nat.le_trans F.fresh (Nat.le_of_lt hLlt)
  refine ⟨h.objs.size, _, _, pl.length, _, _, fun i s' => ∃ h' k m' zs', s' = { s with heap := h', toks := k } ∧ LS w g L m' cm h' ∧ (∀ b o, b ≠ L → b ≠ Z → h.get? b = some o → h'.get? b = some o) ∧ (∀ x, x ≠ (Str.ofString "piece") → m' x = m x) ∧
      h'.PlainList Z zs' ∧ Paired RI zs'.toList ((pl.take i).foldl szStep [0]), rfl, W, ⟨hit, hP.at fun o e => hx1 _ o e⟩, ?_, ?_, ?_⟩
  · exact ⟨h1, _, m, zs, rfl, F1, fun b o _ _ e => hx1 _ _ e, fun _ _ => rfl, hz.at fun o e => hx1 _ o e, hzs⟩
  · rintro i v s3 h3 tk hi ⟨h', k, m', zs', rfl, F', K', mm, hz', hzs'⟩ hSt hv hst3 hk3
    have ek : Heap.ExtBut h.objs.size h' h3 := fun b o hb e => hk3 b o (by simpa using hb) e
    have F3 := F'.butIt hSt.1 hgI ek
    have hz3 := hz'.extBut ek IZ.symm
    refine wpAny_assign_Name (wSt F3.ns fun h4 n4 s4 => ?_)
    have F4 := F3.stL n4 s4
    have hz4 := PlainList.upL hz3 F3.ns s4
    obtain ⟨p, hpi, tp, rfl⟩ : ∃ p, pl[i]? = some p ∧ RS v p := Paired.getL hp (by simpa using hv)
    dsimp only at F4 ⊢
    have hl0 := foldl_sz_len (pl.take i) [0] (by decide)
    have htk : (pl.take i).length ≤ 100 := by rw [List.length_take]; omega
    have hpm : p.length ≤ 100 := hpl p (List.mem_of_getElem? hpi)
    refine size_turn w A g L s h4 _ _ cm _ R F4 (p := p) (l := (pl.take i).foldl szStep [0]) rfl ((if_neg (by decide +kernel)).trans ((mm _ (by decide +kernel)).trans m2)) hz4 hzs' hl0.1 (by have := hl0.2; simp only [List.length_singleton] at this; omega) hpm hZ fun h5 k5 zs5 F5 e5 hz5 hzs5 => ?_
    have hlst : ∀ {b : Addr} {o : Obj}, b ≠ L → b ≠ Z → h3.get? b = some o → h5.get? b = some o := fun hb hb2 e => e5 _ _ hb2 (s4.extBut _ _ hb e)
    refine ⟨⟨h5, k5, _, zs5, rfl, F5, fun b o h1 h2 e => hlst h1 h2 (ek b o ?_ (K' b o h1 h2 e)), fun x hx => (if_neg hx).trans (mm x hx), hz5, ?_⟩, ?_⟩
    · exact Nat.ne_of_lt (Heap.lt_size e)
    · rw [List.take_add_one, hpi, List.foldl_append]; exact hzs5
    · obtain ⟨o, ho, r⟩ := hst3.1
      obtain ⟨o2, ho2, r2⟩ := hst3.2
      exact ⟨⟨o, hlst IL IZ ho, r⟩, ⟨o2, hlst PL hZP ho2, r2⟩⟩
  · rintro s3 h3 tk ⟨h', k, m', zs', rfl, F', K', mm, hz', hzs'⟩ hSt hk3
    have ek : Heap.ExtBut h.objs.size h' h3 := fun b o hb e => hk3 b o (by simpa using hb) e
    have F3 := F'.butIt hSt.1 hgI ek
    have hz3 := hz'.extBut ek IZ.symm
    rw [List.take_length] at hzs'
    refine wpAny_execs_nil (hK h3 tk m' zs' F3 (fun b o h1 h2 e => ek b o (Nat.ne_of_lt (Heap.lt_size e)) (K' b o h1 h2 e)) mm hz3 hzs')
end Mine

namespace Mine
open PySem PySem.W PySem.Calls PyProof.Rows

theorem pcs_small (c : Int) : ∀ l ∈ pcs c, l.length ≤ 100 := by
  intro l hl
  obtain ⟨i, hi, rfl⟩ := List.mem_map.mp hl
  have hi8 := figs_lt c i hi
  have : ∀ j : Fin 8, (pcL.getD j.val []).length ≤ 100 := by decide
  exact this ⟨i, hi8⟩
theorem Paired.rep {α β : Type} {F : α → β → Prop} {a : α} {b : β} (h : F a b) : ∀ n, Paired F (List.replicate n a) (List.replicate n b)
  | 0 => .nil
  | n + 1 => .cons h (Paired.rep h n)
/-- statements 8 to 11: the sizes, the word -/
theorem sizes_part (w : World) (A : Around) (g : Heap) (L : Addr) (s : Shared) (h : Heap) (k0 : Nat) (m cm : Str → Option Value) (Q : Flow → Shared → Prop) (R : Rm A 5) (F : LS w g L m cm h)
    {P : Addr} {ps : Array Value} {c : Int} (m1 : m "pieces" = some (.ref P)) (hP : h.IsList P ps) (hp : Paired RS ps.toList (pcs c))
    (hK : ∀ h' k m' Z zs t, LS w g L m' (fun y => if y = (Str.ofString "word") then some (.str (mkS (meant c)) t) else cm y) h' → (∀ b o, b ≠ L → b ≠ L + 2 → h.get? b = some o → h'.get? b = some o) → (∀ x, x ≠ (Str.ofString "sizes") → x ≠ (Str.ofString "piece") → m' x = m x) →
      m' "sizes" = some (.ref Z) → h'.PlainList Z zs → Paired RI zs.toList (ofN (szs c)) → Wp w A (execs (lawBody.drop 12) (Ev w L)) Q { s with heap := h', toks := k }) :
    Wp w A (execs (lawBody.drop 8) (Ev w L)) Q { s with heap := h, toks := k0 } := by
  have hgh : g.objs.size ≤ h.objs.size := Nat.le_trans F.fresh (Nat.le_of_lt (by obtain ⟨o, _, _, e, _⟩ := F.ns; exact Heap.lt_size e))
  have hPlt : P < h.objs.size := by obtain ⟨o, e, _⟩ := hP; exact Heap.lt_size e
  refine wpAny_execs_cons (wpAny_Assign_Name (wList (aInt (aNil ⟨by show 1 ≤ _; decide, fun h1 hx1 hl1 _ => ?_⟩))))
  dsimp only at hx1 hl1 ⊢
  have F1 := F.ext hx1
  refine wSt F1.ns fun h2 n2 s2 => ?_
  have F2 := F1.stL n2 s2
  have hz2 := PlainList.upL hl1 F1.ns s2
  have hP2 := IsList.upL (hP.at fun o e => hx1 _ o e) F1.ns s2
  have K2 : ∀ b o, b ≠ L → h.get? b = some o → h2.get? b = some o := fun b o hb e => s2.extBut b o hb (hx1 _ _ e)
  clear hx1 hl1 n2 s2 F1
  dsimp only at F2 ⊢
  have hpl := pcs_small c
  refine size_loop w A g L s h2 _ _ cm _ R F2 (P := P) (Z := h.objs.size) ((if_neg (by decide +kernel)).trans m1) rfl hP2 hp hpl (by show 3 ≤ 100; decide) hz2 (.cons ⟨_, rfl⟩ .nil) (Nat.ne_of_lt hPlt) hgh fun h3 k3 m3 zs F3 K3 mm3 hz3 hzs => ?_
  have q1 : m3 "pieces" = some (.ref P) := (mm3 _ (by decide +kernel)).trans ((if_neg (by decide +kernel)).trans m1)
  have q2 : m3 "sizes" = some (.ref h.objs.size) := (mm3 _ (by decide +kernel)).trans (if_pos rfl)
  have PL : P ≠ L := ne_ns hP F.ns
  have hP3 := hP2.at fun o e => K3 _ o PL (Nat.ne_of_lt hPlt) e
  have K3' : ∀ b o, b ≠ L → h.get? b = some o → h3.get? b = some o := fun b o hb e => K3 _ _ hb (Nat.ne_of_lt (Heap.lt_size e)) (K2 b o hb e)
  have mm3' : ∀ x, x ≠ (Str.ofString "sizes") → x ≠ (Str.ofString "piece") → m3 x = m x := fun x a b => (mm3 x b).trans (if_neg a)
  clear F2 hz2 hP2 K2 K3 mm3
  rw [szs_loop] at hzs
  have hzl : zs.size = (cum 0 (typed c)).length := by rw [← Array.length_toList, hzs.length, List.length_map]
  have hcl := cum_len 0 (typed c)
  have hdl := dbl_len (typed c)
  have hty : (typed c).length = 3 := by obtain ⟨x, y, z, _, ety⟩ := typed3 c; rw [ety]; rfl
  obtain ⟨tl, hlast⟩ := last_of hzs (by rw [List.length_map]; omega)
  rw [szs_tail] at hlast
  have hlast' : zs[zs.size - 1]? = some (.int ((meant c).length : Int) tl) := by rw [← hlast]; simp
  refine wpAny_execs_cons (wpAny_Assign_Name (wpAny_BinOp (wN F3.ns q2 (wpAny_BinOp ?_))))
  refine wList (aSub (wLast F3.ns q2 hz3.isList (by omega) (by omega) hlast' fun k4 => aNil ⟨by show 1 ≤ _; decide, fun h4 hx4 hl4 _ => ?_⟩))
  dsimp only at hx4 hl4 ⊢
  refine wpAny_Constant_int ?_
  refine wMulL hl4 (by decide) (by decide) (by show 1 ≤ _; decide) rfl fun h5 its hx5 hl5 hits => ?_
  dsimp only at hx5 hl5 ⊢
  refine wAddL (hz3.at fun o e => (hx4.trans hx5) _ o e) hl5 ?_ fun h6 hx6 hl6 => ?_
  · have : its.size = 4 := by rw [← Array.length_toList, hits]; rfl
    omega
  dsimp only at hx6 hl6 ⊢
  have F6 := F3.ext ((hx4.trans hx5).trans hx6)
  have K6 : ∀ b o, b ≠ L → h.get? b = some o → h6.get? b = some o := fun b o hb e => ((hx4.trans hx5).trans hx6) _ _ (K3' b o hb e)
  have hP6 := hP3.at fun o e => ((hx4.trans hx5).trans hx6) _ o e
  have hZs : Paired RI (zs ++ its).toList (ofN (szs c)) := by
    rw [Array.toList_append, hits]
    unfold szs
    rw [ofN, List.map_append, List.map_replicate]
    refine Paired.app hzs ?_
    exact Paired.rep (n := 4) ⟨tl, rfl⟩
  generalize h5.objs.size = Z2 at hl6
  refine wSt F6.ns fun h7 n7 s7 => ?_
  have F7 := F6.stL n7 s7
  have hz7 := PlainList.upL hl6 F6.ns s7
  have hP7 := IsList.upL hP6 F6.ns s7
  have K7 : ∀ b o, b ≠ L → h.get? b = some o → h7.get? b = some o := fun b o hb e => s7.extBut b o hb (K6 b o hb e)
  clear n7 s7 hx4 hx5 hx6 F6 F3 hl6 hP6 K6 hl4 hl5 hz3 hP3 K3'
  dsimp only at F7 ⊢
  refine wpAny_execs_cons (wpAny_Assign_Name (MethodCall_ (wpAny_Constant_str (GM.join (callWith_method1 (aN (wN F7.ns ((if_neg (by decide +kernel)).trans q1) (aNil ?_))))))))
  refine callJoin hP7 hp (by show 3 ≤ 1000; decide) hpl fun t8 k8 => ?_
  refine wStc (c := L + 2) (by with_unfolding_all rfl) F7.word fun h9 c9 s9 => ?_
  have F9 := F7.stC (n := "word") (c := L + 2) (.inr (.inl ⟨rfl, rfl⟩)) c9 s9
  have hz9 := hz7.extBut s9.extBut (ne_cell hz7.isList F7.word)
  rw [show (pcs c).flatten = meant c from rfl] at F9
  exact hK h9 _ _ Z2 _ t8 F9 (fun b o h1 h2 e => s9.extBut b o h2 (K7 b o h1 e)) (fun x a b => (if_neg a).trans (mm3' x a b)) (if_pos rfl) hz9 hZs
end Mine

namespace Mine
open PySem PySem.W PySem.Calls PyProof.Rows

theorem ltCps_dec (a b : List Nat) : PySem.Spec.ltCps a b = decide (a < b) := ltCps_eq ..
theorem rising_pw : ∀ (l : List Str) (p : Str), PyProof.Rows.risingS p l = true → ((p :: l).map Lx).Pairwise (fun a b => ¬ b < a)
  | [], p, _ => List.pairwise_singleton ..
  | x :: r, p, h => by
    have h' : (!PySem.Spec.ltCps x.cps.toList p.cps.toList && PyProof.Rows.risingS x r) = true := h
    rw [Bool.and_eq_true, ltCps_dec] at h'
    obtain ⟨h1, h2⟩ := h'
    have h3 : ¬ Lx x < Lx p := by
      intro q
      rw [decide_eq_true q] at h1; cases h1
    have ih := rising_pw r x h2
    refine List.pairwise_cons.mpr ⟨fun b hb => ?_, ih⟩
    rcases List.mem_cons.mp hb with rfl | hb
    · exact h3
    · intro q
      have h4 := (List.pairwise_cons.mp ih).1 b hb
      by_cases e : b = Lx x
      · subst e; exact h3 q
      · have h5 : Lx x < b := lt_or h4 e
        exact h3 (lt_tr h5 q)
theorem sorted_pw : ∀ (l : List Str), PyProof.Rows.sortedS l = true → (l.map Lx).Pairwise (fun a b => ¬ b < a)
  | [], _ => List.Pairwise.nil
  | x :: r, h => rising_pw r x h
theorem strs_paired : ∀ {vs : List Value} {ss : List Str}, StrsAre vs ss → Paired RS vs (ss.map Lx)
  | _, _, .nil => .nil
  | _, _, .cons x t h => .cons ⟨t, by rw [mkS_Lx]⟩ (strs_paired h)
/-- sorted, of texts -/
theorem sortedTexts {w : World} {A : Around} {s : Shared} {l : Addr} {items : Array Value} {ms oth : List (List Nat)} {Q : Value → Shared → Prop} (hl : s.heap.IsList l items) (hp : Paired RS items.toList ms) (hm : ms.Perm oth) (hr : oth.Pairwise (· < ·)) (h64 : ms.length < 64)
    (h : ∀ h' D k items', Ext s.heap h' → s.heap.objs.size ≤ D → h'.PlainList D items' → Paired RS items'.toList oth → Q (.ref D) { s with heap := h', toks := k }) : Wp w A (call (.builtin "sorted") [.ref l]) Q s := by
  have hl' : s.heap.IsList l items.toList.toArray := by rw [Array.toArray_toList]; exact hl
  refine PyProof.Rows.sorted_strs hl' (strsAre_of hp) (by rw [hp.length]; exact h64) fun out ss' a1 a2 a3 => ?_
  obtain ⟨e, he⟩ := sortedAll_at s.heap items.toList out
  refine h _ _ s.toks out (fun b o q => sortedAll_old q) (Nat.le_succ _) ⟨e, he⟩ ?_
  have h1 := strs_paired a1
  have h2 := sorted_pw _ a3
  have h3 : (ss'.map Lx).Perm oth := by
    have := a2.map Lx
    rw [List.map_map, show Lx ∘ mkS = id from rfl, List.map_id] at this
    exact this.trans hm
  have h4 : ss'.map Lx = oth := List.Perm.eq_of_pairwise (le := fun a b => ¬ b < a) (fun a b _ _ q1 q2 => by
    by_cases e : a = b
    · exact e
    · exact absurd (lt_or q2 e) q1) h2 (hr.imp fun {a b} q r => List.lt_irrefl _ (lt_tr q r)) h3
  rw [h4] at h1
  exact h1
/-- the other names' meanings, in order -/
noncomputable def othOf (xs : List (List Nat)) (W : List Nat) : List (List Nat) := (xs.map prep).filter (· != W)
/-- statement 12 -/
theorem others_part (w : World) (A : Around) (g : Heap) (L : Addr) (s : Shared) (h : Heap) (k0 : Nat) (m cm : Str → Option Value) (Q : Flow → Shared → Prop) (R : Rm A 5) (F : LS w g L m cm h)
    {ld : Addr} {lits : Array Value} {xs : List (List Nat)} {ps : List (List Nat × List Nat)} {W : List Nat} {tw : Tok} (m5 : m "laid" = some (.ref ld)) (c2 : cm "word" = some (.str (mkS W) tw)) (hd : h.IsList ld lits) (hp : Paired (TupIs h) lits.toList ps) (hI : Inv (xs, ps)) (h5 : ps.length ≤ 5)
    (hK : ∀ h' k m' O oits, LS w g L m' cm h' → (∀ b o, b ≠ L → h.get? b = some o → h'.get? b = some o) → (∀ x, x ≠ (Str.ofString "others") → m' x = m x) → m' "others" = some (.ref O) → h'.PlainList O oits → Paired RS oits.toList (othOf xs W) →
      Wp w A (execs (lawBody.drop 13) (Ev w L)) Q { s with heap := h', toks := k }) :
    Wp w A (execs (lawBody.drop 12) (Ev w L)) Q { s with heap := h, toks := k0 } := by
  have hcw : h.IsCell (L + 2) (some (.str (mkS W) tw)) := by rw [← c2]; exact F.word
  refine wpAny_execs_cons (wpAny_Assign_Name ?_)
  refine wCallB F.S (id := "sorted") (by kernel_rfl) ?_
  refine wCompG (TupIs h) RS (fun q => q.1 != W) (fun q => q.1) (cl := [("word", L + 2)]) (by with_unfolding_all rfl) (fun v a b => TupIs_uniq) ?_
  refine wN F.ns m5 ⟨ps, seqList R.1 hd hp, by omega, ?_, ?_, ?_⟩
  · rintro C a v s3 m3 E' ha ⟨b, t, u, rfl, hT⟩ hn3 hm3 hx3
    refine forIn1 (wpAny_isTrue_Compare1 (wPairAt (i := 0) hn3 hm3 (hT.keeps hx3) (by decide) rfl fun k => ?_))
    refine wNc (c := L + 2) rfl (hcw.keeps hx3) (PySem.P.ne_str (wpAny_truthy_bool ⟨rfl, _, _, rfl, fun b o e => e⟩))
  · rintro C a v s3 m3 ha ⟨b, t, u, rfl, hT⟩ hq hn3 hm3 hx3
    exact wPairAt (i := 0) hn3 hm3 (hT.keeps hx3) (by decide) rfl fun k => ⟨⟨t, rfl⟩, _, _, rfl, fun b o e => e⟩
  intro D h1 k1 ys hD _ hli hpy hx1
  dsimp only at hx1 ⊢
  have e1 : (xs.map fun t => (prep t, t)).map (·.1) = xs.map prep := by rw [List.map_map]; rfl
  have hpm : (ps.map (·.1)).Perm (xs.map prep) := by rw [← e1]; exact (hI.perm.map _).symm
  have e2 : (ps.filter fun q => q.1 != W).map (fun q => q.1) = (ps.map (·.1)).filter (· != W) := by rw [List.filter_map]; rfl
  rw [e2] at hpy
  have hlen : ((ps.map (·.1)).filter (· != W)).length ≤ 5 := Nat.le_trans (List.length_filter_le ..) (by rw [List.length_map]; exact h5)
  refine sortedTexts hli hpy (hpm.filter _) (List.Pairwise.filter _ hI.rise) (by omega) fun h2 O k2 oits hx2 hO hl2 hp2 => ?_
  dsimp only at hx2 hO ⊢
  have F2 := (F.ext hx1).ext hx2
  refine wSt F2.ns fun h3 n3 s3 => ?_
  have F3 := F2.stL n3 s3
  exact hK h3 _ _ O oits F3 (fun b o hb e => s3.extBut b o hb (hx2 _ _ (hx1 _ _ e))) (fun x hx => if_neg hx) (if_pos rfl) (PlainList.upL hl2 F2.ns s3) hp2
end Mine

namespace Mine
open PySem PySem.W PySem.Calls PyProof.Rows

section
variable {w : World} {A : Around} {env : Env}
theorem wSliceFrom {value : Expr} {lower : Expr} {p pos : Pos} {Q : Value → Shared → Prop} {s : Shared}
    (h : Wp w A (eval value env) (fun o s₁ => Wp w A (eval lower env) (fun vu s₃ => ∃ (l : Addr) (items : Array Value) (b : Nat) (k : Tok), o = .ref l ∧ s₃.heap.IsList l items ∧ items.size ≤ 1000 ∧ vu = .int (b : Int) k ∧
      ∀ h' D, Ext s₃.heap h' → s₃.heap.objs.size ≤ D → h'.PlainList D (items.toList.drop b).toArray → Q (.ref D) { s₃ with heap := h' }) s₁) s)
    (ht : ∀ o r, letTemporaryGo value o r = pure () := by intro _ _; rfl) : Wp w A (eval (.Subscript value (.Slice (some lower) none none p) pos) env) Q s := by
  refine wpAny_Subscript_list_slice (wpAny_mono h (fun o s1 h1 => wpAny_evalPart_some (wpAny_mono h1 (fun vu s3 h3 => wpAny_evalPart_none ?_) fun _ _ x => x)) fun _ _ x => x) ht
  obtain ⟨l, items, b, k, rfl, hl, hsz, rfl, hq⟩ := h3
  refine ⟨l, items, some (b : Int), none, rfl, hl, by show _ ≤ 2 ^ 24; omega, .int _ _, .none, ?_⟩
  rw [slicePick_from']
  have e : s3.heap.objs.size + 1 = (s3.heap.push { cls := .type "slice", data := .fields #[.int (b : Int) k, .none, .none] }).objs.size := (Heap.size_push ..).symm
  refine hq _ _ (fun b o e => Heap.get?_push_of_some _ (Heap.get?_push_of_some _ e)) (Nat.le_succ _) ⟨0, ?_⟩
  rw [e]
  exact Heap.get?_push_size _ rfl
end
/-- statements 13 to 15: known, place, line -/
theorem line_part (w : World) (A : Around) (g : Heap) (L : Addr) (s : Shared) (h : Heap) (k0 : Nat) (m cm : Str → Option Value) (Q : Flow → Shared → Prop) (R : Rm A 5) (F : LS w g L m cm h)
    {ld O : Addr} {lits oits : Array Value} {oth : List (List Nat)} {W : List Nat} {tw : Tok} {n : Nat} (m5 : m "laid" = some (.ref ld)) (m6 : m "others" = some (.ref O)) (c2 : cm "word" = some (.str (mkS W) tw)) (hd : h.IsList ld lits) (hn : lits.size = n)
    (ho : h.PlainList O oits) (hp : Paired RS oits.toList oth) (hlo : oth.length ≤ n) (hln : n ≤ 900)
    (hK : ∀ h' k m' T tits t1 t2, LS w g L m' (fun y => if y = (Str.ofString "line") then some (.ref T) else cm y) h' → (∀ b o, b ≠ L → b ≠ L + 3 → h.get? b = some o → h'.get? b = some o) → (∀ x, x ≠ (Str.ofString "known") → x ≠ (Str.ofString "place") → m' x = m x) →
      m' "known" = some (.int ((n - oth.length : Nat) : Int) t1) → m' "place" = some (.int ((oth.countP fun x => decide (x < W) : Nat) : Int) t2) → h'.PlainList T tits → Paired RS tits.toList (lineOf oth W (oth.countP fun x => decide (x < W))) →
      Wp w A (execs (lawBody.drop 16) (Ev w L)) Q { s with heap := h', toks := k }) :
    Wp w A (execs (lawBody.drop 13) (Ev w L)) Q { s with heap := h, toks := k0 } := by
  have hcw : h.IsCell (L + 2) (some (.str (mkS W) tw)) := by rw [← c2]; exact F.word
  have hos : oits.size = oth.length := by rw [← hp.length]; exact (Array.length_toList).symm
  refine wpAny_execs_cons (wpAny_Assign_Name (wpAny_BinOp ?_))
  refine wCallB F.S (id := "len") (by kernel_rfl) (wN F.ns m5 (call_len_list hd (by omega) ?_))
  refine wCallB F.S (id := "len") (by kernel_rfl) (wN F.ns m6 (call_len_list ho.isList (by omega) ?_))
  refine sub_int ?_
  rw [show ((lits.size : Int) - (oits.size : Int)) = ((n - oth.length : Nat) : Int) by omega]
  refine wSt F.ns fun h1 n1 s1 => ?_
  have F1 := F.stL n1 s1
  have ho1 := PlainList.upL ho F.ns s1
  have K1 : ∀ b o, b ≠ L → h.get? b = some o → h1.get? b = some o := fun b o hb e => s1.extBut b o hb e
  have hcw1 : h1.IsCell (L + 2) (some (.str (mkS W) tw)) := by rw [← c2]; exact F1.word
  clear n1 s1
  dsimp only at F1 ⊢
  refine wpAny_execs_cons (wpAny_Assign_Name ?_)
  refine wCallB F1.S (id := "len") (by kernel_rfl) ?_
  refine wCompG RS RS (fun x => decide (x < W)) (fun x => x) (cl := [("word", L + 2)]) (by with_unfolding_all rfl) (fun v a b => RS_uniq) ?_
  refine wN F1.ns ((if_neg (by decide +kernel)).trans m6) ⟨oth, seqList R.1 ho1.isList hp, by omega, ?_, ?_, ?_⟩
  · rintro C a v s3 m3 E' ha ⟨t, rfl⟩ hn3 hm3 hx3
    refine forIn1 (wpAny_isTrue_Compare1 (wN hn3 hm3 ?_))
    refine wNc (c := L + 2) rfl (hcw1.keeps hx3) (ltS rfl (wpAny_truthy_bool ⟨rfl, _, _, rfl, fun b o e => e⟩))
  · rintro C a v s3 m3 ha ⟨t, rfl⟩ hq hn3 hm3 hx3
    exact wN hn3 hm3 ⟨⟨t, rfl⟩, _, _, rfl, fun b o e => e⟩
  intro D h2 k2 ys hD _ hli hpy hx2
  dsimp only at hx2 ⊢
  rw [List.map_id'] at hpy
  have hys : ys.size = oth.countP fun x => decide (x < W) := by rw [← Array.length_toList, hpy.length]; exact List.countP_eq_length_filter.symm
  have hcl : (oth.countP fun x => decide (x < W)) ≤ oth.length := List.countP_le_length
  refine call_len_list hli (by omega) ?_
  rw [hys]
  generalize hpl : (oth.countP fun x => decide (x < W)) = p at hcl hK ⊢
  have F2 := F1.ext hx2
  refine wSt F2.ns fun h3 n3 s3 => ?_
  have F3 := F2.stL n3 s3
  have ho3 := PlainList.upL (ho1.at fun o e => hx2 _ o e) F2.ns s3
  have hcw3 : h3.IsCell (L + 2) (some (.str (mkS W) tw)) := by rw [← c2]; exact F3.word
  have K3 : ∀ b o, b ≠ L → h.get? b = some o → h3.get? b = some o := fun b o hb e => s3.extBut b o hb (hx2 _ _ (K1 b o hb e))
  clear n3 s3 hx2 F2 F1 ho1 hli hpy hys K1 hcw1
  dsimp only at F3 ⊢
  have q6 : ∀ v v2 : Value, (if (Str.ofString "others") = (Str.ofString "place") then some v else if (Str.ofString "others") = (Str.ofString "known") then some v2 else m (Str.ofString "others")) = some (.ref O) := fun v v2 => (if_neg (by decide +kernel)).trans ((if_neg (by decide +kernel)).trans m6)
  refine wpAny_execs_cons (wpAny_Assign_Name (wpAny_BinOp (wpAny_BinOp ?_)))
  refine wSliceTo (wN F3.ns (q6 _ _) (wN F3.ns rfl ⟨O, oits, p, _, rfl, ho3.isList, by omega, rfl, fun h4 D4 hx4 hD4 hl4 => ?_⟩))
  refine wList (aN (wNc (c := L + 2) (by with_unfolding_all rfl) (hcw3.keeps hx4) (aNil ⟨by show 1 ≤ _; decide, fun h5 hx5 hl5 _ => ?_⟩)))
  dsimp only at hx4 hl4 hx5 hl5 ⊢
  refine wAddL (hl4.at fun o e => hx5 _ o e) hl5 (by simp; omega) fun h6 hx6 hl6 => ?_
  dsimp only at hx6 hl6 ⊢
  have hx36 := (hx4.trans hx5).trans hx6
  have F6 := F3.ext hx36
  refine wSliceFrom (wN F6.ns (q6 _ _) (wN F6.ns rfl ⟨O, oits, p, _, rfl, (ho3.at fun o e => hx36 _ o e).isList, by omega, rfl, fun h7 D7 hx7 hD7 hl7 => ?_⟩))
  dsimp only at hx7 hl7 ⊢
  refine wAddL (hl6.at fun o e => hx7 _ o e) hl7 (by simp; omega) fun h8 hx8 hl8 => ?_
  dsimp only at hx8 hl8 ⊢
  have F8 := (F6.ext hx7).ext hx8
  have K8 : ∀ b o, b ≠ L → h.get? b = some o → h8.get? b = some o := fun b o hb e => hx8 _ _ (hx7 _ _ (hx36 _ _ (K3 b o hb e)))
  generalize h7.objs.size = T at hl8 ⊢
  refine wStc (c := L + 3) (by with_unfolding_all rfl) F8.line fun h9 c9 s9 => ?_
  have F9 := F8.stC (n := "line") (c := L + 3) (.inr (.inr (.inl ⟨rfl, rfl⟩))) c9 s9
  have hl9 := hl8.extBut s9.extBut (ne_cell hl8.isList F8.line)
  refine hK h9 _ _ T _ _ _ F9 (fun b o h1 h2 e => s9.extBut b o h2 (K8 b o h1 e)) (fun x a b => (if_neg b).trans (if_neg a)) ((if_neg (by decide +kernel)).trans (if_pos rfl)) (if_pos rfl) hl9 ?_
  rw [Array.toList_append, Array.toList_append]
  unfold lineOf
  exact Paired.app (Paired.app (by simpa using Paired.tk hp p) (.cons ⟨tw, rfl⟩ .nil)) (by simpa using Paired.dr hp p)
end Mine

namespace Mine
open PySem PySem.W PySem.Calls PyProof.Rows

noncomputable abbrev RN (v : Value) (n : Nat) : Prop := ∃ t, v = .int (n : Int) t
theorem RN_uniq {v : Value} {a b : Nat} (h : RN v a) (h' : RN v b) : a = b := by
  obtain ⟨t, rfl⟩ := h; obtain ⟨u, e⟩ := h'
  injection e with e1 e2; exact Int.ofNat_inj.mp e1
section
variable {w : World} {A : Around} {env : Env} {s : Shared}
/-- a built-in type called by its name with one thing handed -/
theorem wCallT {T : String} {np pos : Pos} {n : Str} {e : Expr} {Q : Value → Shared → Prop} (S : Stat w s.heap) (hv : bootBuiltins n = some (.type T))
    (h : Wp w A (eval e env) (fun v s' => Wp w A (call (.type T) [v]) Q s') s)
    (he : starEach [e] env = [(false, eval e env)] := by kernel_rfl)
    (h0 : nsFind (mgEs w.params) n = none := by kernel_rfl) (hn : n ≠ "__name__" := by decide +kernel)
    (hg : env.globals = mainGlobals := by kernel_rfl) (hb : env.builtins = builtinsNs := by kernel_rfl) (hk : env.scope.kind = .function := by kernel_rfl) (hl : env.kindOf n = some .globalImplicit := by kernel_rfl) (hd : (n == ("__debug__" : Str)) = false := by decide +kernel) :
    Wp w A (eval (.Call (.Name n np) [e] [] pos) env) Q s := by
  refine Call_ (wB S h0 hv ?_ (hn := hn) (hg := hg) (hb := hb) (hk := hk) (hl := hl) (hd := hd))
  exact PyProof.Rows.callWith_type1 (args_cons (wpAny_mono h (fun v s' hv => args_nil hv) fun _ _ x => x) he) he
/-- a def of the top called by its name with things handed -/
theorem wCallV {f : Addr} {o : Obj} {fd : FuncData} {np pos : Pos} {n : Str} {e : Expr} {rest : List Expr} {Q : Value → Shared → Prop} (S : Stat w s.heap) (hv : nsFind (mgEs w.params) n = some (.ref f)) (ho : (K w.params).lookup f = some o) (hd : o.data = .func fd)
    (h : Wp w A (spliced (backTo pos (starEach (e :: rest) env))) (fun vs s' => Stat w s'.heap ∧ Wp w A (call (.ref f) vs) Q s') s)
    (he : starEach (e :: rest) env = (false, eval e env) :: starEach rest env := by kernel_rfl)
    (hg : env.globals = mainGlobals := by kernel_rfl) (hk : env.scope.kind = .function := by kernel_rfl) (hl : env.kindOf n = some .globalImplicit := by kernel_rfl) (hdb : (n == ("__debug__" : Str)) = false := by decide +kernel) :
    Wp w A (eval (.Call (.Name n np) (e :: rest) [] pos) env) Q s := by
  refine Call_ (wG S hv ?_ (hg := hg) (hk := hk) (hl := hl) (hd := hdb))
  exact callWith_def hd (wpAny_mono h (fun v s' hv => ⟨hv.1.at ho, hv.2⟩) fun _ _ x => x) he
/-- range(n) -/
theorem call_range {n : Nat} {t : Tok} {Q : Value → Shared → Prop} (h : ∀ h' r k t u v, Ext s.heap h' → s.heap.objs.size ≤ r → IsRange h' r 0 (n : Int) 1 t u v → Q (.ref r) { s with heap := h', toks := k }) : Wp w A (call (.type "range") [.int (n : Int) t]) Q s :=
  PySem.call_range_1 (h _ _ _ _ _ _ (fun b o e => Heap.get?_push_of_some _ e) (Nat.le_refl _) (IsRange.new ..))
theorem range_small {n : Nat} (hn : n ≤ 10000) : Builtin.Range.small 0 (n : Int) 1 = true := small_one (by decide) (by decide) (by omega) (by omega)
theorem range_size {n : Nat} : Builtin.Range.rangeSize 0 (n : Int) 1 = (n : Int) := by rw [rangeSize_one]; split <;> omega
theorem seqRange {r : Addr} {n : Nat} {t u v : Tok} (hh : A.handled = none) (hr : IsRange s.heap r 0 (n : Int) 1 t u v) (hn : n ≤ 10000) : Seqs w A (.ref r) s (List.range n).length (fun i v => ∃ a, (List.range n)[i]? = some a ∧ RN v a) := by
  intro Q h
  refine wpAny_pyIter_range hr (range_small hn) ?_
  rw [range_size]
  have W := Walks.range (prog := pw) (w := w) (A := A) hh s.heap.objs.size 0 1 n
  have W' : Walks pw w A s.heap.objs.size [s.heap.objs.size] [s.heap.objs.size] (List.range n).length (fun i v => ∃ a, (List.range n)[i]? = some a ∧ RN v a) _ := {
    sub := W.sub
    frame := W.frame
    item := fun i s Q E hi st hQ => W.item i s Q E (by rw [List.length_range] at hi; exact hi) st (fun v h' tk hv => hQ v h' tk (by
      obtain ⟨t, rfl⟩ := hv
      rw [List.length_range] at hi
      refine ⟨i, List.getElem?_range hi, t, ?_⟩
      rw [Int.zero_add, Int.mul_one]))
    done := fun s Q E st hQ => W.done s Q E (by rw [List.length_range] at st; exact st) hQ
    self := W.self }
  refine h _ _ _ _ _ W' (fun b o e => Heap.get?_push_of_some _ e) (fun b hb => ?_) ?_ (fun b hb => ?_)
  · rw [List.mem_singleton.mp hb]; exact fresh_at (Nat.le_refl _)
  · show IsRangeIter _ _ _ _ _
    have e1 : (0 : Int) + ((0 : Nat) : Int) * 1 = 0 := by omega
    have e2 : (n : Int) - ((0 : Nat) : Int) = n := by omega
    rw [e1, e2]
    exact Heap.get?_push_size _ rfl
  · rw [List.mem_singleton.mp hb, Heap.size_push]; exact Nat.lt_succ_self _
end
/-- the law's names turned, all else kept -/
theorem LS.stX {w : World} {g h h' : Heap} {L : Addr} {m cm : Str → Option Value} (x : LS w g L m cm h) {m' : Str → Option Value} (hn : h'.Ns L m') (hs : Heap.ExtBut L h h') : LS w g L m' cm h' := by
  have l1 := x.lt
  have l2 := x.fresh
  have c : ∀ {a : Addr} {v : Option Value}, h.IsCell a v → a ≠ L → h'.IsCell a v := fun y ha => let ⟨o, ho, hd⟩ := y; ⟨o, hs _ _ ha ho, hd⟩
  have nf : ∀ o vs, h.get? L = some o → o.data ≠ .fields vs := by
    intro o vs e
    obtain ⟨o', es, ep, ho, hd, _⟩ := x.ns
    rw [ho] at e; cases e; rw [hd]; exact fun q => nomatch q
  have k0 : (Mine.K w.params).lookup L = none := K_big _ (Nat.lt_of_lt_of_le l1 l2)
  have n1 : L + 1 ≠ L := Nat.succ_ne_self _
  have n2 : L + 2 ≠ L := Nat.ne_of_gt (Nat.lt_add_of_pos_right (by decide))
  have n3 : L + 3 ≠ L := Nat.ne_of_gt (Nat.lt_add_of_pos_right (by decide))
  have n4 : L + 4 ≠ L := Nat.ne_of_gt (Nat.lt_add_of_pos_right (by decide))
  exact ⟨x.fresh, hn, c x.script n1, c x.word n2, c x.line n3, c x.body n4, x.S.but hs k0 (by show (0 : Nat) ≠ L; omega) (by show (2 : Nat) ≠ L; omega), x.B.but hs (by show (4 : Nat) ≠ L; omega), x.T.but hs (by show (163 : Nat) ≠ L; omega) nf, x.T'.but hs (by show (177 : Nat) ≠ L; omega) nf,
    fun b o h1 h2 e' => hs b o (Nat.ne_of_lt (Nat.lt_of_lt_of_le (Heap.lt_size e') x.fresh)) (x.keep b o h1 h2 e'), x.lt⟩
/-- statement 16: what neighbours share -/
theorem shares_part (w : World) (A : Around) (g : Heap) (L : Addr) (s : Shared) (h : Heap) (k0 : Nat) (m cm : Str → Option Value) (Q : Flow → Shared → Prop) (R : Rm A 5) (F : LS w g L m cm h)
    {O T : Addr} {oits tits : Array Value} {oth : List (List Nat)} {W : List Nat} {p : Nat} (m6 : m "others" = some (.ref O)) (c3 : cm "line" = some (.ref T)) (ho : h.IsList O oits) (hos : oits.size = oth.length) (hlo : oth.length ≤ 900)
    (hT : h.IsList T tits) (hp : Paired RS tits.toList (lineOf oth W p)) (hpl : p ≤ oth.length) (hsm : ∀ x ∈ lineOf oth W p, x.length ≤ 1000)
    (hK : ∀ h' k m' H hits, LS w g L m' cm h' → (∀ b o, b ≠ L → h.get? b = some o → h'.get? b = some o) → (∀ x, x ≠ (Str.ofString "shares") → m' x = m x) →
      m' "shares" = some (.ref H) → h'.PlainList H hits → Paired RN hits.toList (shOf oth W p) → h.get? H = none →
      Wp w A (execs (lawBody.drop 17) (Ev w L)) Q { s with heap := h', toks := k }) :
    Wp w A (execs (lawBody.drop 16) (Ev w L)) Q { s with heap := h, toks := k0 } := by
  have hll : (lineOf oth W p).length = oth.length + 1 := by
    unfold lineOf
    rw [List.length_append, List.length_append, List.length_take, List.length_drop, List.length_singleton]; omega
  have hct : h.IsCell (L + 3) (some (.ref T)) := by rw [← c3]; exact F.line
  refine wpAny_execs_cons ?_
  refine wCompA RN RN (fun _ => true) (fun k => lcp ((lineOf oth W p).getD k []) ((lineOf oth W p).getD (k + 1) [])) (m := m) (cl := [("line", L + 3)]) (by with_unfolding_all rfl) (by with_unfolding_all rfl) (fun v a b => RN_uniq) ?_
  refine wCallT F.S (T := "range") (by kernel_rfl) (wCallB F.S (id := "len") (by kernel_rfl) (wN F.ns m6 (call_len_list ho (by omega) ?_)))
  rw [hos]
  refine call_range fun h1 r k1 t1 u1 v1 hx1 hr1 hir => ?_
  dsimp only at hx1 hir ⊢
  have F1 := F.ext hx1
  refine ⟨List.range oth.length, seqRange R.1 hir (by omega), by rw [List.length_range]; omega, F1.ns, ?_, ?_, ?_⟩
  · rintro C a v s3 m3 E' ha hv hn3 hm3 hx3
    exact forIn0 ⟨rfl, _, _, rfl, fun b o e => e⟩
  · rintro C a v s3 m3 ha ⟨u, rfl⟩ hq hn3 hm3 hx3
    have hi := List.mem_range.mp ha
    have F3 := F1.ext hx3
    have hT3 := hT.at fun o e => hx3 _ o (hx1 _ o e)
    have hc3 := (hct.keeps hx1).keeps hx3
    obtain ⟨ta, ea⟩ := getDItem hp (i := a) (by omega)
    obtain ⟨tb, eb⟩ := getDItem hp (i := a + 1) (by omega)
    have sm : ∀ i, i < (lineOf oth W p).length → ((lineOf oth W p).getD i []).length ≤ 1000 := fun i hi => by
      rw [List.getD_eq_getElem?_getD, List.getElem?_eq_getElem hi]
      exact hsm _ (List.getElem_mem _)
    refine wCallV F3.S (f := 175) (o := o175 w.params) (by kernel_rfl) (by kernel_rfl) rfl ?_
    refine aSub (wpAny_Subscript_Name slot_list_getitem.lookup (wNc (c := L + 3) rfl hc3 (wN hn3 hm3 ⟨hT3.typeIs, ?_⟩)))
    refine wpAny_getItem_list hT3 (by omega) (by omega) (by rw [Int.toNat_natCast, ← Array.getElem?_toList]; exact ea) ?_
    refine aSub ?_
    refine Subscript_ ?_
    refine wNc (c := L + 3) rfl hc3 ?_
    refine wpAny_BinOp (wN hn3 hm3 (wpAny_Constant_int (add_int ?_)))
    refine tail_any (T := "list") (id := "list.__getitem__") hT3.typeIs slot_list_getitem.lookup ?_ rfl
    refine wpAny_getItem_list hT3 (by omega) (by omega) (by rw [show ((a : Int) + 1).toNat = a + 1 by omega, ← Array.getElem?_toList]; exact eb) ?_
    refine aNil ⟨F3.S, ?_⟩
    refine shared_ok w _ _ _ _ (by rw [mkS_len]; have := sm a (by omega); omega) (by rw [mkS_len]; have := sm (a + 1) (by omega); omega) _ _ _ (R.le (by omega)) F3.S fun h4 k4 t4 hx4 => ?_
    exact ⟨⟨t4, rfl⟩, _, _, rfl, hx4⟩
  intro D h2 k2 ys hD hpl2 _ hpy hn2 hk2
  rw [List.filter_eq_self.mpr (fun _ _ => rfl)] at hpy
  have ek : Heap.ExtBut L h1 h2 := hk2
  have F2 := F1.stX hn2 ek
  exact hK h2 _ _ D ys F2 (fun b o hb e => ek b o hb (hx1 _ _ e)) (fun x hx => if_neg hx) (if_pos rfl) hpl2 hpy (by
    cases e : h.get? D with
    | none => rfl
    | some o => have := hx1 D o e; rw [show h1.get? D = none from hD] at this; cases this)
end Mine

namespace Mine
open PySem PySem.W PySem.Calls PyProof.Rows

noncomputable def cutBody : List Stmt := match ((fdef 20).2.1 : List Stmt)[21]? with
  | some (Stmt.For _ _ b _ _) => b
  | _ => []
theorem fine4F : ([34, 32, 120, 34].all fun c => decide ((Lx (b3F c)).length ≤ 4)) = true := by kernel_rfl
theorem fine4 {c : Nat} (h : c ∈ [34, 32, 120, 34]) : (Lx (b3R c)).length ≤ 4 := by
  rw [b3R_eq]
  exact of_decide_eq_true (List.all_eq_true.mp fine4F c h)
theorem body_small (c : Int) : (bodyOf c).length ≤ 10 := by
  have := dbl_len (typed c)
  have hty : (typed c).length = 3 := by obtain ⟨x, y, z, _, ety⟩ := typed3 c; rw [ety]; rfl
  rw [body_len]; omega
theorem fine_body (c : Int) : Fine (bodyOf c) := by
  refine ⟨by have := body_small c; omega, fun x hx => ?_⟩
  rcases List.mem_append.mp hx with h | h
  · exact (fine_typed c).2 x (mem_dbl h)
  · exact fine4 h
theorem meant_small (c : Int) : (meant c).length ≤ 300 := by
  unfold meant pcs figs
  have h := figs_lt c
  have : ∀ j : Fin 8, (pcL.getD j.val []).length ≤ 100 := by decide
  have a1 := this ⟨_, h _ (List.mem_cons_self ..)⟩
  have a2 := this ⟨_, h _ (List.mem_cons_of_mem _ (List.mem_cons_self ..))⟩
  have a3 := this ⟨_, h _ (List.mem_cons_of_mem _ (List.mem_cons_of_mem _ (List.mem_cons_self ..)))⟩
  simp only [List.map_cons, List.map_nil, List.flatten_cons, List.flatten_nil, List.length_append, List.length_nil] at a1 a2 a3 ⊢
  omega
/-- a turn of the last loop, statements 0 to 2: the front -/
theorem cut_front (w : World) (A : Around) (g : Heap) (L : Addr) (s : Shared) (h : Heap) (k0 : Nat) (m cm : Str → Option Value) (Q : Flow → Shared → Prop) (R : Rm A 5) (F : LS w g L m cm h)
    {Z : Addr} {zs : Array Value} {c : Int} {fp : List Nat} {i : Nat} {tf tc tb tw : Tok} (mf : m "front" = some (.str (mkS fp) tf)) (mc : m "cut" = some (.int (i : Int) tc)) (mz : m "sizes" = some (.ref Z)) (cb : cm "body" = some (.str (mkS (bodyOf c)) tb)) (cw : cm "word" = some (.str (mkS (meant c)) tw))
    (hz : h.IsList Z zs) (hzs : Paired RI zs.toList (ofN (szs c))) (hi : i ≤ (bodyOf c).length) (hfp : fp.length ≤ 900)
    (hK : ∀ h' k m' t1 t2, LS w g L m' cm h' → (∀ b o, b ≠ L → h.get? b = some o → h'.get? b = some o) → (∀ x, x ≠ (Str.ofString "start") → x ≠ (Str.ofString "front") → m' x = m x) →
      m' "start" = some (.int (fp.length : Int) t1) → m' "front" = some (.str (mkS (frontOf (bodyOf c) i)) t2) → Wp w A (execs (cutBody.drop 3) (Ev w L)) Q { s with heap := h', toks := k }) :
    Wp w A (execs cutBody (Ev w L)) Q { s with heap := h, toks := k0 } := by
  refine wpAny_execs_cons (wpAny_Assign_Name (wCallB F.S (id := "len") (by kernel_rfl) (wN F.ns mf (PySem.P.len_str (by rw [mkS_len]; omega) ?_))))
  rw [mkS_len]
  refine wSt F.ns fun h1 n1 s1 => ?_
  have F1 := F.stL n1 s1
  have K1 : ∀ b o, b ≠ L → h.get? b = some o → h1.get? b = some o := fun b o hb e => s1.extBut b o hb e
  have hb1 : h1.IsCell (L + 4) (some (.str (mkS (bodyOf c)) tb)) := by rw [← cb]; exact F1.body
  clear n1 s1
  dsimp only at F1 ⊢
  refine wpAny_execs_cons (wpAny_Assign_Name ?_)
  refine wCallV F1.S (f := 161) (o := o161 w.params) (by kernel_rfl) (by kernel_rfl) rfl ?_
  refine aN (wNc (c := L + 4) (by with_unfolding_all rfl) hb1 (aN (wN F1.ns ((if_neg (by decide +kernel)).trans mc) (aNil ⟨F1.S, ?_⟩))))
  refine front_ok w (bodyOf c) i tb tc (fine_body c) _ _ _ (R.le (by omega)) F1.S fun h2 k2 t2 hx2 => ?_
  dsimp only at hx2 ⊢
  have F2 := F1.ext hx2
  refine wSt F2.ns fun h3 n3 s3 => ?_
  have F3 := F2.stL n3 s3
  have K3 : ∀ b o, b ≠ L → h.get? b = some o → h3.get? b = some o := fun b o hb e => s3.extBut b o hb (hx2 _ _ (K1 b o hb e))
  have hw3 : h3.IsCell (L + 2) (some (.str (mkS (meant c)) tw)) := by rw [← cw]; exact F3.word
  have hz3 := hz.at fun o e => K3 _ o (ne_ns hz F.ns) e
  clear n3 s3 hx2 F2 F1 K1 hb1
  dsimp only at F3 ⊢
  obtain ⟨n, e1, e2, e3⟩ := front_at c hi
  have e1' : (ofN (szs c))[i]? = some (n : Int) := by rw [List.getElem?_map, e1]; rfl
  obtain ⟨v, hv, tn, rfl⟩ := Paired.get hzs e1'
  have hil : i ≤ 1000 := by have := body_small c; omega
  refine wpAny_execs_cons (wIfF (wpAny_isTrue_Compare1 (wN F3.ns rfl ?_)))
  refine wSlice ?_
  refine wNc (c := L + 2) (by with_unfolding_all rfl) hw3 (wpAny_evalPart_none (wpAny_evalPart_some ?_))
  refine wpAny_Subscript_Name slot_list_getitem.lookup (wN F3.ns ((if_neg (by decide +kernel)).trans ((if_neg (by decide +kernel)).trans mz)) (wN F3.ns ((if_neg (by decide +kernel)).trans ((if_neg (by decide +kernel)).trans mc)) ⟨hz3.typeIs, ?_⟩))
  refine wpAny_getItem_list hz3 (by omega) (by omega) (by rw [Int.toNat_natCast, ← Array.getElem?_toList]; exact hv) ?_
  have hms := meant_small c
  refine ⟨_, _, none, some ((n : Int), tn), 0, n, rfl, rfl, rfl, .inl ⟨rfl, rfl⟩, .inr ⟨_, rfl⟩, lenOk (by omega), fun h4 t4 k4 hx4 => ?_⟩
  rw [show List.drop 0 (List.take n (Lx (mkS (meant c)))) = (meant c).take n from rfl, ← e3]
  refine PySem.P.ne_str (wpAny_truthy_bool ⟨bne_self_eq_false _, wpAny_execs_nil ?_⟩)
  dsimp only at hx4 ⊢
  exact hK h4 _ _ _ _ (F3.ext hx4) (fun b o hb e => hx4 _ _ (K3 b o hb e)) (fun x a b => (if_neg b).trans (if_neg a)) ((if_neg (by decide +kernel)).trans (if_pos rfl)) (if_pos rfl)
end Mine

namespace Mine
open PySem PySem.W PySem.Calls PyProof.Rows

/-- a turn of the last loop, statement 3: the stretch -/
theorem cut_stretch (w : World) (A : Around) (g : Heap) (L : Addr) (s : Shared) (h : Heap) (k0 : Nat) (m cm : Str → Option Value) (Q : Flow → Shared → Prop) (R : Rm A 5) (F : LS w g L m cm h)
    {bk : Addr} {items : Array Value} {xs : List (List Nat)} {f fp : List Nat} {tf ts tl th : Tok} (mb : m "book" = some (.ref bk)) (mf : m "front" = some (.str (mkS f) tf)) (ms : m "start" = some (.int (fp.length : Int) ts))
    (ml : m "low" = some (.int ((lowN fp (xs.map prep) : Nat) : Int) tl)) (mh : m "high" = some (.int ((highN fp (xs.map prep) : Nat) : Int) th)) (hfp : fp = f.take fp.length)
    (hb : h.IsList bk items) (hx : BookIs items.toList xs) (hs : Rising xs) (hlx : xs.length ≤ 900) (hfl : f.length ≤ 900)
    (hK : ∀ h' k m' t1 t2, LS w g L m' cm h' → (∀ b o, b ≠ L → b ≠ 163 → h.get? b = some o → h'.get? b = some o) → (∀ x, x ≠ (Str.ofString "low") → x ≠ (Str.ofString "high") → m' x = m x) →
      m' "low" = some (.int ((lowN f (xs.map prep) : Nat) : Int) t1) → m' "high" = some (.int ((highN f (xs.map prep) : Nat) : Int) t2) → Wp w A (execs (cutBody.drop 4) (Ev w L)) Q { s with heap := h', toks := k }) :
    Wp w A (execs (cutBody.drop 3) (Ev w L)) Q { s with heap := h, toks := k0 } := by
  have hsz : items.size = xs.length := by rw [← hx.length]; exact (Array.length_toList).symm
  have hpre : fp <+: f := by rw [hfp]; exact List.take_prefix ..
  have hh := high_le fp (xs.map prep)
  rw [List.length_map] at hh
  have hl1 := low_grow hpre (xs.map prep)
  have hh1 := high_grow hpre (xs.map prep)
  have hlh := low_high f (xs.map prep)
  refine wpAny_execs_cons (wUnpack2 R.1 ?_)
  refine wCallV F.S (f := 168) (o := o168 w.params) (by kernel_rfl) (by kernel_rfl) rfl ?_
  refine aN (wN F.ns mb (aN (wN F.ns mf (aN (wN F.ns ms (aN (wN F.ns ml (aN (wN F.ns mh (aNil ⟨F.S, ?_⟩))))))))))
  have wi : ∀ (i : Nat) x, lowN fp (xs.map prep) ≤ i → i < highN fp (xs.map prep) → xs[i]? = some x →
      ((((prep x).take f.length).drop fp.length < f.drop fp.length) ↔ i < lowN f (xs.map prep)) ∧ ((f.drop fp.length < ((prep x).take f.length).drop fp.length) ↔ ¬ i < highN f (xs.map prep)) := by
    intro i x h1 h2 hxi
    have e : (xs.map prep)[i]? = some (prep x) := by rw [List.getElem?_map, hxi]; rfl
    rw [hfp] at h1 h2
    exact within hs e h1 h2
  refine stretch_ok w _ _ _ R F.S F.B F.T fp.length (lowN fp (xs.map prep)) (highN fp (xs.map prep)) (lowN f (xs.map prep)) (highN f (xs.map prep)) hb hx (by omega) hfl hl1 hlh hh1 (by omega)
    (fun i x h1 h2 hxi => ?_) (fun i x h1 h2 hxi => ?_) (fun i x h1 h2 hxi => ?_) (fun i x h1 h2 hxi => ?_) fun g1 k1 T t1 t2 hx1 hT1 htup => ?_
  · exact (wi i x h1 (by omega) hxi).1.mpr h2
  · exact fun q => by have := (wi i x (by omega) h2 hxi).1.mp q; omega
  · exact fun q => (wi i x (by omega) (by omega) hxi).2.mp q h2
  · exact (wi i x (by omega) h2 hxi).2.mpr (by omega)
  dsimp only at hx1 ⊢
  have F1 := F.but163 hx1 hT1
  refine ⟨T, _, _, m, rfl, htup, F1.ns, fun g2 g3 g4 k4 e2 s3 n3 s4 n4 => ?_⟩
  have F2 := F1.ext e2
  have F3 := F2.stL n3 s3
  have F4 := F3.stL n4 s4
  exact hK g4 _ _ _ _ F4 (fun b o h1 h2 e => s4.extBut b o h1 (s3.extBut b o h1 (e2 _ _ (hx1 b o h2 e)))) (fun x a b => (if_neg b).trans (if_neg a)) ((if_neg (by decide +kernel)).trans (if_pos rfl)) (if_pos rfl)
end Mine

namespace Mine
open PySem PySem.W PySem.Calls PyProof.Rows

theorem getNat {hits : Array Value} {sh : List Nat} (hp : Paired RN hits.toList sh) {i : Nat} (hi : i < sh.length) : ∃ t, hits[i]? = some (.int ((sh.getD i 0 : Nat) : Int) t) := by
  have e : sh[i]? = some (sh.getD i 0) := by rw [List.getD_eq_getElem?_getD, List.getElem?_eq_getElem hi]; rfl
  obtain ⟨v, h1, t, rfl⟩ := Paired.get hp e
  exact ⟨t, by rw [← Array.getElem?_toList]; exact h1⟩
/-- a turn of the last loop, statements 4 and 5: the begin -/
theorem cut_begin (w : World) (A : Around) (g : Heap) (L : Addr) (s : Shared) (h : Heap) (k0 : Nat) (m cm : Str → Option Value) (Q : Flow → Shared → Prop) (R : Rm A 5) (F : LS w g L m cm h)
    {H : Addr} {hits : Array Value} {sh : List Nat} {f : List Nat} {p r : Nat} {tf tp : Tok} (mf : m "front" = some (.str (mkS f) tf)) (mp : m "place" = some (.int (p : Int) tp)) (mH : m "shares" = some (.ref H)) (hH : h.IsList H hits) (hp : Paired RN hits.toList sh)
    (hfl : f.length ≤ 900) (hr : r ≤ p) (hpl : p ≤ sh.length) (hp9 : p ≤ 900) (test : ∀ b, b ≤ p → r ≤ b → 0 < b → (f.length ≤ sh.getD (b - 1) 0 ↔ r < b))
    (hK : ∀ h' k m' t1, LS w g L m' cm h' → (∀ b o, b ≠ L → h.get? b = some o → h'.get? b = some o) → (∀ x, x ≠ (Str.ofString "begin") → m' x = m x) → m' "begin" = some (.int (r : Int) t1) →
      Wp w A (execs (cutBody.drop 6) (Ev w L)) Q { s with heap := h', toks := k }) :
    Wp w A (execs (cutBody.drop 4) (Ev w L)) Q { s with heap := h, toks := k0 } := by
  have HL : H ≠ L := ne_ns hH F.ns
  refine wpAny_execs_cons (wpAny_Assign_Name (wN F.ns mp ?_))
  refine wSt F.ns fun h1 n1 s1 => ?_
  have F1 := F.stL n1 s1
  have K1 : ∀ b o, b ≠ L → h.get? b = some o → h1.get? b = some o := fun b o hb e => s1.extBut b o hb e
  clear n1 s1
  dsimp only at F1 ⊢
  refine wpAny_execs_cons ?_
  refine wWhile (I := fun n s' => ∃ (b tb k : Nat) (h' : Heap) (m' : Str → Option Value), n = b ∧ r ≤ b ∧ b ≤ p ∧ s' = { s with heap := h', toks := k } ∧ LS w g L m' cm h' ∧ (∀ b o, b ≠ L → h.get? b = some o → h'.get? b = some o) ∧ (∀ x, x ≠ (Str.ofString "begin") → m' x = m x) ∧ m' (Str.ofString "begin") = some (.int (b : Int) tb)) ?_ p
    ⟨p, _, _, h1, _, rfl, hr, Nat.le_refl _, rfl, F1, K1, fun x hx => if_neg hx, if_pos rfl⟩
  clear F1 K1
  rintro n s' ⟨b, tb, k, h', m', hnb, hb1, hb2, rfl, F', K', mm, mbeg⟩
  have hH' := hH.at fun o e => K' _ o HL e
  refine Wp.mono (Q := fun v s2 => ∃ k2, s2 = { s with heap := h', toks := k2 } ∧ v = decide (r < b)) ?_ ?_
  · refine wpAny_isTrue_BoolOp (wpAny_allTrue_And_cons (wpAny_isTrue_Compare1 (wN F'.ns mbeg (wpAny_Constant_int (gt_int (wpAny_truthy_bool ?_))))))
    by_cases h0 : 0 < b
    · rw [decide_eq_true (by omega : (b : Int) > 0), if_pos rfl]
      refine wpAny_allTrue_And_cons (wpAny_isTrue_Compare1 ?_)
      obtain ⟨tv, hv⟩ := getNat hp (i := b - 1) (by omega)
      refine Subscript_ (wN F'.ns ((mm _ (by decide +kernel)).trans mH) ?_)
      refine wpAny_BinOp (wN F'.ns mbeg (wpAny_Constant_int (sub_int ?_)))
      refine tail_any (T := "list") (id := "list.__getitem__") hH'.typeIs slot_list_getitem.lookup ?_ rfl
      rw [show ((b : Int) - 1) = ((b - 1 : Nat) : Int) by omega]
      refine wpAny_getItem_list hH' (by omega) (by omega) (by rw [Int.toNat_natCast]; exact hv) ?_
      refine wCallB F'.S (id := "len") (by kernel_rfl) (wN F'.ns ((mm _ (by decide +kernel)).trans mf) (PySem.P.len_str (by rw [mkS_len]; omega) ?_))
      rw [mkS_len]
      refine ge_int (wpAny_truthy_bool ?_)
      have t := test b hb2 hb1 h0
      by_cases ht : r < b
      · have := t.mpr ht
        rw [decide_eq_true (by omega : ((sh.getD (b - 1) 0 : Nat) : Int) ≥ (f.length : Int)), if_pos rfl]
        exact wpAny_allTrue_And_nil ⟨_, rfl, (decide_eq_true ht).symm⟩
      · have : ¬ f.length ≤ sh.getD (b - 1) 0 := fun q => ht (t.mp q)
        rw [decide_eq_false (by omega : ¬ ((sh.getD (b - 1) 0 : Nat) : Int) ≥ (f.length : Int)), if_neg Bool.false_ne_true]
        exact ⟨_, rfl, (decide_eq_false ht).symm⟩
    · rw [decide_eq_false (by omega : ¬ (b : Int) > 0), if_neg Bool.false_ne_true]
      exact ⟨_, rfl, (decide_eq_false (by omega)).symm⟩
  · rintro v s2 ⟨k2, rfl, rfl⟩
    by_cases ht : r < b
    · rw [decide_eq_true ht, if_pos rfl]
      refine wpAny_execs_cons (wpAny_Assign_Name (wpAny_BinOp (wN F'.ns mbeg (wpAny_Constant_int (sub_int ?_)))))
      rw [show ((b : Int) - 1) = ((b - 1 : Nat) : Int) by omega]
      refine wSt F'.ns fun h2 n2 s2 => ?_
      have F2 := F'.stL n2 s2
      refine wpAny_execs_nil ⟨b - 1, by omega, b - 1, _, _, h2, _, rfl, by omega, by omega, rfl, F2, fun b o hb e => s2.extBut b o hb (K' b o hb e), fun x hx => (if_neg hx).trans (mm x hx), if_pos rfl⟩
    · rw [decide_eq_false ht, if_neg Bool.false_ne_true]
      have e : b = r := by omega
      subst e
      exact wpAny_execs_nil (hK h' _ m' _ F' K' mm mbeg)
/-- a turn of the last loop, statements 6 and 7: the end -/
theorem cut_end (w : World) (A : Around) (g : Heap) (L : Addr) (s : Shared) (h : Heap) (k0 : Nat) (m cm : Str → Option Value) (Q : Flow → Shared → Prop) (R : Rm A 5) (F : LS w g L m cm h)
    {H O : Addr} {hits oits : Array Value} {sh : List Nat} {f : List Nat} {p r : Nat} {tf tp : Tok} (mf : m "front" = some (.str (mkS f) tf)) (mp : m "place" = some (.int (p : Int) tp)) (mH : m "shares" = some (.ref H)) (mO : m "others" = some (.ref O)) (hH : h.IsList H hits) (hp : Paired RN hits.toList sh)
    (hO : h.IsList O oits) (hos : oits.size = sh.length)
    (hfl : f.length ≤ 900) (hr : p ≤ r) (hpl : r ≤ sh.length) (hp9 : sh.length ≤ 900) (test : ∀ b, p ≤ b → b ≤ r → b < sh.length → (f.length ≤ sh.getD b 0 ↔ b < r))
    (hK : ∀ h' k m' t1, LS w g L m' cm h' → (∀ b o, b ≠ L → h.get? b = some o → h'.get? b = some o) → (∀ x, x ≠ (Str.ofString "end") → m' x = m x) → m' "end" = some (.int (r : Int) t1) →
      Wp w A (execs (cutBody.drop 8) (Ev w L)) Q { s with heap := h', toks := k }) :
    Wp w A (execs (cutBody.drop 6) (Ev w L)) Q { s with heap := h, toks := k0 } := by
  have HL : H ≠ L := ne_ns hH F.ns
  have OL : O ≠ L := ne_ns hO F.ns
  refine wpAny_execs_cons (wpAny_Assign_Name (wN F.ns mp ?_))
  refine wSt F.ns fun h1 n1 s1 => ?_
  have F1 := F.stL n1 s1
  have K1 : ∀ b o, b ≠ L → h.get? b = some o → h1.get? b = some o := fun b o hb e => s1.extBut b o hb e
  clear n1 s1
  dsimp only at F1 ⊢
  refine wpAny_execs_cons ?_
  refine wWhile (I := fun n s' => ∃ (b tb k : Nat) (h' : Heap) (m' : Str → Option Value), n = r - b ∧ p ≤ b ∧ b ≤ r ∧ s' = { s with heap := h', toks := k } ∧ LS w g L m' cm h' ∧ (∀ b o, b ≠ L → h.get? b = some o → h'.get? b = some o) ∧ (∀ x, x ≠ (Str.ofString "end") → m' x = m x) ∧ m' (Str.ofString "end") = some (.int (b : Int) tb)) ?_ (r - p)
    ⟨p, _, _, h1, _, rfl, Nat.le_refl _, hr, rfl, F1, K1, fun x hx => if_neg hx, if_pos rfl⟩
  clear F1 K1
  rintro n s' ⟨b, tb, k, h', m', rfl, hb1, hb2, rfl, F', K', mm, mend⟩
  have hH' := hH.at fun o e => K' _ o HL e
  have hO' := hO.at fun o e => K' _ o OL e
  refine Wp.mono (Q := fun v s2 => ∃ k2, s2 = { s with heap := h', toks := k2 } ∧ v = decide (b < r)) ?_ ?_
  · refine wpAny_isTrue_BoolOp (wpAny_allTrue_And_cons (wpAny_isTrue_Compare1 (wN F'.ns mend ?_)))
    refine wCallB F'.S (id := "len") (by kernel_rfl) (wN F'.ns ((mm _ (by decide +kernel)).trans mO) (call_len_list hO' (by omega) ?_))
    refine lt_int (wpAny_truthy_bool ?_)
    by_cases h0 : b < sh.length
    · rw [decide_eq_true (by omega : (b : Int) < (oits.size : Int)), if_pos rfl]
      refine wpAny_allTrue_And_cons (wpAny_isTrue_Compare1 ?_)
      obtain ⟨tv, hv⟩ := getNat hp (i := b) h0
      refine wpAny_Subscript_Name slot_list_getitem.lookup (wN F'.ns ((mm _ (by decide +kernel)).trans mH) (wN F'.ns mend ⟨hH'.typeIs, ?_⟩))
      refine wpAny_getItem_list hH' (by omega) (by omega) (by rw [Int.toNat_natCast]; exact hv) ?_
      refine wCallB F'.S (id := "len") (by kernel_rfl) (wN F'.ns ((mm _ (by decide +kernel)).trans mf) (PySem.P.len_str (by rw [mkS_len]; omega) ?_))
      rw [mkS_len]
      refine ge_int (wpAny_truthy_bool ?_)
      have t := test b hb1 hb2 h0
      by_cases ht : b < r
      · have := t.mpr ht
        rw [decide_eq_true (by omega : ((sh.getD b 0 : Nat) : Int) ≥ (f.length : Int)), if_pos rfl]
        exact wpAny_allTrue_And_nil ⟨_, rfl, (decide_eq_true ht).symm⟩
      · have : ¬ f.length ≤ sh.getD b 0 := fun q => ht (t.mp q)
        rw [decide_eq_false (by omega : ¬ ((sh.getD b 0 : Nat) : Int) ≥ (f.length : Int)), if_neg Bool.false_ne_true]
        exact ⟨_, rfl, (decide_eq_false ht).symm⟩
    · rw [decide_eq_false (by omega : ¬ (b : Int) < (oits.size : Int)), if_neg Bool.false_ne_true]
      exact ⟨_, rfl, (decide_eq_false (by omega)).symm⟩
  · rintro v s2 ⟨k2, rfl, rfl⟩
    by_cases ht : b < r
    · rw [decide_eq_true ht, if_pos rfl]
      refine wpAny_execs_cons (wpAny_Assign_Name (wpAny_BinOp (wN F'.ns mend (wpAny_Constant_int (add_int ?_)))))
      rw [show ((b : Int) + 1) = ((b + 1 : Nat) : Int) by omega]
      refine wSt F'.ns fun h2 n2 s2 => ?_
      have F2 := F'.stL n2 s2
      refine wpAny_execs_nil ⟨r - (b + 1), by omega, b + 1, _, _, h2, _, rfl, by omega, by omega, rfl, F2, fun b o hb e => s2.extBut b o hb (K' b o hb e), fun x hx => (if_neg hx).trans (mm x hx), if_pos rfl⟩
    · rw [decide_eq_false ht, if_neg Bool.false_ne_true]
      have e : b = r := by omega
      subst e
      exact wpAny_execs_nil (hK h' _ m' _ F' K' mm mend)
end Mine

namespace Mine
open PySem PySem.W PySem.Calls PyProof.Rows

/-- a turn of the last loop, statements 8 and 9 -/
theorem cut_tail (w : World) (A : Around) (g : Heap) (L : Addr) (s : Shared) (h : Heap) (k0 : Nat) (m cm : Str → Option Value) (Q : Flow → Shared → Prop) (R : Rm A 5) (F : LS w g L m cm h)
    {lo hi en kn cr : Nat} {t1 t2 t3 t4 t5 t6 : Tok} (ml : m "low" = some (.int (lo : Int) t1)) (mb : m "begin" = some (.int (lo : Int) t2)) (mh : m "high" = some (.int (hi : Int) t3)) (me : m "end" = some (.int (en : Int) t4)) (mk : m "known" = some (.int (kn : Int) t5)) (mc : m "crowded" = some (.int (cr : Int) t6))
    (hh : hi = en + kn)
    (hK : ∀ h' k m' t, LS w g L m' cm h' → (∀ b o, b ≠ L → h.get? b = some o → h'.get? b = some o) → (∀ x, x ≠ (Str.ofString "crowded") → m' x = m x) → m' "crowded" = some (.int ((cr + if lo < en then 1 else 0 : Nat) : Int) t) →
      Q .next { s with heap := h', toks := k }) :
    Wp w A (execs (cutBody.drop 8) (Ev w L)) Q { s with heap := h, toks := k0 } := by
  refine wpAny_execs_cons (wIfF ?_)
  refine wpAny_isTrue_BoolOp (wpAny_allTrue_Or_cons (wpAny_isTrue_Compare1 (wN F.ns ml (wN F.ns mb (ne_int (wpAny_truthy_bool ?_))))))
  rw [show ((lo : Int) != (lo : Int)) = false from bne_self_eq_false _, if_neg Bool.false_ne_true]
  refine wpAny_allTrue_Or_cons (wpAny_isTrue_Compare1 (wN F.ns mh (wpAny_BinOp (wN F.ns me (wN F.ns mk (add_int (ne_int (wpAny_truthy_bool ?_))))))))
  rw [show ((hi : Int) != (en : Int) + (kn : Int)) = false by rw [hh, Int.natCast_add]; exact bne_self_eq_false _, if_neg Bool.false_ne_true]
  refine wpAny_allTrue_Or_nil ⟨rfl, wpAny_execs_nil ?_⟩
  refine wpAny_execs_cons (wpAny_If (wpAny_isTrue_Compare1 (wpAny_BinOp (wN F.ns mh (wN F.ns ml (sub_int (wN F.ns mk (gt_int (wpAny_truthy_bool ?_)))))))))
  by_cases hlt : lo < en
  · rw [decide_eq_true (by omega : (hi : Int) - (lo : Int) > (kn : Int)), if_pos rfl]
    rw [if_pos hlt] at hK
    refine wpAny_execs_cons (wpAny_Assign_Name (wpAny_BinOp (wN F.ns mc (wpAny_Constant_int (add_int ?_)))))
    rw [show ((cr : Int) + 1) = ((cr + 1 : Nat) : Int) by omega]
    refine wSt F.ns fun h1 n1 s1 => ?_
    exact wpAny_execs_nil (wpAny_execs_nil (hK h1 _ _ _ (F.stL n1 s1) (fun b o hb e => s1.extBut b o hb e) (fun x hx => if_neg hx) (if_pos rfl)))
  · rw [decide_eq_false (by omega : ¬ (hi : Int) - (lo : Int) > (kn : Int)), if_neg Bool.false_ne_true]
    rw [if_neg hlt] at hK
    exact wpAny_execs_nil (wpAny_execs_nil (hK h _ m _ F (fun b o hb e => e) (fun x hx => rfl) mc))
end Mine

namespace Mine
open PySem PySem.W PySem.Calls PyProof.Rows

theorem low_oth {xs : List (List Nat)} {W f : List Nat} (hf : f <+: W) : lowN f (xs.map prep) = lowN f (othOf xs W) := by
  have e := cnt_split (fun x => at3 f x == .lt) W (xs.map prep)
  rw [if_neg (by rw [at3_self hf]; decide)] at e
  exact e
theorem high_oth {xs : List (List Nat)} {W f : List Nat} (hf : f <+: W) : highN f (xs.map prep) = highN f (othOf xs W) + (xs.length - (othOf xs W).length) := by
  have e := cnt_split (fun x => at3 f x != .gt) W (xs.map prep)
  rw [if_pos (by rw [at3_self hf]; decide), List.length_map] at e
  exact e
noncomputable abbrev plOf (xs : List (List Nat)) (W : List Nat) : Nat := (othOf xs W).countP fun x => decide (x < W)
theorem nbOf {xs : List (List Nat)} (hs : Rising xs) (W : List Nat) : Nb (othOf xs W) W (plOf xs W) := by
  refine ⟨List.Pairwise.filter _ hs, fun x hx => ?_, rfl⟩
  have := (List.mem_filter.mp hx).2
  simpa using this
theorem oth_len (xs : List (List Nat)) (W : List Nat) : (othOf xs W).length ≤ xs.length := Nat.le_trans (List.length_filter_le ..) (by rw [List.length_map]; exact Nat.le_refl _)
theorem neTab {h : Heap} {a P : Addr} {q : Str} {items : Array Value} (T : Tab h P q) (hl : h.IsList a items) : a ≠ P := by
  obtain ⟨ps, e, _⟩ := T
  obtain ⟨o, ho, hcls, _⟩ := hl
  rintro rfl
  rw [e] at ho; cases ho; cases hcls
/-- what the last loop's turns read -/
structure Cx (h : Heap) (m cm : Str → Option Value) (c : Int) (xs : List (List Nat)) (bk O H Z : Addr) (items oits hits zs : Array Value) : Prop where
  lb : h.IsList bk items
  lo : h.IsList O oits
  lh : h.IsList H hits
  lz : h.IsList Z zs
  xb : BookIs items.toList xs
  xo : Paired RS oits.toList (othOf xs (meant c))
  xh : Paired RN hits.toList (shOf (othOf xs (meant c)) (meant c) (plOf xs (meant c)))
  xz : Paired RI zs.toList (ofN (szs c))
  rise : Rising xs
  len : xs.length ≤ 900
  mb : m (Str.ofString "book") = some (.ref bk)
  mo : m (Str.ofString "others") = some (.ref O)
  mh : m (Str.ofString "shares") = some (.ref H)
  mz : m (Str.ofString "sizes") = some (.ref Z)
  mkn : ∃ t, m (Str.ofString "known") = some (.int ((xs.length - (othOf xs (meant c)).length : Nat) : Int) t)
  mp : ∃ t, m (Str.ofString "place") = some (.int ((plOf xs (meant c) : Nat) : Int) t)
  cb : ∃ t, cm (Str.ofString "body") = some (.str (mkS (bodyOf c)) t)
  cw : ∃ t, cm (Str.ofString "word") = some (.str (mkS (meant c)) t)
theorem Cx.step {w : World} {g h h' : Heap} {L : Addr} {m m' cm : Str → Option Value} {c : Int} {xs : List (List Nat)} {bk O H Z : Addr} {items oits hits zs : Array Value} (X : Cx h m cm c xs bk O H Z items oits hits zs) (F : LS w g L m cm h)
    (hk : ∀ b o, b ≠ L → b ≠ 163 → h.get? b = some o → h'.get? b = some o) (n1 : m' (Str.ofString "book") = m (Str.ofString "book")) (n2 : m' (Str.ofString "others") = m (Str.ofString "others")) (n3 : m' (Str.ofString "shares") = m (Str.ofString "shares")) (n4 : m' (Str.ofString "sizes") = m (Str.ofString "sizes"))
    (n5 : m' (Str.ofString "known") = m (Str.ofString "known")) (n6 : m' (Str.ofString "place") = m (Str.ofString "place")) : Cx h' m' cm c xs bk O H Z items oits hits zs := by
  have up : ∀ {a : Addr} {its : Array Value}, h.IsList a its → h'.IsList a its := fun hl => hl.at fun o e => hk _ o (ne_ns hl F.ns) (neTab F.T hl) e
  exact ⟨up X.lb, up X.lo, up X.lh, up X.lz, X.xb, X.xo, X.xh, X.xz, X.rise, X.len, n1.trans X.mb, n2.trans X.mo, n3.trans X.mh, n4.trans X.mz, by rw [n5]; exact X.mkn, by rw [n6]; exact X.mp, X.cb, X.cw⟩
/-- a turn of the last loop -/
theorem cut_turn (w : World) (A : Around) (g : Heap) (L : Addr) (s : Shared) (h : Heap) (k0 : Nat) (m cm : Str → Option Value) (Q : Flow → Shared → Prop) (R : Rm A 5) (F : LS w g L m cm h)
    {c : Int} {xs : List (List Nat)} {bk O H Z : Addr} {items oits hits zs : Array Value} (X : Cx h m cm c xs bk O H Z items oits hits zs) {i cr : Nat} {tc tf tl th tr : Tok} (hi : i ≤ (bodyOf c).length)
    (mc : m (Str.ofString "cut") = some (.int (i : Int) tc)) (mf : m (Str.ofString "front") = some (.str (mkS (frontOf (bodyOf c) (i - 1))) tf)) (ml : m (Str.ofString "low") = some (.int ((lowN (frontOf (bodyOf c) (i - 1)) (xs.map prep) : Nat) : Int) tl)) (mh : m (Str.ofString "high") = some (.int ((highN (frontOf (bodyOf c) (i - 1)) (xs.map prep) : Nat) : Int) th))
    (mr : m (Str.ofString "crowded") = some (.int (cr : Int) tr))
    (hK : ∀ h' k m' t1 t2 t3 t4, LS w g L m' cm h' → (∀ b o, b ≠ L → b ≠ 163 → h.get? b = some o → h'.get? b = some o) → Cx h' m' cm c xs bk O H Z items oits hits zs → (∀ x, x ∈ [Str.ofString "asked", Str.ofString "laid"] → m' x = m x) →
      m' (Str.ofString "front") = some (.str (mkS (frontOf (bodyOf c) i)) t1) → m' (Str.ofString "low") = some (.int ((lowN (frontOf (bodyOf c) i) (xs.map prep) : Nat) : Int) t2) → m' (Str.ofString "high") = some (.int ((highN (frontOf (bodyOf c) i) (xs.map prep) : Nat) : Int) t3) →
      m' (Str.ofString "crowded") = some (.int ((cr + if lowN (frontOf (bodyOf c) i) (othOf xs (meant c)) < highN (frontOf (bodyOf c) i) (othOf xs (meant c)) then 1 else 0 : Nat) : Int) t4) → Q .next { s with heap := h', toks := k }) :
    Wp w A (execs cutBody (Ev w L)) Q { s with heap := h, toks := k0 } := by
  have hms := meant_small c
  have hpf := front_pre c hi
  have hfl : (frontOf (bodyOf c) i).length ≤ 900 := by have := hpf.length_le; omega
  have hpfp := front_pre c (i := i - 1) (by omega)
  have hfpl : (frontOf (bodyOf c) (i - 1)).length ≤ 900 := by have := hpfp.length_le; omega
  have hgr : frontOf (bodyOf c) (i - 1) = (frontOf (bodyOf c) i).take (frontOf (bodyOf c) (i - 1)).length := by
    rcases Nat.eq_zero_or_pos i with rfl | h0
    · rw [List.take_length]
    · have := front_grow c (i := i - 1) (by omega)
      rw [show i - 1 + 1 = i by omega] at this
      exact this
  have N := nbOf X.rise (meant c)
  have hol := oth_len xs (meant c)
  have hxl := X.len
  have hple := N.le
  obtain ⟨tb, cb⟩ := X.cb
  obtain ⟨tw, cw⟩ := X.cw
  refine cut_front w A g L s h k0 m cm Q R F mf mc X.mz cb cw X.lz X.xz hi hfpl fun h1 k1 m1 t1 t2 F1 K1 mm1 ms1 mf1 => ?_
  have X1 : Cx h1 m1 cm c xs bk O H Z items oits hits zs := by
    refine X.step F (fun b o h1 _ e => K1 b o h1 e) ?_ ?_ ?_ ?_ ?_ ?_ <;> exact mm1 _ (by decide +kernel) (by decide +kernel)
  refine cut_stretch w A g L s h1 k1 m1 cm Q R F1 X1.mb mf1 ms1 ((mm1 _ (by decide +kernel) (by decide +kernel)).trans ml) ((mm1 _ (by decide +kernel) (by decide +kernel)).trans mh) hgr X1.lb X.xb X.rise X.len hfl fun h2 k2 m2 t3 t4 F2 K2 mm2 ml2 mh2 => ?_
  have X2 : Cx h2 m2 cm c xs bk O H Z items oits hits zs := by
    refine X1.step F1 K2 ?_ ?_ ?_ ?_ ?_ ?_ <;> exact mm2 _ (by decide +kernel) (by decide +kernel)
  have mf2 := (mm2 (Str.ofString "front") (by decide +kernel) (by decide +kernel)).trans mf1
  obtain ⟨tp, mp2⟩ := X2.mp
  have shl : (shOf (othOf xs (meant c)) (meant c) (plOf xs (meant c))).length = (othOf xs (meant c)).length := Nb.sh_len
  refine cut_begin w A g L s h2 k2 m2 cm Q R F2 (r := lowN (frontOf (bodyOf c) i) (othOf xs (meant c))) mf2 mp2 X2.mh X2.lh X.xh hfl (N.low_place hpf) (by omega) (by omega) (fun b b1 b2 b3 => N.begin_test hpf b1 b2 b3) fun h3 k3 m3 t5 F3 K3 mm3 mb3 => ?_
  have X3 : Cx h3 m3 cm c xs bk O H Z items oits hits zs := by
    refine X2.step F2 (fun b o h1 _ e => K3 b o h1 e) ?_ ?_ ?_ ?_ ?_ ?_ <;> exact mm3 _ (by decide +kernel)
  have mf3 := (mm3 (Str.ofString "front") (by decide +kernel)).trans mf2
  obtain ⟨tp3, mp3⟩ := X3.mp
  have hos : oits.size = (shOf (othOf xs (meant c)) (meant c) (plOf xs (meant c))).length := by rw [shl, ← X.xo.length]; exact (Array.length_toList).symm
  refine cut_end w A g L s h3 k3 m3 cm Q R F3 (r := highN (frontOf (bodyOf c) i) (othOf xs (meant c))) mf3 mp3 X3.mh X3.mo X3.lh X.xh X3.lo hos hfl (N.place_high hpf) (by rw [shl]; exact high_le ..) (by omega) (fun b b1 b2 b3 => N.end_test hpf b1 b2 (by omega)) fun h4 k4 m4 t6 F4 K4 mm4 me4 => ?_
  have X4 : Cx h4 m4 cm c xs bk O H Z items oits hits zs := by
    refine X3.step F3 (fun b o h1 _ e => K4 b o h1 e) ?_ ?_ ?_ ?_ ?_ ?_ <;> exact mm4 _ (by decide +kernel)
  have mf4 := (mm4 (Str.ofString "front") (by decide +kernel)).trans mf3
  have ml4 := (mm4 (Str.ofString "low") (by decide +kernel)).trans ((mm3 (Str.ofString "low") (by decide +kernel)).trans ml2)
  have mh4 := (mm4 (Str.ofString "high") (by decide +kernel)).trans ((mm3 (Str.ofString "high") (by decide +kernel)).trans mh2)
  have mb4 := (mm4 (Str.ofString "begin") (by decide +kernel)).trans mb3
  have mr4 : m4 (Str.ofString "crowded") = _ := (mm4 (Str.ofString "crowded") (by decide +kernel)).trans ((mm3 (Str.ofString "crowded") (by decide +kernel)).trans ((mm2 (Str.ofString "crowded") (by decide +kernel) (by decide +kernel)).trans ((mm1 (Str.ofString "crowded") (by decide +kernel) (by decide +kernel)).trans mr)))
  obtain ⟨tk4, mk4⟩ := X4.mkn
  have ml4' := ml4
  rw [low_oth hpf] at ml4'
  refine cut_tail w A g L s h4 k4 m4 cm Q R F4 ml4' mb4 mh4 me4 mk4 mr4 (high_oth hpf) fun h5 k5 m5 t7 F5 K5 mm5 mr5 => ?_
  have X5 : Cx h5 m5 cm c xs bk O H Z items oits hits zs := by
    refine X4.step F4 (fun b o h1 _ e => K5 b o h1 e) ?_ ?_ ?_ ?_ ?_ ?_ <;> exact mm5 _ (by decide +kernel)
  refine hK h5 k5 m5 _ _ _ _ F5 (fun b o h1 h2 e => K5 b o h1 (K4 b o h1 (K3 b o h1 (K2 b o h1 h2 (K1 b o h1 e))))) X5 (fun x hx => ?_) ((mm5 _ (by decide +kernel)).trans mf4) ((mm5 _ (by decide +kernel)).trans ml4) ((mm5 _ (by decide +kernel)).trans mh4) mr5
  have hx' : x = Str.ofString "asked" ∨ x = Str.ofString "laid" := by simpa using hx
  rcases hx' with rfl | rfl
  · exact (mm5 _ (by decide +kernel)).trans ((mm4 _ (by decide +kernel)).trans ((mm3 _ (by decide +kernel)).trans ((mm2 _ (by decide +kernel) (by decide +kernel)).trans (mm1 _ (by decide +kernel) (by decide +kernel)))))
  · exact (mm5 _ (by decide +kernel)).trans ((mm4 _ (by decide +kernel)).trans ((mm3 _ (by decide +kernel)).trans ((mm2 _ (by decide +kernel) (by decide +kernel)).trans (mm1 _ (by decide +kernel) (by decide +kernel)))))
end Mine

namespace Mine
open PySem PySem.W PySem.Calls PyProof.Rows

theorem Tab.butRng {h h' : Heap} {P a : Addr} {x l st : Int} {q : Str} (y : Tab h P q) (e : Heap.ExtBut a h h') (ha : P ≠ a) (hit : IsRangeIter h a x l st) : Tab h' P q := by
  obtain ⟨ps, e1, e2, e3⟩ := y
  refine ⟨ps, e _ _ ha e1, e2, fun pos cv hc => ?_⟩
  have r := e3 pos cv hc
  obtain ⟨c, o, vs, t, q1, q2, q3, q4⟩ := id r
  refine codeRec_but r e fun c' e' => ?_
  rw [q1] at e'; cases e'
  rintro rfl
  have hit' : h.get? c = some _ := hit
  rw [hit'] at q2; cases q2
  cases q3
  cases q4
theorem rng_list {h : Heap} {a b : Addr} {x l st : Int} {items : Array Value} (hit : IsRangeIter h a x l st) (hl : h.IsList b items) : b ≠ a := by
  rintro rfl
  obtain ⟨o, ho, hc, _⟩ := hl
  have hit' : h.get? b = some _ := hit
  rw [hit'] at ho; cases ho; injection hc with q; exact absurd q (by decide)
/-- a range's iterator moved on -/
theorem LS.butRng {w : World} {g h h' : Heap} {L : Addr} {m cm : Str → Option Value} (x : LS w g L m cm h) {a : Addr} {i l st : Int} (hit : IsRangeIter h a i l st) (ha : g.objs.size ≤ a) (hs : Heap.ExtBut a h h') : LS w g L m cm h' := by
  have l1 := x.lt
  have k0 : (Mine.K w.params).lookup a = none := K_big _ (Nat.lt_of_lt_of_le l1 ha)
  have hit' : h.get? a = some _ := hit
  have c : ∀ {b : Addr} {v : Option Value}, h.IsCell b v → h'.IsCell b v := fun y => by
    obtain ⟨o, ho, hd⟩ := y
    refine ⟨o, hs _ _ ?_ ho, hd⟩
    rintro rfl
    rw [hit'] at ho; cases ho; cases hd
  have nL : L ≠ a := by
    rintro rfl
    obtain ⟨o, es, ep, ho, hd, _⟩ := x.ns
    rw [hit'] at ho; cases ho; cases hd
  have l3 : @LT.lt Nat _ 180 a := Nat.lt_of_lt_of_le l1 ha
  have z0 : @Ne Nat 0 a := by omega
  have z2 : @Ne Nat 2 a := by omega
  have z4 : @Ne Nat 4 a := by omega
  have z163 : @Ne Nat 163 a := by omega
  have z177 : @Ne Nat 177 a := by omega
  exact ⟨x.fresh, x.ns.extBut hs nL, c x.script, c x.word, c x.line, c x.body, x.S.but hs k0 z0 z2, x.B.but hs z4, x.T.butRng hs z163 hit, x.T'.butRng hs z177 hit,
    fun b o h1 h2 e' => hs b o (Nat.ne_of_lt (Nat.lt_of_lt_of_le (Heap.lt_size e') ha)) (x.keep b o h1 h2 e'), x.lt⟩
theorem Cx.butRng {h h' : Heap} {m cm : Str → Option Value} {c : Int} {xs : List (List Nat)} {bk O H Z : Addr} {items oits hits zs : Array Value} (X : Cx h m cm c xs bk O H Z items oits hits zs) {a : Addr} {i l st : Int} (hit : IsRangeIter h a i l st) (hs : Heap.ExtBut a h h') : Cx h' m cm c xs bk O H Z items oits hits zs :=
  { X with
    lb := X.lb.extBut hs (rng_list hit X.lb)
    lo := X.lo.extBut hs (rng_list hit X.lo)
    lh := X.lh.extBut hs (rng_list hit X.lh)
    lz := X.lz.extBut hs (rng_list hit X.lz) }
noncomputable def crOf (c : Int) (xs : List (List Nat)) (i : Nat) : Nat := (List.range i).countP fun i => decide (lowN (frontOf (bodyOf c) i) (othOf xs (meant c)) < highN (frontOf (bodyOf c) i) (othOf xs (meant c)))
theorem crOf_succ (c : Int) (xs : List (List Nat)) (i : Nat) : crOf c xs (i + 1) = crOf c xs i + if lowN (frontOf (bodyOf c) i) (othOf xs (meant c)) < highN (frontOf (bodyOf c) i) (othOf xs (meant c)) then 1 else 0 := by
  unfold crOf
  rw [List.range_succ, List.countP_append, List.countP_singleton]
  congr 1
  by_cases q : lowN (frontOf (bodyOf c) i) (othOf xs (meant c)) < highN (frontOf (bodyOf c) i) (othOf xs (meant c))
  · rw [decide_eq_true q, if_pos rfl, if_pos q]
  · rw [decide_eq_false q, if_neg Bool.false_ne_true, if_neg q]
/-- the last loop: statement 21 -/
theorem loop2 (w : World) (A : Around) (g : Heap) (L : Addr) (s : Shared) (h : Heap) (k0 : Nat) (m cm : Str → Option Value) (Q : Flow → Shared → Prop) (R : Rm A 5) (F : LS w g L m cm h)
    {c : Int} {xs : List (List Nat)} {bk O H Z : Addr} {items oits hits zs : Array Value} (X : Cx h m cm c xs bk O H Z items oits hits zs) {tf tl th tr : Tok}
    (mf : m (Str.ofString "front") = some (.str (mkS []) tf)) (ml : m (Str.ofString "low") = some (.int 0 tl)) (mh : m (Str.ofString "high") = some (.int ((xs.length : Nat) : Int) th)) (mr : m (Str.ofString "crowded") = some (.int 0 tr))
    (hK : ∀ h' k m' t1 t2, LS w g L m' cm h' → (∀ b o, b ≠ L → b ≠ 163 → h.get? b = some o → h'.get? b = some o) → Cx h' m' cm c xs bk O H Z items oits hits zs → (∀ x, x ∈ [Str.ofString "asked", Str.ofString "laid"] → m' x = m x) →
      m' (Str.ofString "low") = some (.int ((lowN (meant c) (xs.map prep) : Nat) : Int) t1) → m' (Str.ofString "crowded") = some (.int ((crOf c xs ((bodyOf c).length + 1) : Nat) : Int) t2) → Wp w A (execs (lawBody.drop 22) (Ev w L)) Q { s with heap := h', toks := k }) :
    Wp w A (execs (lawBody.drop 21) (Ev w L)) Q { s with heap := h, toks := k0 } := by
  obtain ⟨tb, cb⟩ := X.cb
  have hbs := body_small c
  have hcb : h.IsCell (L + 4) (some (.str (mkS (bodyOf c)) tb)) := by rw [← cb]; exact F.body
  refine wpAny_execs_cons ?_
  refine wForW _ (wCallT F.S (T := "range") (by kernel_rfl) (wpAny_BinOp (wCallB F.S (id := "len") (by kernel_rfl) (wNc (c := L + 4) (by with_unfolding_all rfl) hcb (PySem.P.len_str (by rw [mkS_len]; omega) ?_)))))
  refine wpAny_Constant_int (add_int ?_)
  rw [mkS_len, show (((bodyOf c).length : Int) + 1) = (((bodyOf c).length + 1 : Nat) : Int) by omega]
  refine call_range fun h1 r k1 t1 u1 v1 hx1 hr1 hir => ?_
  refine wpAny_pyIter_range hir (range_small (by omega)) ?_
  rw [range_size]
  dsimp only at hx1 hr1 hir ⊢
  have W := Walks.range (prog := pw) (w := w) (A := A) R.1 h1.objs.size 0 1 ((bodyOf c).length + 1)
  have hx2 : Ext h1 (h1.push { cls := .type "range_iterator", data := .fields #[rawInt 0, rawInt (((bodyOf c).length + 1 : Nat) : Int), rawInt 1] }) := fun b o e => Heap.get?_push_of_some _ e
  have hit : IsRangeIter (h1.push { cls := .type "range_iterator", data := .fields #[rawInt 0, rawInt (((bodyOf c).length + 1 : Nat) : Int), rawInt 1] }) h1.objs.size 0 (((bodyOf c).length + 1 : Nat) : Int) 1 := Heap.get?_push_size _ rfl
  generalize h1.push { cls := .type "range_iterator", data := .fields #[rawInt 0, rawInt (((bodyOf c).length + 1 : Nat) : Int), rawInt 1] } = h2 at hx2 hit
  have hLlt : L < h.objs.size := by obtain ⟨o, _, _, e, _⟩ := F.ns; exact Heap.lt_size e
  have hrlt : r < h1.objs.size := Heap.lt_size (show h1.get? r = some _ from hir)
  have hI : h.objs.size ≤ h1.objs.size := Nat.le_trans hr1 (Nat.le_of_lt hrlt)
  have IL : h1.objs.size ≠ L := Nat.ne_of_gt (Nat.lt_of_lt_of_le hLlt hI)
  have hgI : g.objs.size ≤ h1.objs.size := Nat.le_trans F.fresh (Nat.le_trans (Nat.le_of_lt hLlt) hI)
  have I163 : h1.objs.size ≠ 163 := by
    have l1 := F.lt
    have : @LT.lt Nat _ 180 h1.objs.size := Nat.lt_of_lt_of_le l1 hgI
    omega
  have F2 := F.ext (hx1.trans hx2)
  have X2 : Cx h2 m cm c xs bk O H Z items oits hits zs := X.step F (fun b o _ _ e => hx2 _ _ (hx1 _ _ e)) rfl rfl rfl rfl rfl rfl
  refine ⟨h1.objs.size, _, _, (bodyOf c).length + 1, _, _, fun i s' => ∃ h' k m' t1 t2 t3 t4, s' = { s with heap := h', toks := k } ∧ LS w g L m' cm h' ∧ (∀ b o, b ≠ L → b ≠ 163 → h.get? b = some o → h'.get? b = some o) ∧ Cx h' m' cm c xs bk O H Z items oits hits zs ∧ (∀ x, x ∈ [Str.ofString "asked", Str.ofString "laid"] → m' x = m x) ∧
      m' (Str.ofString "front") = some (.str (mkS (frontOf (bodyOf c) (i - 1))) t1) ∧ m' (Str.ofString "low") = some (.int ((lowN (frontOf (bodyOf c) (i - 1)) (xs.map prep) : Nat) : Int) t2) ∧ m' (Str.ofString "high") = some (.int ((highN (frontOf (bodyOf c) (i - 1)) (xs.map prep) : Nat) : Int) t3) ∧
      m' (Str.ofString "crowded") = some (.int ((crOf c xs i : Nat) : Int) t4), rfl, W, ?_, ?_, ?_, ?_⟩
  · have e1 : (0 : Int) + ((0 : Nat) : Int) * 1 = 0 := by omega
    have e2 : (((bodyOf c).length + 1 : Nat) : Int) - ((0 : Nat) : Int) = (((bodyOf c).length + 1 : Nat) : Int) := by omega
    show IsRangeIter _ _ _ _ _
    rw [e1, e2]; exact hit
  · refine ⟨h2, _, m, tf, tl, th, tr, rfl, F2, fun b o _ _ e => hx2 _ _ (hx1 _ _ e), X2, fun _ _ => rfl, mf, ?_, ?_, mr⟩
    · rw [ml, show frontOf (bodyOf c) (0 - 1) = [] from rfl, low_nil]; rfl
    · rw [mh, show frontOf (bodyOf c) (0 - 1) = [] from rfl, high_nil, List.length_map]
  · rintro i v s3 h3 tk hi ⟨h', k, m', t1, t2, t3, t4, rfl, F', K', X', mm', mf', ml', mh', mr'⟩ hSt ⟨tc, rfl⟩ hst3 hk3
    have ek : Heap.ExtBut h1.objs.size h' h3 := fun b o hb e => hk3 b o (by simpa using hb) e
    have F3 := F'.butRng hSt hgI ek
    have X3 := X'.butRng hSt ek
    refine wpAny_assign_Name (wSt F3.ns fun h4 n4 s4 => ?_)
    have F4 := F3.stL n4 s4
    rw [show (0 : Int) + (i : Int) * 1 = (i : Int) by omega] at F4
    dsimp only at F4 s4 ⊢
    have X4 := X3.step F3 (m' := fun y => if y = (Str.ofString "cut") then some (.int (i : Int) tc) else m' y) (fun b o h1 _ e => s4.extBut b o h1 e) (if_neg (by decide +kernel)) (if_neg (by decide +kernel)) (if_neg (by decide +kernel)) (if_neg (by decide +kernel)) (if_neg (by decide +kernel)) (if_neg (by decide +kernel))
    refine cut_turn w A g L s h4 _ _ cm _ R F4 X4 (i := i) (by omega) (if_pos rfl) ((if_neg (by decide +kernel)).trans mf') ((if_neg (by decide +kernel)).trans ml') ((if_neg (by decide +kernel)).trans mh') ((if_neg (by decide +kernel)).trans mr') fun h5 k5 m5 u1 u2 u3 u4 F5 K5 X5 mm5 mf5 ml5 mh5 mr5 => ?_
    refine ⟨⟨h5, k5, m5, u1, u2, u3, u4, rfl, F5, fun b o h1 h2 e => K5 b o h1 h2 (s4.extBut b o h1 (ek b o ?_ (K' b o h1 h2 e))), X5, fun x hx => ?_, mf5, ml5, mh5, ?_⟩, ?_⟩
    · exact Nat.ne_of_lt (Nat.lt_of_lt_of_le (Heap.lt_size e) hI)
    · refine (mm5 x hx).trans ((if_neg ?_).trans (mm' x hx))
      have hx' : x = Str.ofString "asked" ∨ x = Str.ofString "laid" := by simpa using hx
      rcases hx' with rfl | rfl <;> decide +kernel
    · rw [mr5, crOf_succ]
    · exact K5 _ _ IL I163 (s4.extBut _ _ IL hst3)
  · rintro s3 h3 tk ⟨h', k, m', t1, t2, t3, t4, rfl, F', K', X', mm', mf', ml', mh', mr'⟩ hSt hk3
    have ek : Heap.ExtBut h1.objs.size h' h3 := fun b o hb e => hk3 b o (by simpa using hb) e
    have F3 := F'.butRng hSt hgI ek
    have X3 := X'.butRng hSt ek
    rw [Nat.add_sub_cancel, front_last] at ml'
    exact wpAny_execs_nil (hK h3 tk m' _ _ F3 (fun b o h1 h2 e => ek b o (Nat.ne_of_lt (Nat.lt_of_lt_of_le (Heap.lt_size e) hI)) (K' b o h1 h2 e)) X3 mm' ml' mr')
end Mine

namespace Mine
open PySem PySem.W PySem.Calls PyProof.Rows

/-- statements 17 to 20 -/
theorem start_part (w : World) (A : Around) (g : Heap) (L : Addr) (s : Shared) (h : Heap) (k0 : Nat) (m cm : Str → Option Value) (Q : Flow → Shared → Prop) (R : Rm A 5) (F : LS w g L m cm h)
    {bk : Addr} {items : Array Value} (mb : m (Str.ofString "book") = some (.ref bk)) (hb : h.IsList bk items) (hsz : items.size ≤ 1000)
    (hK : ∀ h' k m' t1 t2 t3 t4, LS w g L m' cm h' → (∀ b o, b ≠ L → h.get? b = some o → h'.get? b = some o) → (∀ x, x ≠ (Str.ofString "front") → x ≠ (Str.ofString "low") → x ≠ (Str.ofString "high") → x ≠ (Str.ofString "crowded") → m' x = m x) →
      m' (Str.ofString "front") = some (.str (mkS []) t1) → m' (Str.ofString "low") = some (.int 0 t2) → m' (Str.ofString "high") = some (.int (items.size : Int) t3) → m' (Str.ofString "crowded") = some (.int 0 t4) → Wp w A (execs (lawBody.drop 21) (Ev w L)) Q { s with heap := h', toks := k }) :
    Wp w A (execs (lawBody.drop 17) (Ev w L)) Q { s with heap := h, toks := k0 } := by
  have hne := ne_ns hb F.ns
  refine wpAny_execs_cons (wpAny_Assign_Name (wpAny_Constant_str ?_))
  refine wSt F.ns fun h1 n1 s1 => ?_
  have F1 := F.stL n1 s1
  have K1 : ∀ b o, b ≠ L → h.get? b = some o → h1.get? b = some o := fun b o hb e => s1.extBut b o hb e
  clear n1 s1
  dsimp only at F1 ⊢
  refine wpAny_execs_cons (wpAny_Assign_Name (wpAny_Constant_int ?_))
  refine wSt F1.ns fun h2 n2 s2 => ?_
  have F2 := F1.stL n2 s2
  have K2 : ∀ b o, b ≠ L → h.get? b = some o → h2.get? b = some o := fun b o hb e => s2.extBut b o hb (K1 b o hb e)
  have hb2 := hb.at fun o e => K2 _ o hne e
  clear n2 s2 F1 K1
  dsimp only at F2 ⊢
  refine wpAny_execs_cons (wpAny_Assign_Name (wCallB F2.S (id := "len") (by kernel_rfl) (wN F2.ns ((if_neg (by decide +kernel)).trans ((if_neg (by decide +kernel)).trans mb)) (call_len_list hb2 (by omega) ?_))))
  refine wSt F2.ns fun h3 n3 s3 => ?_
  have F3 := F2.stL n3 s3
  have K3 : ∀ b o, b ≠ L → h.get? b = some o → h3.get? b = some o := fun b o hb e => s3.extBut b o hb (K2 b o hb e)
  clear n3 s3 F2 K2
  dsimp only at F3 ⊢
  refine wpAny_execs_cons (wpAny_Assign_Name (wpAny_Constant_int ?_))
  refine wSt F3.ns fun h4 n4 s4 => ?_
  have F4 := F3.stL n4 s4
  exact hK h4 _ _ _ _ _ _ F4 (fun b o hb e => s4.extBut b o hb (K3 b o hb e)) (fun x a b c d => (if_neg d).trans ((if_neg c).trans ((if_neg b).trans (if_neg a))))
    ((if_neg (by decide +kernel)).trans ((if_neg (by decide +kernel)).trans ((if_neg (by decide +kernel)).trans (if_pos rfl)))) ((if_neg (by decide +kernel)).trans ((if_neg (by decide +kernel)).trans (if_pos rfl))) ((if_neg (by decide +kernel)).trans (if_pos rfl)) (if_pos rfl)
theorem low_cnt (xs : List (List Nat)) (W : List Nat) : cntLt xs W = lowN W (xs.map prep) := by
  unfold cntLt lowN
  rw [List.countP_map]
  congr 1
  funext x
  show decide (prep x < W) = (at3 W (prep x) == .lt)
  rw [Bool.eq_iff_iff, decide_eq_true_iff, beq_iff_eq, at3_lt]
theorem place_cnt (xs : List (List Nat)) (W : List Nat) : cntLt xs W = plOf xs W := by
  have e := cnt_split (fun x => decide (x < W)) W (xs.map prep)
  rw [if_neg (by rw [decide_eq_true_iff]; exact List.lt_irrefl _), List.countP_map] at e
  exact e
theorem right_cnt (xs : List (List Nat)) (W : List Nat) : (xs.map prep).countP (fun x => decide (¬ W < x)) = plOf xs W + (xs.length - (othOf xs W).length) := by
  have e := cnt_split (fun x => decide (¬ W < x)) W (xs.map prep)
  rw [if_pos (decide_eq_true (List.lt_irrefl _)), List.length_map] at e
  rw [e]
  show (othOf xs W).countP _ + (xs.length - (othOf xs W).length) = _
  congr 1
  refine List.countP_congr fun x hx => ?_
  have hne : x ≠ W := by simpa using (List.mem_filter.mp hx).2
  rw [decide_eq_true_iff, decide_eq_true_iff]
  constructor
  · intro q; exact lt_or q hne.symm
  · intro q r; exact List.lt_irrefl _ (lt_tr q r)
theorem right_iff {xs : List (List Nat)} (hs : Rising xs) (W : List Nat) (i : Nat) (x : List Nat) (hx : xs[i]? = some x) : ¬ W < prep x ↔ i < plOf xs W + (xs.length - (othOf xs W).length) := by
  have h : (xs.map prep).Pairwise fun a b => (decide (¬ W < b)) = true → (decide (¬ W < a)) = true := hs.imp fun {a b} hab q => by
    rw [decide_eq_true_iff] at q ⊢
    exact fun r => q (lt_tr r hab)
  have := cnt_iff (p := fun x => decide (¬ W < x)) h i (prep x) (by rw [List.getElem?_map, hx]; rfl)
  rw [decide_eq_true_iff, right_cnt] at this
  exact this
/-- bisect_right with that key, in the whole book -/
theorem bisBookR (w : World) (A : Around) (s : Shared) (Q : Value → Shared → Prop) (R : Rm A 3) (S : Stat w s.heap) {l : Addr} {items : Array Value} {xs : List (List Nat)} {mm : List Nat} {t : Tok}
    (hl : s.heap.IsList l items) (hx : BookIs items.toList xs) (hs : Rising xs) (hlen : xs.length ≤ 1000) (hQ : ∀ h' k t, Ext s.heap h' → Q (.int (plOf xs mm + (xs.length - (othOf xs mm).length) : Nat) t) { s with heap := h', toks := k }) :
    Wp w A (call (.ref 23) [.ref l, .str (mkS mm) t] [(Str.ofString "key", .ref 154)]) Q s := by
  have hsz : items.size = xs.length := by rw [← hx.length]; exact (Array.length_toList).symm
  have hle : plOf xs mm + (xs.length - (othOf xs mm).length) ≤ xs.length := by
    have h1 := (nbOf hs mm).le
    have h2 := oth_len xs mm
    omega
  refine bisR_ok w A s Q 2 R S (args := ⟨[.ref l, .str (mkS mm) t], [(Str.ofString "key", .ref 154)]⟩) (items := items) 0 (plOf xs mm + (xs.length - (othOf xs mm).length)) items.size hl (Nat.zero_le _) (by omega) (Nat.le_refl _) (by omega) (.inl ⟨rfl, rfl⟩) ⟨o154 w.params, _, S.at (by kernel_rfl), rfl⟩ (bindR2 S) (fun i v _ hi hv => ?_) (fun i v hi hi2 hv => ?_) hQ
  · obtain ⟨x, hxi, ⟨u, rfl⟩, hfine⟩ := Paired.getL hx (i := i) (a := v) (by simpa using hv)
    exact (keyPrep w s.heap x u hfine).probeR (decide_eq_false ((right_iff hs mm i x hxi).mpr hi)).symm
  · obtain ⟨x, hxi, ⟨u, rfl⟩, hfine⟩ := Paired.getL hx (i := i) (a := v) (by simpa using hv)
    refine (keyPrep w s.heap x u hfine).probeR (decide_eq_true ?_).symm
    by_cases q : mm < prep x
    · exact q
    · exact absurd ((right_iff hs mm i x hxi).mp q) (Nat.not_lt.mpr hi)
/-- statement 22 -/
theorem check_part (w : World) (A : Around) (g : Heap) (L : Addr) (s : Shared) (h : Heap) (k0 : Nat) (m cm : Str → Option Value) (Q : Flow → Shared → Prop) (R : Rm A 5) (F : LS w g L m cm h)
    {c : Int} {xs : List (List Nat)} {bk O H Z : Addr} {items oits hits zs : Array Value} (X : Cx h m cm c xs bk O H Z items oits hits zs) {tl : Tok} (ml : m (Str.ofString "low") = some (.int ((lowN (meant c) (xs.map prep) : Nat) : Int) tl))
    (hK : ∀ h' k, LS w g L m cm h' → Ext h h' → Wp w A (execs (lawBody.drop 23) (Ev w L)) Q { s with heap := h', toks := k }) :
    Wp w A (execs (lawBody.drop 22) (Ev w L)) Q { s with heap := h, toks := k0 } := by
  have hxl := X.len
  obtain ⟨tw, cw⟩ := X.cw
  obtain ⟨tp, mp⟩ := X.mp
  obtain ⟨tk, mk⟩ := X.mkn
  have hcw : h.IsCell (L + 2) (some (.str (mkS (meant c)) tw)) := by rw [← cw]; exact F.word
  refine wpAny_execs_cons (wIfF ?_)
  refine wpAny_isTrue_BoolOp (wpAny_allTrue_Or_cons (wpAny_isTrue_Compare1 ?_))
  refine wCallKw F.S (f := 41) (o := o41 w.params) (by kernel_rfl) (by kernel_rfl) rfl ?_
  refine aN (wN F.ns X.mb (aN (wNc (c := L + 2) (by with_unfolding_all rfl) hcw (aNil ?_))))
  refine wG F.S (v := .ref 154) (by kernel_rfl) ⟨F.S, ?_⟩
  refine bisBook w _ _ _ (R.le (by omega)) F.S X.lb X.xb X.rise (by omega) fun h1 k1 t1 hx1 => ?_
  dsimp only at hx1 ⊢
  have F1 := F.ext hx1
  rw [low_cnt]
  refine wN F1.ns ml (ne_int (wpAny_truthy_bool ?_))
  rw [show (((lowN (meant c) (xs.map prep) : Nat) : Int) != ((lowN (meant c) (xs.map prep) : Nat) : Int)) = false from bne_self_eq_false _, if_neg Bool.false_ne_true]
  refine wpAny_allTrue_Or_cons (wpAny_isTrue_Compare1 ?_)
  refine wCallKw F1.S (f := 23) (o := o23 w.params) (by kernel_rfl) (by kernel_rfl) rfl ?_
  refine aN (wN F1.ns X.mb (aN (wNc (c := L + 2) (by with_unfolding_all rfl) (hcw.keeps hx1) (aNil ?_))))
  refine wG F1.S (v := .ref 154) (by kernel_rfl) ⟨F1.S, ?_⟩
  refine bisBookR w _ _ _ (R.le (by omega)) F1.S (X.lb.at fun o e => hx1 _ o e) X.xb X.rise (by omega) fun h2 k2 t2 hx2 => ?_
  dsimp only at hx2 ⊢
  have F2 := F1.ext hx2
  refine wpAny_BinOp (wN F2.ns mp (wN F2.ns mk (add_int (ne_int (wpAny_truthy_bool ?_)))))
  have e : (((plOf xs (meant c) + (xs.length - (othOf xs (meant c)).length) : Nat) : Int) != ((plOf xs (meant c) : Nat) : Int) + ((xs.length - (othOf xs (meant c)).length : Nat) : Int)) = false := by
    rw [Int.natCast_add]; exact bne_self_eq_false _
  rw [e, if_neg Bool.false_ne_true]
  exact wpAny_allTrue_Or_nil ⟨rfl, wpAny_execs_nil (hK h2 _ F2 (hx1.trans hx2))⟩
end Mine

namespace Mine
open PySem PySem.W PySem.Calls PyProof.Rows

/-- statements 23 and 24: due, insort_left -/
theorem due_part (w : World) (A : Around) (g : Heap) (L : Addr) (s : Shared) (h : Heap) (k0 : Nat) (m cm : Str → Option Value) (Q : Flow → Shared → Prop) (R : Rm A 5) (F : LS w g L m cm h)
    {c : Int} {xs : List (List Nat)} {bk : Addr} {items : Array Value} {tp ta : Tok} (mb : m (Str.ofString "book") = some (.ref bk)) (mp : m (Str.ofString "place") = some (.int ((plOf xs (meant c) : Nat) : Int) tp)) (ma : m (Str.ofString "asked") = some (.str (mkS (typed c)) ta))
    (hb : h.PlainList bk items) (hx : BookIs items.toList xs) (hs : Rising xs) (hlx : xs.length ≤ 900) (hbg : g.objs.size ≤ bk)
    (hK : ∀ h' k m', LS w g L m' cm h' → (∀ b o, b ≠ L → b ≠ bk → h.get? b = some o → h'.get? b = some o) → (∀ x, x ≠ (Str.ofString "due") → m' x = m x) → Wp w A (execs (lawBody.drop 25) (Ev w L)) Q { s with heap := h', toks := k }) :
    Wp w A (execs (lawBody.drop 23) (Ev w L)) Q { s with heap := h, toks := k0 } := by
  have hsz : items.size = xs.length := by rw [← hx.length]; exact (Array.length_toList).symm
  have hxr : Paired RS items.toList xs := Paired.mono (fun v q hq => hq.1) hx
  refine wpAny_execs_cons (wpAny_Assign_Name (wpAny_BinOp (wpAny_BinOp ?_)))
  refine wSliceTo (wN F.ns mb (wN F.ns mp ⟨bk, items, plOf xs (meant c), _, rfl, hb.isList, by omega, rfl, fun h4 D4 hx4 hD4 hl4 => ?_⟩))
  have F4 := F.ext hx4
  refine wList (aN (wN F4.ns ma (aNil ⟨by show 1 ≤ _; decide, fun h5 hx5 hl5 _ => ?_⟩)))
  dsimp only at hx4 hl4 hx5 hl5 ⊢
  refine wAddL (hl4.at fun o e => hx5 _ o e) hl5 (by simp; omega) fun h6 hx6 hl6 => ?_
  dsimp only at hx6 hl6 ⊢
  have hx46 := (hx4.trans hx5).trans hx6
  have F6 := F.ext hx46
  refine wSliceFrom (wN F6.ns mb (wN F6.ns mp ⟨bk, items, plOf xs (meant c), _, rfl, (hb.at fun o e => hx46 _ o e).isList, by omega, rfl, fun h7 D7 hx7 hD7 hl7 => ?_⟩))
  dsimp only at hx7 hl7 ⊢
  refine wAddL (hl6.at fun o e => hx7 _ o e) hl7 (by simp; omega) fun h8 hx8 hl8 => ?_
  dsimp only at hx8 hl8 ⊢
  have hx48 := (hx46.trans hx7).trans hx8
  have F8 := F.ext hx48
  have hb8 := hb.at fun o e => hx48 _ o e
  have hbT : bk < h7.objs.size := by
    obtain ⟨n, e⟩ := hb
    exact Heap.lt_size ((hx46.trans hx7) _ _ e)
  have hpd : Paired RS ((items.toList.take (plOf xs (meant c))).toArray ++ #[Value.str (mkS (typed c)) ta] ++ (items.toList.drop (plOf xs (meant c))).toArray).toList (xs.take (plOf xs (meant c)) ++ [typed c] ++ xs.drop (plOf xs (meant c))) := by
    rw [Array.toList_append, Array.toList_append]
    exact Paired.app (Paired.app (by simpa using Paired.tk hxr _) (.cons ⟨ta, rfl⟩ .nil)) (by simpa using Paired.dr hxr _)
  have hne : h7.objs.size ≠ bk := Nat.ne_of_gt hbT
  generalize h7.objs.size = T at hl8 hne ⊢
  refine wSt F8.ns fun h9 n9 s9 => ?_
  have F9 := F8.stL n9 s9
  have hb9 := PlainList.upL hb8 F8.ns s9
  have hl9 := PlainList.upL hl8 F8.ns s9
  have K9 : ∀ b o, b ≠ L → h.get? b = some o → h9.get? b = some o := fun b o hb e => s9.extBut b o hb (hx48 _ _ e)
  clear n9 s9 F8 hb8 hl8 hx48 hx8 hx7 F6 hx46 hl7 hx6 hl6 hx5 hl5 hx4 hl4 F4
  dsimp only at F9 ⊢
  refine wpAny_execs_cons (wIfF ?_)
  refine wpAny_isTrue_BoolOp (wpAny_allTrue_Or_cons (wpAny_isTrue_Compare1 ?_))
  refine wCallKw F9.S (f := 32) (o := o32 w.params) (by kernel_rfl) (by kernel_rfl) rfl ?_
  refine aN (wN F9.ns ((if_neg (by decide +kernel)).trans mb) (aN (wN F9.ns ((if_neg (by decide +kernel)).trans ma) (aNil ?_))))
  refine wG F9.S (v := .ref 154) (by kernel_rfl) ⟨F9.S, ?_⟩
  refine insBook w _ _ _ (R.le (by omega)) F9.S hb9 hx hs (by omega) (fine_typed c) fun g1 k1 items' hb1 hx1 he1 => ?_
  rw [prep_typed, place_cnt] at hx1
  refine wpAny_Constant_none (isnot_none_none (wpAny_truthy_bool ?_))
  rw [if_neg Bool.false_ne_true]
  dsimp only at he1 ⊢
  have F1 := F9.butList hb9.isList hbg he1
  refine wpAny_allTrue_Or_cons (wpAny_isTrue_Compare1 (wN F1.ns ((if_neg (by decide +kernel)).trans mb) (wN F1.ns (if_pos rfl) ?_)))
  refine neSame (by have := R.2.2; omega) hb1.isList (hl9.extBut he1 hne).isList (Paired.mono (fun v q hq => hq.1) hx1) hpd (wpAny_truthy_bool ?_)
  rw [if_neg Bool.false_ne_true]
  exact wpAny_allTrue_Or_nil ⟨rfl, wpAny_execs_nil (hK g1 _ _ F1 (fun b o h1 h2 e => he1 b o h2 (K9 b o h1 e)) (fun x hx => if_neg hx))⟩
end Mine

namespace Mine
open PySem PySem.W PySem.Calls PyProof.Rows

theorem intsAre_of : ∀ {vs : List Value} {ns : List Int}, Paired RI vs ns → IntsAre vs ns
  | _, _, .nil => .nil
  | _, _, .cons ⟨t, h⟩ r => by rw [h]; exact .cons _ t (intsAre_of r)
theorem RN_RI : ∀ {vs : List Value} {ns : List Nat}, Paired RN vs ns → Paired RI vs (ofN ns)
  | _, _, .nil => .nil
  | _, _, .cons h r => .cons h (RN_RI r)
theorem slicePick_both (items : Array Value) (a b : Nat) : slicePick items (some (a : Int)) (some (b : Int)) none = ((items.toList.take b).drop a).toArray := by
  rw [slicePick_plain]
  simp only [Option.elim, clipAt_nat]
  congr 1
  rw [List.drop_take]
  have hl : items.toList.length = items.size := Array.length_toList
  rcases Nat.le_total a items.size with ha | ha
  · rw [Nat.min_eq_left ha]
    rcases Nat.le_total b items.size with hb | hb
    · rw [Nat.min_eq_left hb]
    · rw [Nat.min_eq_right hb, List.take_of_length_le (by rw [List.length_drop]; omega), List.take_of_length_le (by rw [List.length_drop]; omega)]
  · rw [Nat.min_eq_right ha, List.drop_eq_nil_of_le (by omega), List.drop_eq_nil_of_le (by omega), List.take_nil, List.take_nil]
section
variable {w : World} {A : Around} {env : Env}
theorem wSliceBoth {value : Expr} {lower upper : Expr} {p pos : Pos} {Q : Value → Shared → Prop} {s : Shared}
    (h : Wp w A (eval value env) (fun o s₁ => Wp w A (eval lower env) (fun vl s₂ => Wp w A (eval upper env) (fun vu s₃ => ∃ (l : Addr) (items : Array Value) (a b : Nat) (k k2 : Tok), o = .ref l ∧ s₃.heap.IsList l items ∧ items.size ≤ 1000 ∧ vl = .int (a : Int) k ∧ vu = .int (b : Int) k2 ∧
      ∀ h' D, Ext s₃.heap h' → s₃.heap.objs.size ≤ D → h'.PlainList D ((items.toList.take b).drop a).toArray → Q (.ref D) { s₃ with heap := h' }) s₂) s₁) s)
    (ht : ∀ o r, letTemporaryGo value o r = pure () := by intro _ _; rfl) : Wp w A (eval (.Subscript value (.Slice (some lower) (some upper) none p) pos) env) Q s := by
  refine wpAny_Subscript_list_slice (wpAny_mono h (fun o s1 h1 => wpAny_evalPart_some (wpAny_mono h1 (fun vl s2 h2 => wpAny_evalPart_some (wpAny_mono h2 (fun vu s3 h3 => ?_) fun _ _ x => x)) fun _ _ x => x)) fun _ _ x => x) ht
  obtain ⟨l, items, a, b, k, k2, rfl, hl, hsz, rfl, rfl, hq⟩ := h3
  refine ⟨l, items, some (a : Int), some (b : Int), rfl, hl, by show _ ≤ 2 ^ 24; omega, .int _ _, .int _ _, ?_⟩
  rw [slicePick_both]
  have e : s3.heap.objs.size + 1 = (s3.heap.push { cls := .type "slice", data := .fields #[.int (a : Int) k, .int (b : Int) k2, .none] }).objs.size := (Heap.size_push ..).symm
  refine hq _ _ (fun b o e => Heap.get?_push_of_some _ (Heap.get?_push_of_some _ e)) (Nat.le_succ _) ⟨0, ?_⟩
  rw [e]
  exact Heap.get?_push_size _ rfl
/-- a built-in called by its name with things handed -/
theorem wCallBV {id : String} {np pos : Pos} {n : Str} {e : Expr} {rest : List Expr} {Q : Value → Shared → Prop} {s : Shared} (S : Stat w s.heap) (hv : bootBuiltins n = some (.builtin id))
    (h : Wp w A (spliced (backTo pos (starEach (e :: rest) env))) (fun vs s' => Wp w A (call (.builtin id) vs) Q s') s)
    (he : starEach (e :: rest) env = (false, eval e env) :: starEach rest env := by kernel_rfl) (hplain : (backTo pos (starEach rest env)).any (·.1) = false := by rfl)
    (h0 : nsFind (mgEs w.params) n = none := by kernel_rfl) (hn : n ≠ "__name__" := by decide +kernel)
    (hg : env.globals = mainGlobals := by kernel_rfl) (hb : env.builtins = builtinsNs := by kernel_rfl) (hk : env.scope.kind = .function := by kernel_rfl) (hl : env.kindOf n = some .globalImplicit := by kernel_rfl) (hd : (n == ("__debug__" : Str)) = false := by decide +kernel) :
    Wp w A (eval (.Call (.Name n np) (e :: rest) [] pos) env) Q s := by
  refine Call_ (wB S h0 hv ?_ (hn := hn) (hg := hg) (hb := hb) (hk := hk) (hl := hl) (hd := hd))
  exact PyProof.Rows.callWith_builtin1 h he hplain
theorem wMaxL {l : Addr} {items : Array Value} {ns : List Int} {Q : Value → Shared → Prop} {s : Shared} (hh : A.handled = none) (hl : s.heap.IsList l items) (hp : Paired RI items.toList ns) (hne : 0 < ns.length)
    (h : ∀ h' M (t : Tok) tk, Ext s.heap h' → M ∈ ns → (∀ a, a ∈ ns → a ≤ M) → Q (.int M t) { s with heap := h', toks := tk }) : Wp w A (call (.builtin "max") [.ref l]) Q s := by
  have hi := intsAre_of hp
  obtain ⟨xs, e⟩ := hi.allInts.items
  have hns : ns = xs.toList.map (·.1) := by
    rw [← hi.numsOf, ← nums_intItems, ← e]
  have hsz : 0 < xs.size := by
    have h3 := hne; rw [hns, List.length_map, Array.length_toList] at h3; exact h3
  rw [Array.toArray_toList] at e
  rw [e] at hl
  refine max_intList hh hl hsz fun v h' tk hv hk => ?_
  obtain ⟨t, rfl⟩ := intItems_at hv
  obtain ⟨h1, h2⟩ := argBest_gt (numAt xs) (xs.size - 1)
  refine h _ _ t tk hk ?_ fun a ha => ?_
  · rw [hns, numAt_eq]; exact getD_mem (by rw [List.length_map, Array.length_toList]; omega)
  · rw [hns] at ha
    obtain ⟨j, hj, rfl⟩ := mem_getD ha
    rw [List.length_map, Array.length_toList] at hj
    rw [← numAt_eq]; exact h2 j (by omega)
end
theorem max_is {l : List Nat} {M : Int} (h1 : M ∈ (-1 : Int) :: ofN l) (h2 : ∀ a, a ∈ (-1 : Int) :: ofN l → a ≤ M) : M = maxOf l := by
  have a1 : M ≤ maxOf l := by
    unfold maxOf
    rw [foldl_max]
    rcases List.mem_cons.mp h1 with rfl | h1
    · exact .inl (Int.le_refl _)
    · obtain ⟨n, hn, rfl⟩ := List.mem_map.mp h1
      exact .inr ⟨n, hn, Int.le_refl _⟩
  have a2 : maxOf l ≤ M := by
    have := (foldl_max (maxOf l) l (-1)).mp (Int.le_refl _)
    rcases this with q | ⟨n, hn, q⟩
    · have := h2 (-1) (List.mem_cons_self ..); omega
    · have := h2 (n : Int) (List.mem_cons_of_mem _ (List.mem_map_of_mem hn)); omega
  omega
/-- statement 25 -/
theorem need_part (w : World) (A : Around) (g : Heap) (L : Addr) (s : Shared) (h : Heap) (k0 : Nat) (m cm : Str → Option Value) (Q : Flow → Shared → Prop) (R : Rm A 5) (F : LS w g L m cm h)
    {H : Addr} {hits : Array Value} {sh : List Nat} {p : Nat} {tp : Tok} (mp : m (Str.ofString "place") = some (.int (p : Int) tp)) (mh : m (Str.ofString "shares") = some (.ref H)) (hH : h.IsList H hits) (hp : Paired RN hits.toList sh) (hsl : sh.length ≤ 900) (hp9 : p ≤ 900)
    (hK : ∀ h' k m' t, LS w g L m' cm h' → (∀ b o, b ≠ L → h.get? b = some o → h'.get? b = some o) → (∀ x, x ≠ (Str.ofString "need") → m' x = m x) → m' (Str.ofString "need") = some (.int (needOf sh p) t) → Wp w A (execs (lawBody.drop 26) (Ev w L)) Q { s with heap := h', toks := k }) :
    Wp w A (execs (lawBody.drop 25) (Ev w L)) Q { s with heap := h, toks := k0 } := by
  have hsz : hits.size = sh.length := by rw [← hp.length]; exact (Array.length_toList).symm
  refine wpAny_execs_cons (wpAny_Assign_Name (wpAny_BinOp (wpAny_Constant_int ?_)))
  refine wCallB F.S (id := "max") (by kernel_rfl) (wpAny_BinOp ?_)
  refine wList (args_cons (wpAny_UnaryOp (wpAny_Constant_int (neg_int ?_))) rfl)
  refine aNil ⟨by show 1 ≤ _; decide, fun h1 hx1 hl1 _ => ?_⟩
  dsimp only at hx1 hl1 ⊢
  have F1 := F.ext hx1
  refine wSliceBoth (wN F1.ns mh ?_)
  refine wCallBV F1.S (id := "max") (by kernel_rfl) ?_
  refine aBin (wpAny_BinOp (wN F1.ns mp (wpAny_Constant_int (sub_int ?_))))
  refine aC (wpAny_Constant_int (aNil ?_))
  refine max_two_ints R.1 fun h2 k2 hx2 => ?_
  dsimp only at hx2 ⊢
  have hx2 : Ext h1 h2 := hx2
  have F2 := F1.ext hx2
  have e0 : ∀ t u : Tok, ∃ v, (if (0 : Int) > (p : Int) - 1 then Value.int 0 u else Value.int ((p : Int) - 1) t) = .int ((p - 1 : Nat) : Int) v := by
    intro t u
    by_cases hq : (0 : Int) > (p : Int) - 1
    · rw [if_pos hq]
      exact ⟨u, by rw [show p - 1 = 0 by omega]; rfl⟩
    · rw [if_neg hq]
      exact ⟨t, by rw [show ((p : Int) - 1) = ((p - 1 : Nat) : Int) by omega]⟩
  refine wpAny_BinOp (wN F2.ns mp (wpAny_Constant_int (add_int ?_)))
  obtain ⟨tv, ev⟩ := e0 _ _
  refine ⟨H, hits, p - 1, p + 1, tv, _, rfl, (hH.at fun o e => hx1 _ o e).at fun o e => hx2 _ o e, by omega, ev, by rw [show ((p : Int) + 1) = ((p + 1 : Nat) : Int) by omega], fun h3 D hx3 hD hl3 => ?_⟩
  dsimp only at hx3 hl3 ⊢
  refine wAddL ((hl1.at fun o e => hx2 _ o e).at fun o e => hx3 _ o e) hl3 ?_ fun h4 hx4 hl4 => ?_
  · have : (List.drop (p - 1) (List.take (p + 1) hits.toList)).length ≤ hits.size := by
      rw [List.length_drop, List.length_take, Array.length_toList]; omega
    rw [List.size_toArray, List.size_toArray]
    show 1 + _ ≤ _
    omega
  dsimp only at hx4 hl4 ⊢
  have hns : ∀ t : Tok, Paired RI (#[Value.int (-1) t] ++ (List.drop (p - 1) (List.take (p + 1) hits.toList)).toArray).toList ((-1 : Int) :: ofN ((sh.take (p + 1)).drop (p - 1))) := by
    intro t
    rw [Array.toList_append]
    exact .cons ⟨_, rfl⟩ (RN_RI (Paired.dr (Paired.tk hp _) _))
  refine wMaxL R.1 hl4.isList (hns _) (Nat.succ_pos _) fun h5 M t5 k5 hx5 hM1 hM2 => ?_
  dsimp only at hx5 ⊢
  have hx5 : Ext h4 h5 := hx5
  have hx15 := ((hx2.trans hx3).trans hx4).trans hx5
  have F5 := F1.ext hx15
  rw [max_is hM1 hM2]
  refine add_int ?_
  refine wSt F5.ns fun h6 n6 s6 => ?_
  have F6 := F5.stL n6 s6
  exact hK h6 _ _ _ F6 (fun b o hb e => s6.extBut b o hb (hx15 _ _ (hx1 _ _ e))) (fun x hx => if_neg hx) (if_pos rfl)
end Mine

namespace Mine
open PySem PySem.W PySem.Calls PyProof.Rows

/-- statement 26 -/
theorem cuts_part (w : World) (A : Around) (g : Heap) (L : Addr) (s : Shared) (h : Heap) (k0 : Nat) (m cm : Str → Option Value) (Q : Flow → Shared → Prop) (R : Rm A 5) (F : LS w g L m cm h)
    {c : Int} {tb : Tok} (cb : cm (Str.ofString "body") = some (.str (mkS (bodyOf c)) tb))
    (hK : ∀ h' k m' C cits, LS w g L m' cm h' → (∀ b o, b ≠ L → h.get? b = some o → h'.get? b = some o) → (∀ x, x ≠ (Str.ofString "cuts") → m' x = m x) → m' (Str.ofString "cuts") = some (.ref C) → h'.PlainList C cits → Paired RN cits.toList (List.range ((bodyOf c).length + 1)) → Wp w A (execs (lawBody.drop 27) (Ev w L)) Q { s with heap := h', toks := k }) :
    Wp w A (execs (lawBody.drop 26) (Ev w L)) Q { s with heap := h, toks := k0 } := by
  have hbs := body_small c
  have hcb : h.IsCell (L + 4) (some (.str (mkS (bodyOf c)) tb)) := by rw [← cb]; exact F.body
  refine wpAny_execs_cons (wpAny_Assign_Name ?_)
  refine wCallT F.S (T := "list") (by kernel_rfl) ?_
  refine wCallT F.S (T := "range") (by kernel_rfl) (wpAny_BinOp (wCallB F.S (id := "len") (by kernel_rfl) (wNc (c := L + 4) (by with_unfolding_all rfl) hcb (PySem.P.len_str (by rw [mkS_len]; omega) ?_))))
  refine wpAny_Constant_int (add_int ?_)
  rw [mkS_len, show (((bodyOf c).length : Int) + 1) = (((bodyOf c).length + 1 : Nat) : Int) by omega]
  refine call_range fun h1 r k1 t1 u1 v1 hx1 hr1 hir => ?_
  dsimp only at hx1 hr1 hir ⊢
  refine PySem.call_list_range R.1 hir (range_small (by omega)) range_size (by omega) fun h2 k2 acc c2 hx2 hl2 hit => ?_
  dsimp only at hx2 hl2 ⊢
  have hx2 : Ext h1 h2 := hx2
  have F2 := (F.ext hx1).ext hx2
  have hl2 : h2.PlainList h1.objs.size acc := ⟨c2, hl2⟩
  refine wSt F2.ns fun h3 n3 s3 => ?_
  have F3 := F2.stL n3 s3
  refine hK h3 _ _ _ acc F3 (fun b o hb e => s3.extBut b o hb (hx2 _ _ (hx1 _ _ e))) (fun x hx => if_neg hx) (if_pos rfl) (PlainList.upL hl2 F2.ns s3) ?_
  refine Paired.ofGet (by rw [Array.length_toList, hit.1, List.length_range]) fun i v hv => ?_
  have hv' : acc[i]? = some v := by rw [← Array.getElem?_toList]; exact hv
  obtain ⟨t, rfl⟩ := hit.2 i v hv'
  have hi : i < (bodyOf c).length + 1 := by
    have := (List.getElem?_eq_some_iff.mp hv).1
    rw [Array.length_toList, hit.1] at this; exact this
  exact ⟨i, List.getElem?_range hi, t, by rw [Int.zero_add, Int.mul_one]⟩
noncomputable abbrev lamScL : Scope := { kind := PySem.ScopeKind.function, names := [(PySem.Str.ofString "cut", PySem.NameKind.local), (PySem.Str.ofString "body", PySem.NameKind.free), (PySem.Str.ofString "len", PySem.NameKind.globalImplicit), (PySem.Str.ofString "_law_front", PySem.NameKind.globalImplicit)], isGenerator := false, isCoroutine := false, more := [] : PySem.Scope }
noncomputable abbrev lamBodyL (p1 p2 p3 p4 p5 p6 : Pos) : Expr := .Call (.Name "len" p1) [.Call (.Name "_law_front" p2) [.Name "body" p3, .Name "cut" p4] [] p5] [] p6
theorem lawKey (w : World) {g : Heap} {f : Addr} {cv ctv pm : Value} {cB : Addr} {c : Int} {tb t tn : Tok} {i : Nat} {need : Int} {b : Bool} {q : Str} {p0 p1 p2 p3 p4 p5 p6 : Pos}
    (hf : g.get? f = some { cls := .type "function", data := .func (kla_fn "<lambda>" q (lamPar "cut" p0) (lamBodyL p1 p2 p3 p4 p5 p6) lamScL [("body", cB)] pm cv ctv) }) (hcd : g.CodeRec cv q)
    (hB : g.IsCell cB (some (.str (mkS (bodyOf c)) tb))) (hi : i ≤ (bodyOf c).length) (hb : b = decide (((frontOf (bodyOf c) i).length : Int) < need)) : ProbeL w g f (.int need tn) (.int (i : Int) t) b 4 := by
  intro A s Q R hE S hQ
  refine wCallLam (vals := [.int (i : Int) t]) (binds := [("cut", .int (i : Int) t)]) R S (hE _ _ hf) (hcd.keeps hE) (by with_unfolding_all rfl) (by rfl) (fun h₀ hn hE₀ S₀ R₀ => ?_) rfl rfl rfl rfl
  refine wCallB S₀ (id := "len") (by kernel_rfl) ?_
  refine wCallV S₀ (f := 161) (o := o161 w.params) (by kernel_rfl) (by kernel_rfl) rfl ?_
  refine aN (wNf (c := cB) rfl ((hB.keeps hE).keeps hE₀) (aN (wN hn rfl (aNil ⟨S₀, ?_⟩))))
  refine front_ok w (bodyOf c) i tb t (fine_body c) _ _ _ R₀ S₀ fun h1 k1 t1 hx1 => ?_
  dsimp only at hx1 ⊢
  have hfl : (frontOf (bodyOf c) i).length ≤ 300 := Nat.le_trans (front_pre c hi).length_le (meant_small c)
  refine PySem.P.len_str (by rw [mkS_len]; omega) ?_
  rw [mkS_len]
  refine hQ _ _ _ (hE₀.trans hx1) fun A' s' Q' hq => lt_int ?_
  rw [← hb]; exact hq
/-- statement 27 -/
theorem final_part (w : World) (A : Around) (g : Heap) (L : Addr) (s : Shared) (h : Heap) (k0 : Nat) (m cm : Str → Option Value) (Q : Flow → Shared → Prop) (R : Rm A 5) (F : LS w g L m cm h)
    {c : Int} {tb tn tr : Tok} {C : Addr} {cits : Array Value} {need : Int} {r : Nat} (cb : cm (Str.ofString "body") = some (.str (mkS (bodyOf c)) tb)) (mc : m (Str.ofString "cuts") = some (.ref C)) (hC : h.IsList C cits) (hp : Paired RN cits.toList (List.range ((bodyOf c).length + 1)))
    (mn : m (Str.ofString "need") = some (.int need tn)) (mr : m (Str.ofString "crowded") = some (.int (r : Int) tr)) (hr : r ≤ (bodyOf c).length + 1) (hit : ∀ i, i < (bodyOf c).length + 1 → (((frontOf (bodyOf c) i).length : Int) < need ↔ i < r))
    (hK : ∀ h' k, LS w g L m cm h' → Q (.ret (.bool true)) { s with heap := h', toks := k }) :
    Wp w A (execs (lawBody.drop 27) (Ev w L)) Q { s with heap := h, toks := k0 } := by
  have hbs := body_small c
  have hsz : cits.size = (bodyOf c).length + 1 := by rw [← Array.length_toList, hp.length, List.length_range]
  have n177 : C ≠ 177 := neTab F.T' hC
  refine wpAny_execs_cons (wpAny_Return_some (wpAny_Compare1 ?_))
  refine wCallKw F.S (f := 41) (o := o41 w.params) (by kernel_rfl) (by kernel_rfl) rfl ?_
  refine aN (wN F.ns mc (aN (wN F.ns mn (aNil ?_))))
  refine wLam F.S F.B (hdL F.S) F.T' (clos := [("body", L + 4)]) (by with_unfolding_all rfl) (by decide) (by decide) fun f cv ctv h1 k1 hx1 T1 hcd1 hf1 hfo => ?_
  obtain ⟨pm, hfo⟩ := hfo
  dsimp only at hx1 hf1 ⊢
  have F1 := F.but177 hx1 T1
  have hC1 := hC.extBut hx1 n177
  have hcb1 : h1.IsCell (L + 4) (some (.str (mkS (bodyOf c)) tb)) := by rw [← cb]; exact F1.body
  refine ⟨F1.S, ?_⟩
  have key : ∀ (g : Heap) (f : Addr) (p0 p1 p2 p3 p4 p5 p6 : Pos) (cv ctv pm : Value), g.get? f = some { cls := .type "function", data := .func (kla_fn "<lambda>" qL (lamPar "cut" p0) (lamBodyL p1 p2 p3 p4 p5 p6) lamScL [("body", L + 4)] pm cv ctv) } → g.CodeRec cv qL →
      g.IsCell (L + 4) (some (.str (mkS (bodyOf c)) tb)) → ∀ (i : Nat) v b, cits[i]? = some v → (b = true ↔ i < r) → ProbeL w g f (.int need tn) v b 4 := by
    intro g f p0 p1 p2 p3 p4 p5 p6 cv ctv pm ho hc hB i v b hv hb
    obtain ⟨x, hxi, u, rfl⟩ := Paired.getL hp (i := i) (a := v) (by rw [Array.getElem?_toList]; exact hv)
    have hi : i < (bodyOf c).length + 1 := by
      have := (Array.getElem?_eq_some_iff.mp hv).1
      omega
    rw [List.getElem?_range hi] at hxi
    cases hxi
    refine lawKey w ho hc hB (by omega) ?_
    rw [Bool.eq_iff_iff, decide_eq_true_iff, hit i hi]; exact hb
  refine bisL_ok w _ { s with heap := h1, toks := k1 } _ 4 R F1.S (args := ⟨_, _⟩) (items := cits) 0 r cits.size hC1 (Nat.zero_le _) (by omega) (Nat.le_refl _) (by omega) (.inl ⟨rfl, rfl⟩) ⟨_, _, hfo, rfl⟩ (bindL2 F1.S) (fun i v _ hi hv => ?_) (fun i v hi hi2 hv => ?_) fun h2 k2 t2 hx2 => ?_
  · exact key h1 f _ _ _ _ _ _ _ cv ctv pm hfo hcd1 hcb1 i v true hv ⟨fun _ => hi, fun _ => rfl⟩
  · exact key h1 f _ _ _ _ _ _ _ cv ctv pm hfo hcd1 hcb1 i v false hv ⟨fun q => (nomatch q), fun q => absurd q (Nat.not_lt.mpr hi)⟩
  dsimp only at hx2 ⊢
  have F2 := F1.ext hx2
  refine wN F2.ns mr (eq_int ?_)
  rw [show ((r : Int) == (r : Int)) = true from beq_self_eq_true _]
  exact hK h2 _ F2
end Mine

namespace Mine
open PySem PySem.W PySem.Calls PyProof.Rows

section
variable {h h' : Heap} {a L c : Addr} {items : Array Value} {m : Str → Option Value} {v : Option Value}
theorem list1 (x : h.IsList a items) (hn : h.Ns L m) (hk : ∀ b o, b ≠ L → h.get? b = some o → h'.get? b = some o) : h'.IsList a items := x.at fun o e => hk _ o (ne_ns x hn) e
theorem plain1 (x : h.PlainList a items) (hn : h.Ns L m) (hk : ∀ b o, b ≠ L → h.get? b = some o → h'.get? b = some o) : h'.PlainList a items := x.at fun o e => hk _ o (ne_ns x.isList hn) e
theorem plain2 (x : h.PlainList a items) (hn : h.Ns L m) (hc : h.IsCell c v) (hk : ∀ b o, b ≠ L → b ≠ c → h.get? b = some o → h'.get? b = some o) : h'.PlainList a items := x.at fun o e => hk _ o (ne_ns x.isList hn) (ne_cell x.isList hc) e
theorem tup2 {vs : List Value} {ps : List (List Nat × List Nat)} (x : Paired (TupIs h) vs ps) (hn : h.Ns L m) (hc : h.IsCell c v) (hk : ∀ b o, b ≠ L → b ≠ c → h.get? b = some o → h'.get? b = some o) : Paired (TupIs h') vs ps :=
  Paired.mono (fun v q hq => by
    obtain ⟨b, t, u, rfl, hb⟩ := hq
    have h1 : b ≠ L := by rintro rfl; exact notTup_ns hn _ hb
    obtain ⟨o, ho, r⟩ := hb
    have h2 : b ≠ c := by
      rintro rfl
      obtain ⟨o', ho', hd'⟩ := hc
      rw [ho] at ho'; cases ho'
      obtain ⟨_, n, hd⟩ := r
      rw [hd] at hd'; cases hd'
    exact ⟨b, t, u, rfl, o, hk b o h1 h2 ho, r⟩) x
end
theorem book_fine {vs : List Value} {xs : List (List Nat)} (hx : BookIs vs xs) : ∀ x ∈ xs, Fine x := by
  intro x hm
  obtain ⟨i, hi⟩ := List.mem_iff_getElem?.mp hm
  obtain ⟨v, _, _, hf⟩ := Paired.get hx hi
  exact hf
theorem line_small {xs : List (List Nat)} (hf : ∀ x ∈ xs, Fine x) (c : Int) (p : Nat) : ∀ x ∈ lineOf (othOf xs (meant c)) (meant c) p, x.length ≤ 1000 := by
  have ho : ∀ x ∈ othOf xs (meant c), x.length ≤ 1000 := by
    intro x hx
    obtain ⟨t, ht, rfl⟩ := List.mem_map.mp (List.mem_filter.mp hx).1
    have h1 := prep_len (hf t ht)
    have h2 := (hf t ht).1
    omega
  intro x hx
  unfold lineOf at hx
  rcases List.mem_append.mp hx with hx | hx
  · rcases List.mem_append.mp hx with hx | hx
    · exact ho x (List.mem_of_mem_take hx)
    · rw [List.mem_singleton.mp hx]; have := meant_small c; omega
  · exact ho x (List.mem_of_mem_drop hx)
/-- statements 3 to 27 -/
theorem law_rest (w : World) (A : Around) (g : Heap) (L : Addr) (s : Shared) (h : Heap) (k0 : Nat) (m cm : Str → Option Value) (Q : Flow → Shared → Prop) (R : Rm A 5) (F : LS w g L m cm h)
    {cl bk ld : Addr} {citems : Array Value} {cs : List Int} (m0 : m "cells" = some (.ref cl)) (m4 : m "book" = some (.ref bk)) (m5 : m "laid" = some (.ref ld))
    (hcl : h.IsList cl citems) (hcs : Paired RI citems.toList cs) (hlen : cs.length = 6) (hb : h.PlainList bk #[]) (hd : h.PlainList ld #[]) (hbl : bk ≠ ld) (hbg : g.objs.size ≤ bk) (hlg : g.objs.size ≤ ld) (hcb : cl ≠ bk) (hcd : cl ≠ ld)
    (hK : ∀ h' k m' cm', LS w g L m' cm' h' → Q (.ret (.bool true)) { s with heap := h', toks := k }) :
    Wp w A (execs (lawBody.drop 3) (Ev w L)) Q { s with heap := h, toks := k0 } := by
  have hcL := ne_ns hcl F.ns
  obtain ⟨c, hc⟩ : ∃ c, cs[5]? = some c := ⟨cs[5]'(by omega), List.getElem?_eq_getElem _⟩
  have I := lays_inv cs 5
  have len1 := lays_len1 cs 5
  have len2 := lays_len2 cs 5
  have hleq : (lays cs 5).1.length = (lays cs 5).2.length := by have := I.perm.length_eq; rwa [List.length_map] at this
  generalize hst : lays cs 5 = st at I len1 len2 hleq
  refine loop1 w A g L s h k0 m cm Q R F m0 m4 m5 hcl hcs hlen hb hd hbl hbg hlg fun h1 k1 m1 items lits F1 K1 n0 n4 n5 hb1 hx1 hd1 hp1 => ?_
  rw [hst] at hx1 hp1
  obtain ⟨xs, ps⟩ := st
  dsimp only at hx1 hp1 len1 len2 hleq
  have hcl1 := hcl.at fun o e => K1 _ o hcL hcb hcd e
  refine stmt4 w A g L s h1 k1 m1 cm Q R F1 n4 n5 hb1.isList hx1 hd1.isList hp1 I (by omega) fun h2 k2 F2 hx2 => ?_
  have hb2 := hb1.at fun o e => hx2 _ o e
  have hd2 := hd1.at fun o e => hx2 _ o e
  have hp2 := TupIs.ext hx2 hp1
  have hcl2 := hcl1.at fun o e => hx2 _ o e
  refine asked_part w A g L s h2 k2 m1 cm Q R F2 n0 hcl2 hcs hc fun h3 k3 m3 cm3 P pit F3 K3 mm3 ⟨ta, ma⟩ mP hP hpp ⟨tb, cb⟩ => ?_
  have hb3 := plain2 hb2 F2.ns F2.body K3
  have hd3 := plain2 hd2 F2.ns F2.body K3
  have hp3 := tup2 hp2 F2.ns F2.body K3
  have b3 := (mm3 (Str.ofString "book") (by decide +kernel) (by decide +kernel) (by decide +kernel)).trans n4
  have l3 := (mm3 (Str.ofString "laid") (by decide +kernel) (by decide +kernel) (by decide +kernel)).trans n5
  refine sizes_part w A g L s h3 k3 m3 cm3 Q R F3 mP hP hpp fun h4 k4 m4 Z zs tw F4 K4 mm4 mz4 hz4 hzs => ?_
  have hb4 := plain2 hb3 F3.ns F3.word K4
  have hd4 := plain2 hd3 F3.ns F3.word K4
  have hp4 := tup2 hp3 F3.ns F3.word K4
  have b4 := (mm4 (Str.ofString "book") (by decide +kernel) (by decide +kernel)).trans b3
  have l4 := (mm4 (Str.ofString "laid") (by decide +kernel) (by decide +kernel)).trans l3
  have a4 := (mm4 (Str.ofString "asked") (by decide +kernel) (by decide +kernel)).trans ma
  refine others_part w A g L s h4 k4 m4 _ Q R F4 l4 (if_pos rfl) hd4.isList hp4 I (by omega) fun h5 k5 m5 O oits F5 K5 mm5 mo5 ho5 hpo => ?_
  have hb5 := plain1 hb4 F4.ns K5
  have hd5 := plain1 hd4 F4.ns K5
  have hz5 := plain1 hz4 F4.ns K5
  have b5 := (mm5 (Str.ofString "book") (by decide +kernel)).trans b4
  have l5 := (mm5 (Str.ofString "laid") (by decide +kernel)).trans l4
  have a5 := (mm5 (Str.ofString "asked") (by decide +kernel)).trans a4
  have z5 := (mm5 (Str.ofString "sizes") (by decide +kernel)).trans mz4
  have hol := oth_len xs (meant c)
  have hlits : lits.size = xs.length := by rw [hleq, ← hp2.length]; exact (Array.length_toList).symm
  refine line_part w A g L s h5 k5 m5 _ Q R F5 l5 mo5 (if_pos rfl) hd5.isList hlits ho5 hpo hol (by omega) fun h6 k6 m6 T tits t1 t2 F6 K6 mm6 mk6 mp6 hT6 hpt => ?_
  have hb6 := plain2 hb5 F5.ns F5.line K6
  have ho6 := plain2 ho5 F5.ns F5.line K6
  have hz6 := plain2 hz5 F5.ns F5.line K6
  have b6 := (mm6 (Str.ofString "book") (by decide +kernel) (by decide +kernel)).trans b5
  have a6 := (mm6 (Str.ofString "asked") (by decide +kernel) (by decide +kernel)).trans a5
  have z6 := (mm6 (Str.ofString "sizes") (by decide +kernel) (by decide +kernel)).trans z5
  have o6 := (mm6 (Str.ofString "others") (by decide +kernel) (by decide +kernel)).trans mo5
  have N : Nb (othOf xs (meant c)) (meant c) (plOf xs (meant c)) := nbOf I.rise (meant c)
  have hple : plOf xs (meant c) ≤ (othOf xs (meant c)).length := N.le
  have hos : oits.size = (othOf xs (meant c)).length := by rw [← hpo.length]; exact (Array.length_toList).symm
  refine shares_part w A g L s h6 k6 m6 _ Q R F6 o6 (if_pos rfl) ho6.isList hos (by omega) hT6.isList hpt hple (line_small (book_fine hx1) c _) fun h7 k7 m7 H hits F7 K7 mm7 mh7 hH7 hph hH0 => ?_
  have hHb : H ≠ bk := by
    rintro rfl
    obtain ⟨n, e⟩ := hb6
    rw [hH0] at e; cases e
  have hb7 := plain1 hb6 F6.ns K7
  have ho7 := plain1 ho6 F6.ns K7
  have hz7 := plain1 hz6 F6.ns K7
  have hbsz : items.size = xs.length := by rw [← hx1.length]; exact (Array.length_toList).symm
  refine start_part w A g L s h7 k7 m7 _ Q R F7 ((mm7 (Str.ofString "book") (by decide +kernel)).trans b6) hb7.isList (by omega) fun h8 k8 m8 u1 u2 u3 u4 F8 K8 mm8 mf8 ml8 mh8 mr8 => ?_
  have hb8 := plain1 hb7 F7.ns K8
  have ho8 := plain1 ho7 F7.ns K8
  have hz8 := plain1 hz7 F7.ns K8
  have hH8 := plain1 hH7 F7.ns K8
  have q8 : ∀ x, x ≠ (Str.ofString "front") → x ≠ (Str.ofString "low") → x ≠ (Str.ofString "high") → x ≠ (Str.ofString "crowded") → x ≠ (Str.ofString "shares") → m8 x = m6 x := fun x a b c d e => (mm8 x a b c d).trans (mm7 x e)
  have nq1 : ¬ (Str.ofString "body") = (Str.ofString "line") := by decide +kernel
  have nq2 : ¬ (Str.ofString "body") = (Str.ofString "word") := by decide +kernel
  have nq3 : ¬ (Str.ofString "word") = (Str.ofString "line") := by decide +kernel
  have cb7 : (fun y => if y = (Str.ofString "line") then some (Value.ref T) else if y = (Str.ofString "word") then some (Value.str (mkS (meant c)) tw) else cm3 y) (Str.ofString "body") = some (.str (mkS (bodyOf c)) tb) := by
    dsimp only
    rw [if_neg nq1, if_neg nq2]; exact cb
  have cw7 : (fun y => if y = (Str.ofString "line") then some (Value.ref T) else if y = (Str.ofString "word") then some (Value.str (mkS (meant c)) tw) else cm3 y) (Str.ofString "word") = some (.str (mkS (meant c)) tw) := by
    dsimp only
    rw [if_neg nq3, if_pos rfl]
  have X8 : Cx h8 m8 (fun y => if y = (Str.ofString "line") then some (Value.ref T) else if y = (Str.ofString "word") then some (Value.str (mkS (meant c)) tw) else cm3 y) c xs bk O H Z items oits hits zs := {
    lb := hb8.isList
    lo := ho8.isList
    lh := hH8.isList
    lz := hz8.isList
    xb := hx1
    xo := hpo
    xh := hph
    xz := hzs
    rise := I.rise
    len := by omega
    mb := (q8 _ (by decide +kernel) (by decide +kernel) (by decide +kernel) (by decide +kernel) (by decide +kernel)).trans b6
    mo := (q8 _ (by decide +kernel) (by decide +kernel) (by decide +kernel) (by decide +kernel) (by decide +kernel)).trans o6
    mh := (mm8 _ (by decide +kernel) (by decide +kernel) (by decide +kernel) (by decide +kernel)).trans mh7
    mz := (q8 _ (by decide +kernel) (by decide +kernel) (by decide +kernel) (by decide +kernel) (by decide +kernel)).trans z6
    mkn := ⟨t1, (q8 _ (by decide +kernel) (by decide +kernel) (by decide +kernel) (by decide +kernel) (by decide +kernel)).trans mk6⟩
    mp := ⟨t2, (q8 _ (by decide +kernel) (by decide +kernel) (by decide +kernel) (by decide +kernel) (by decide +kernel)).trans mp6⟩
    cb := ⟨tb, cb7⟩
    cw := ⟨tw, cw7⟩ }
  have a8 := (q8 (Str.ofString "asked") (by decide +kernel) (by decide +kernel) (by decide +kernel) (by decide +kernel) (by decide +kernel)).trans a6
  rw [hbsz] at mh8
  refine loop2 w A g L s h8 k8 m8 _ Q R F8 X8 mf8 ml8 mh8 mr8 fun h9 k9 m9 v1 v2 F9 K9 X9 mm9 ml9 mr9 => ?_
  have hb9 := hb8.at fun o e => K9 _ o (ne_ns hb8.isList F8.ns) (neTab F8.T hb8.isList) e
  have a9 := (mm9 (Str.ofString "asked") (by decide)).trans a8
  refine check_part w A g L s h9 k9 m9 _ Q R F9 X9 ml9 fun h10 k10 F10 hx10 => ?_
  have hb10 := hb9.at fun o e => hx10 _ o e
  have X10 := X9.step F9 (fun b o _ _ e => hx10 b o e) rfl rfl rfl rfl rfl rfl
  obtain ⟨tp, mp10⟩ := X10.mp
  refine due_part w A g L s h10 k10 m9 _ Q R F10 X10.mb mp10 a9 hb10 hx1 I.rise (by omega) hbg fun h11 k11 m11 F11 K11 mm11 => ?_
  have hH11 : h11.IsList H hits := X10.lh.at fun o e' => K11 _ o (ne_ns X10.lh F10.ns) hHb e'
  have shl : (shOf (othOf xs (meant c)) (meant c) (plOf xs (meant c))).length = (othOf xs (meant c)).length := Nb.sh_len
  refine need_part w A g L s h11 k11 m11 _ Q R F11 ((mm11 _ (by decide +kernel)).trans mp10) ((mm11 _ (by decide +kernel)).trans X10.mh) hH11 hph (Nat.le_trans (Nat.le_of_eq shl) (by omega)) (by omega) fun h12 k12 m12 t12 F12 K12 mm12 mn12 => ?_
  obtain ⟨tb', cb'⟩ := X10.cb
  refine cuts_part w A g L s h12 k12 m12 _ Q R F12 cb' fun h13 k13 m13 C cits F13 K13 mm13 mc13 hC13 hpc => ?_
  have mr13 := (mm13 (Str.ofString "crowded") (by decide +kernel)).trans ((mm12 (Str.ofString "crowded") (by decide +kernel)).trans ((mm11 (Str.ofString "crowded") (by decide +kernel)).trans mr9))
  refine final_part w A g L s h13 k13 m13 _ Q R F13 cb' mc13 hC13.isList hpc ((mm13 _ (by decide +kernel)).trans mn12) mr13 ?_ (fun i hi => ?_) fun h14 k14 F14 => hK h14 k14 _ _ F14
  · unfold crOf
    exact Nat.le_trans List.countP_le_length (by rw [List.length_range]; exact Nat.le_refl _)
  · exact crowded_iff N (fun i => frontOf (bodyOf c) i) (fun i hi => front_pre c (by omega)) (fun i j hij hj => front_mono c hij (by omega)) hi
end Mine

namespace Mine
open PySem PySem.W PySem.Calls PyProof.Rows

/-! ## a comprehension over pairs -/
theorem block_T {w : World} {A : Around} {E : Value → Shared → Prop} {env : Env} {elt iter : Expr} {x x₂ : Str} {px px₂ tp : Pos} {tk : Nat} {scope : Scope} {cl : List (Str × Addr)} {pos : Pos} {s₂ : Shared} {I : Addr} {fp wr : List Addr} {n : Nat} {Pt : Nat → Array Value → Prop} {St : Nat → Heap → Prop} {Mid : Nat → Addr → Heap → Prop}
    {β : Type} {R2 : Value → β → Prop} {g : Nat → β} {RR : Value → Addr → Result → Shared → Prop}
    (W : WalksT pw w A I fp wr n Pt St Mid) (hsz : n ≤ 1000) (hcell : ∀ y ∈ scope.names, y.2 ≠ .cell) (hkind : scope.kind = .function) (hx : scope.names.lookup x = some .local) (hx₂ : scope.names.lookup x₂ = some .local) (hh : A.handled = none)
    (hst : St 0 s₂.heap) (hfp : ∀ b ∈ fp, b < s₂.heap.objs.size)
    (helt : ∀ C i vals s3 m3, i < n → Pt i vals → ∃ a b, vals = #[a, b] ∧ (s3.heap.Ns C m3 → m3 x = (if x = x₂ then some b else some a) → m3 x₂ = some b → (∀ b o, b ∉ wr → s₂.heap.get? b = some o → s3.heap.get? b = some o) → Wp w A (eval elt (compEnvC scope cl C env)) (fun y s4 => R2 y (g i) ∧ Keeps s3 s4) s3))
    (hRR : ∀ D C h tk m' ys, h.Ns C m' → C ≠ D → s₂.heap.get? C = none → s₂.heap.get? D = none → h.PlainList D ys → Paired R2 ys.toList ((List.range n).map g) → (∀ b o, b ∉ wr → s₂.heap.get? b = some o → h.get? b = some o) → RR (.ref D) C (.ok .next) { s₂ with heap := h, toks := tk }) :
    wpAny (model pw w) A (newList []) (fun acc s₃ => wpAny (model pw w) A (newFunctionEnv scope env.globals cl [] env.qual none .none (some env)) (fun cenv s₄ =>
      codeAny (model pw w) A (.compStart (.ListComp elt [⟨.Tuple [.Name x px, .Name x₂ px₂] tk tp, iter, [], 0⟩] scope pos) 0 (.ref I) acc { cenv with scope := relabel scope env }) (RR acc cenv.locals) s₄) E s₃) E s₂ := by
  refine wpAny_newObj_type (wpAny_newFunctionEnv hcell (by intro y hy; simp at hy) (fun h₁ hns₁ hsb₁ => ?_) hkind)
  dsimp only at hns₁ hsb₁ ⊢
  generalize hH2 : s₂.heap.push { cls := .type "list", dict := none, data := .seq ([] : List Value).toArray } = H2 at hns₁ hsb₁ ⊢
  have hC : H2.objs.size = s₂.heap.objs.size + 1 := by rw [← hH2, Heap.size_push]
  have hDC : s₂.heap.objs.size ≠ H2.objs.size := by rw [hC]; exact Nat.ne_of_lt (Nat.lt_succ_self _)
  have below : ∀ b, b < s₂.heap.objs.size → b ≠ H2.objs.size ∧ b ≠ s₂.heap.objs.size := fun b hb => ⟨by rw [hC]; exact Nat.ne_of_lt (Nat.lt_succ_of_lt hb), Nat.ne_of_lt hb⟩
  have hDf : s₂.heap.objs.size ∉ fp := fun hm => Nat.lt_irrefl _ (hfp _ hm)
  have hCf : H2.objs.size ∉ fp := fun hm => by have := hfp _ hm; rw [hC] at this; exact Nat.lt_irrefl _ (Nat.lt_of_succ_lt this)
  have old : ∀ b o, s₂.heap.get? b = some o → h₁.get? b = some o := fun b o e => hsb₁.extBut b o (below b (Heap.lt_size e)).1 (Heap.get?_push_of_some _ (hH2 ▸ Heap.get?_push_of_some _ e))
  have hacc : h₁.PlainList s₂.heap.objs.size #[] := ⟨_, hsb₁.extBut _ _ hDC (Heap.get?_push_of_some _ (hH2 ▸ Heap.get?_push_size _ rfl))⟩
  have hst₁ : St 0 h₁ := W.frame _ _ _ hst fun b _ o e => old b o e
  have hC₀ : s₂.heap.get? H2.objs.size = none := fresh_at (by rw [hC]; exact Nat.le_succ _)
  have hD₀ : s₂.heap.get? s₂.heap.objs.size = none := fresh_at (Nat.le_refl _)
  generalize H2.objs.size = C at *
  generalize hDd : s₂.heap.objs.size = D at *
  have loop : ∀ s₃ : Shared, s₃ = { s₂ with heap := h₁, toks := s₂.toks + ([] : List (Str × Value)).length } →
      codeAny (model pw w) A (.compLoop (.ListComp elt [⟨.Tuple [.Name x px, .Name x₂ px₂] tk tp, iter, [], 0⟩] scope pos) 0 (.ref I) (.ref D) (compEnvC scope cl C env)) (RR (.ref D) C) s₃ := by
    rintro s₃ rfl
    refine PyProof.Rows.LCp.codeAny_compLoop_pair
      (fun k s' => ∃ h' tk i ys m', s' = { s₂ with heap := h', toks := tk } ∧ i ≤ n ∧ k = n + 1 - i ∧ ys.size = i ∧ St i h' ∧ h'.Ns C m' ∧ h'.PlainList D ys ∧ Paired R2 ys.toList ((List.range i).map g) ∧ (∀ b o, b ∉ wr → s₂.heap.get? b = some o → h'.get? b = some o)) ?_ (n + 1)
      ⟨h₁, _, 0, #[], _, rfl, Nat.zero_le _, rfl, rfl, hst₁, hns₁, hacc, .nil, fun b o _ e => old b o e⟩
    rintro k s' ⟨h', tk', i, ys, m', rfl, hi, rfl, hyl, hst', hn', hD', hp', hk'⟩
    by_cases hlt : i < n
    · refine W.item i _ _ _ hlt hst' fun T vals h₂ tk₂ hPv hT hIs hMid hk₂ => ?_
      dsimp only at hT hk₂ ⊢
      have hTw := W.apart _ _ _ hMid
      have hCw : C ∉ wr := fun hm => hCf (W.sub _ hm)
      have hDw : D ∉ wr := fun hm => hDf (W.sub _ hm)
      refine W.go _ _ _ i T _ _ _ hMid fun h₃ hst₃ hk₃ => ?_
      dsimp only at hk₃ ⊢
      have up : ∀ b o, b ∉ wr → h'.get? b = some o → h₃.get? b = some o := fun b o hb e => hk₃ b o hb (hk₂ b o hb e)
      have hIs₃ : h₃.IsTuple T vals := by obtain ⟨o, ho, r⟩ := hIs; exact ⟨o, hk₃ _ _ hTw ho, r⟩
      have hn₃ : h₃.Ns C m' := hn'.at' fun o e => up _ o hCw e
      have hD₃ : h₃.PlainList D ys := hD'.at fun o e => up _ o hDw e
      obtain ⟨a, b, rfl, helt'⟩ := helt C i vals { s₂ with heap := h₃, toks := tk₂ } (fun _ => none) hlt hPv
      refine kcp_assign hh hIs₃ (lookup_relabel_local hx) (lookup_relabel_local hx₂) (by simp [compEnvC, relabel, hkind]) hn₃ fun h₄ tk₄ hn₄ hk₄ => ?_
      dsimp only at hk₄ ⊢
      have hk₄ : ∀ c o, c ≠ C → h₃.get? c = some o → h₄.get? c = some o := hk₄
      obtain ⟨a', b', e', helt'⟩ := helt C i #[a, b] { s₂ with heap := h₄, toks := tk₄ } _ hlt hPv
      cases e'
      refine wpAny_mono (helt' hn₄ ?_ (if_pos rfl) fun c o hc e => ?_) (fun y s4 h4 => ?_) fun _ _ x => x.elim
      · by_cases q : x = x₂
        · rw [if_pos q, if_pos q]
        · rw [if_neg q, if_neg q, if_pos rfl]
      · have hcC : c ≠ C := by rintro rfl; rw [hC₀] at e; cases e
        exact hk₄ c o hcC (up c o hc (hk' c o hc e))
      obtain ⟨hR, h₅, tk₅, rfl, hk₅⟩ := h4
      dsimp only at hk₅ ⊢
      have hD₅ : h₅.PlainList D ys := (hD₃.at fun o e => hk₄ _ o hDC e).at fun o e => hk₅ _ o e
      refine wpAny_list_append_plain hD₅ (fun h₆ hl₆ hs₆ => ?_) (by show _ ≤ 2 ^ 24; omega)
      have st4 : St (i + 1) h₄ := W.frame _ _ _ hst₃ fun b hb o e => hk₄ b o (fun q => hCf (q ▸ hb)) e
      have st5 : St (i + 1) h₅ := W.frame _ _ _ st4 fun b hb o e => hk₅ b o e
      have st6 : St (i + 1) h₆ := W.frame _ _ _ st5 fun b hb o e => hs₆.extBut b o (fun q => hDf (q ▸ hb)) e
      refine ⟨n + 1 - (i + 1), by omega, h₆, tk₅, i + 1, ys.push y, _, rfl, hlt, rfl, by rw [Array.size_push, hyl], st6, (hn₄.keeps hk₅).sameBut hs₆ (Ne.symm hDC), hl₆, ?_, fun c o hc e => ?_⟩
      · rw [Array.toList_push, List.range_succ, List.map_append]
        exact Paired.app hp' (.cons hR .nil)
      · have hcC : c ≠ C := by rintro rfl; rw [hC₀] at e; cases e
        have hcD : c ≠ D := by rintro rfl; rw [hD₀] at e; cases e
        exact hs₆.extBut c o hcD (hk₅ c o (hk₄ c o hcC (up c o hc (hk' c o hc e))))
    · obtain rfl : i = n := Nat.le_antisymm hi (Nat.not_lt.mp hlt)
      refine W.done _ _ _ hst' fun h₂ tk₂ hk₂ => ?_
      dsimp only at hk₂ ⊢
      have hCw : C ∉ wr := fun hm => hCf (W.sub _ hm)
      have hDw : D ∉ wr := fun hm => hDf (W.sub _ hm)
      exact hRR D C h₂ tk₂ m' ys (hn'.at' fun o e => hk₂ _ o hCw e) (Ne.symm hDC) hC₀ hD₀ (hD'.at fun o e => hk₂ _ o hDw e) hp' fun b o hb e => hk₂ b o hb (hk' b o hb e)
  exact codeAny_compStart_list (loop _ rfl) (W.self 0 _ _ _ hst₁ (loop _ rfl))
end Mine

namespace Mine
open PySem PySem.W PySem.Calls PyProof.Rows

section
variable {w : World} {A : Around} {env : Env} {s : Shared}
theorem wSliceStep {value st : Expr} {lower : Expr} {p pos : Pos} {Q : Value → Shared → Prop}
    (h : Wp w A (eval value env) (fun o s₁ => Wp w A (eval lower env) (fun vl s₂ => Wp w A (eval st env) (fun vs s₃ => ∃ (l : Addr) (items : Array Value) (a c : Int) (k k2 : Tok), o = .ref l ∧ s₃.heap.IsList l items ∧ items.size ≤ 1000 ∧ vl = .int a k ∧ vs = .int c k2 ∧ c ≠ 0 ∧
      ∀ h' D, Ext s₃.heap h' → s₃.heap.objs.size ≤ D → h'.PlainList D (slicePick items (some a) none (some c)) → Q (.ref D) { s₃ with heap := h' }) s₂) s₁) s)
    (ht : ∀ o r, letTemporaryGo value o r = pure () := by intro _ _; rfl) : Wp w A (eval (.Subscript value (.Slice (some lower) none (some st) p) pos) env) Q s := by
  refine wpAny_Subscript_Slice_step (T := "list") list_getitem_lookup (wpAny_mono h (fun o s₁ h₁ => wpAny_Slice (wpAny_evalPart_some (wpAny_mono h₁ (fun vl s₂ h₂ => wpAny_evalPart_none (wpAny_evalPart_some (wpAny_mono h₂ (fun vs s₃ h₃ => ?_) fun _ _ e => e))) fun _ _ e => e))) fun _ _ e => e) ht
  obtain ⟨l, items, a, c, k, k2, rfl, hl, hsz, rfl, rfl, hc, hq⟩ := h₃
  refine ⟨(hl.push _).typeIs, wpAny_getItem_list_slice (hl.push _) (Heap.IsSliceOf.new ..) (.int _ _) .none (.int _ _) (by simpa using hc) ?_ (by show _ ≤ 2 ^ 24; omega)⟩
  refine hq _ _ (fun b o e => Heap.get?_push_of_some _ (Heap.get?_push_of_some _ e)) ?_ ⟨0, Heap.get?_push_size _ rfl⟩
  dsimp only
  rw [Heap.size_push]; exact Nat.le_succ _
theorem wSumL {l : Addr} {items : Array Value} {Q : Value → Shared → Prop} (hh : A.handled = none) (hl : s.heap.IsList l items) (hp : AllInts items)
    (h : ∀ h' n (t : Tok) tk, Ext s.heap h' → Q (.int n t) { s with heap := h', toks := tk }) : Wp w A (call (.builtin "sum") [.ref l]) Q s := by
  obtain ⟨xs, e⟩ := hp.items
  rw [e] at hl
  exact PySem.sum_intListG hh hl fun h' tk t' hk => h h' _ t' tk hk
end
theorem pick_ints {items : Array Value} (h : AllInts items) (lo hi st : Option Int) : AllInts (slicePick items lo hi st) := by
  intro v hv
  unfold slicePick at hv
  have hv' := Array.mem_toList_iff.mpr hv
  simp only [List.toList_toArray] at hv'
  obtain ⟨i, _, hi⟩ := List.mem_filterMap.mp hv'
  exact h v (Array.mem_of_getElem? hi)
/-- statement 0: the cells -/
theorem cells_part (w : World) (A : Around) (g : Heap) (L : Addr) (s : Shared) (h : Heap) (k0 : Nat) (m cm : Str → Option Value) (Q : Flow → Shared → Prop) (R : Rm A 5) (F : LS w g L m cm h)
    {sc : Addr} {sits : Array Value} (cs : cm (Str.ofString "script") = some (.ref sc)) (hsc : h.IsList sc sits) (hint : AllInts sits) (hsz : sits.size ≤ 1000)
    (hK : ∀ h' k m' C cits cl, LS w g L m' cm h' → m' (Str.ofString "cells") = some (.ref C) → h'.IsList C cits → Paired RI cits.toList cl → cl.length = 6 → Wp w A (execs (lawBody.drop 1) (Ev w L)) Q { s with heap := h', toks := k }) :
    Wp w A (execs lawBody (Ev w L)) Q { s with heap := h, toks := k0 } := by
  have hcs : h.IsCell (L + 1) (some (.ref sc)) := by rw [← cs]; exact F.script
  refine wpAny_execs_cons ?_
  rw [exec_Assign_Name_used _ _ _ _ (by with_unfolding_all rfl)]
  refine wpAny_bind (wpAny_standAt (wpAny_bind ?_))
  refine wpAny_bind (wpAny_mono (wpAny_comprehension_free (cl := [("script", L + 1)]) (Q := fun _ s' => Wp w A (execs (lawBody.drop 1) (Ev w L)) Q s') rfl (by intro _; rfl) (by with_unfolding_all rfl) (by kernel_rfl) ?_ ?_) (fun _ s' hq => wpAny_pure (wpAny_pure hq)) fun _ _ e => e)
  · intro x hx hl
    have hall : (([(Str.ofString ".0", NameKind.local), (Str.ofString "k", NameKind.local), (Str.ofString "first", NameKind.local), (Str.ofString "sum", NameKind.globalImplicit), (Str.ofString "script", NameKind.free)] : List (Str × NameKind)).all fun y => y.2 != .local || ([(Str.ofString ".0", NameKind.local), (Str.ofString "k", NameKind.local), (Str.ofString "first", NameKind.local), (Str.ofString "sum", NameKind.globalImplicit), (Str.ofString "script", NameKind.free)] : List (Str × NameKind)).lookup y.1 == some .local) = true := by kernel_rfl
    have := List.all_eq_true.mp hall x hx
    rw [hl] at this
    simpa using this
  change wpAny (model pw w) A (eval _ (Ev w L)) _ _ _
  refine wCallT F.S (T := "enumerate") (by kernel_rfl) (wList ?_)
  refine aInt (aInt (aInt (aInt (aInt (aInt (aNil ⟨by show 6 ≤ _; decide, fun h1 hx1 hl1 _ => ?_⟩))))))
  dsimp only at hx1 hl1 ⊢
  obtain ⟨its, hl1, h6, hits⟩ : ∃ its : Array Value, h1.PlainList h.objs.size its ∧ its.size = 6 ∧ AllInts its := ⟨_, hl1, rfl, fun v hv => by
    simp at hv
    rcases hv with rfl | rfl | rfl | rfl | rfl | rfl <;> exact ⟨_, _, rfl⟩⟩
  have hllt : h.objs.size < h1.objs.size := by obtain ⟨n, e⟩ := hl1; exact Heap.lt_size e
  generalize h.objs.size = l at hl1 hllt
  refine call_enumerate_list hl1.isList fun h2 he2 hit2 hsz2 hk2 => ?_
  dsimp only at he2 hit2 hsz2 hk2 ⊢
  have hk2 : Ext h1 h2 := hk2
  refine wpAny_pyIter_enum he2 ?_
  have hx2 : Ext h h2 := hx1.trans hk2
  have F2 := F.ext hx2
  have hl2 := hl1.at fun o e => hk2 _ o e
  have W := WalksT.enumerate (prog := pw) (w := w) (A := A) R.1 (h1.objs.size + 1) h1.objs.size l (Nat.succ_ne_self _) (Nat.ne_of_lt (Nat.lt_succ_of_lt hllt)) (Nat.ne_of_lt hllt) its
  rw [h6] at W
  have wrn : ∀ b o, h.get? b = some o → b ∉ [h1.objs.size + 1, h1.objs.size] := by
    intro b o e hb
    have hlt := Heap.lt_size (hx1 b o e)
    simp at hb
    rcases hb with rfl | rfl
    · exact Nat.lt_irrefl _ (Nat.lt_of_succ_lt hlt)
    · exact Nat.lt_irrefl _ hlt
  refine block_T (E := fun _ _ => False) (R2 := fun y (_ : Unit) => ∃ c t, y = Value.int c t) (g := fun _ => ()) W (by decide) (fun y hy => ?_) (by kernel_rfl) (by kernel_rfl) (by kernel_rfl) R.1 ⟨⟨_, he2⟩, hit2, hl2.isList⟩ (fun b hb => ?_) (fun C i vals s3 m3 hi hP => ?_) fun D C h3 tk m3 ys hnC hCD hC0 hD0 hpl hp hk3 => ?_
  · have hall : (([(Str.ofString ".0", NameKind.local), (Str.ofString "k", NameKind.local), (Str.ofString "first", NameKind.local), (Str.ofString "sum", NameKind.globalImplicit), (Str.ofString "script", NameKind.free)] : List (Str × NameKind)).all fun y => y.2 != .cell) = true := by kernel_rfl
    have := List.all_eq_true.mp hall y hy
    simpa using this
  · dsimp only
    rw [hsz2]
    simp at hb
    rcases hb with rfl | rfl | rfl
    · exact Nat.lt_succ_self _
    · exact Nat.lt_succ_of_lt (Nat.lt_succ_self _)
    · exact Nat.lt_succ_of_lt (Nat.lt_succ_of_lt hllt)
  · obtain ⟨t, x, hxi, rfl⟩ := hP
    obtain ⟨c, tc, rfl⟩ := hits x (Array.mem_of_getElem? hxi)
    refine ⟨_, _, rfl, fun hn3 hmk hmf hx3 => ?_⟩
    have E3 : Ext h s3.heap := fun b o e => hx3 b o (wrn b o e) (hx2 b o e)
    have F3 := F.ext E3
    refine wpAny_BinOp (wN hn3 hmf ?_)
    refine wCallB F3.S (id := "sum") (by kernel_rfl) ?_
    refine wSliceStep (wNc (c := L + 1) rfl (hcs.keeps E3) (wN hn3 (hmk.trans (if_neg (by decide +kernel))) (wpAny_Constant_int ⟨sc, sits, _, _, _, _, rfl, hsc.at fun o e => E3 _ o e, hsz, rfl, rfl, by decide, fun h4 D hx4 hD hl4 => ?_⟩)))
    dsimp only at hx4 hl4 ⊢
    refine wSumL R.1 hl4.isList (pick_ints hint _ _ _) fun h5 n5 t5 k5 hx5 => ?_
    exact add_int ⟨⟨_, _, rfl⟩, _, _, rfl, fun b o e => hx5 _ _ (hx4 _ _ e)⟩
  · have E3 : Ext h h3 := fun b o e => hk3 b o (wrn b o e) (hx2 b o e)
    have F3 := F.ext E3
    have hCh : h.get? C = none := by
      cases e : h.get? C with
      | none => rfl
      | some o => have := hx2 C o e; rw [show h2.get? C = none from hC0] at this; cases this
    have hDh : h.get? D = none := by
      cases e : h.get? D with
      | none => rfl
      | some o => have := hx2 D o e; rw [show h2.get? D = none from hD0] at this; cases this
    have hCL : C ≠ L := by
      rintro rfl
      obtain ⟨o, _, _, e, _⟩ := F.ns
      rw [hCh] at e; cases e
    have hDL : D ≠ L := by
      rintro rfl
      obtain ⟨o, _, _, e, _⟩ := F.ns
      rw [hDh] at e; cases e
    obtain ⟨cl, hcl, hl6⟩ : ∃ cl, Paired RI ys.toList cl ∧ cl.length = 6 := by
      have key : ∀ (vs : List Value) (us : List Unit), Paired (fun y (_ : Unit) => ∃ c t, y = Value.int c t) vs us → ∃ cl, Paired RI vs cl ∧ cl.length = us.length := by
        intro vs us hp
        induction hp with
        | nil => exact ⟨[], .nil, rfl⟩
        | cons h _ ih =>
          obtain ⟨cl, i1, i2⟩ := ih
          obtain ⟨c, t, rfl⟩ := h
          exact ⟨c :: cl, .cons ⟨t, rfl⟩ i1, by rw [List.length_cons, List.length_cons, i2]⟩
      obtain ⟨cl, i1, i2⟩ := key _ _ hp
      exact ⟨cl, i1, by rw [i2, List.length_map, List.length_range]⟩
    show wpAny (model pw w) A (assign _ (Ev w L) (.ref D)) _ _ _
    refine wpAny_assign_Name (wSt F3.ns fun h4 n4 s4 => ?_)
    dsimp only at n4 s4 ⊢
    have s4 : Heap.SameBut L h3 h4 := s4
    refine ⟨m3, hnC.sameBut s4 hCL, fun h5 s5 => ?_⟩
    have s5 : Heap.SameBut C h4 h5 := s5
    have n5 := n4.sameBut s5 (Ne.symm hCL)
    refine hK h5 _ _ D ys cl (F.stX n5 fun b o hb e => ?_) (if_pos rfl) ((hpl.extBut s4.extBut hDL).extBut s5.extBut (Ne.symm hCD)).isList hcl hl6
    exact s5.extBut b o (by rintro rfl; rw [hCh] at e; cases e) (s4.extBut b o hb (E3 b o e))
end Mine

namespace Mine
open PySem PySem.W PySem.Calls PyProof.Rows

/-- a call of the law -/
theorem law_call (w : World) (A : Around) (s : Shared) (Q : Value → Shared → Prop) (R : Rm A 6) (S : Stat w s.heap) (B : Bm s.heap) (T1 : Tab s.heap 163 qS) (T2 : Tab s.heap 177 qL) (hlt : 180 < s.heap.objs.size)
    {sc : Addr} {sits : Array Value} (hsc : s.heap.IsList sc sits) (hint : AllInts sits) (hsz : sits.size ≤ 1000)
    (hQ : ∀ h' k L m cm, LS w s.heap L m cm h' → Q (.bool true) { s with heap := h', toks := k }) :
    Wp w A (call (.ref 180) [.ref sc]) Q s := by
  refine wCallC (f := 180) (vals := [.ref sc]) (binds := [("script", .ref sc)]) R S (o := o180 w.params) (by kernel_rfl) rfl rfl ⟨179, o179 w.params, _, _, rfl, S.at (by kernel_rfl), rfl, rfl⟩ (by with_unfolding_all rfl) rfl (fun x hx => ?_) (fun h₀ k F S₀ R₀ => ?_)
  · rw [List.mem_singleton.mp hx]
    exact .inr ⟨by kernel_rfl, by with_unfolding_all rfl⟩
  have c1 : (cellsFrom (s.heap.objs.size + 1) (fdX 180 w).scope.names []).lookup (Str.ofString "script") = some (s.heap.objs.size + 1) := by with_unfolding_all rfl
  have c2 : (cellsFrom (s.heap.objs.size + 1) (fdX 180 w).scope.names []).lookup (Str.ofString "word") = some (s.heap.objs.size + 2) := by with_unfolding_all rfl
  have c3 : (cellsFrom (s.heap.objs.size + 1) (fdX 180 w).scope.names []).lookup (Str.ofString "line") = some (s.heap.objs.size + 3) := by with_unfolding_all rfl
  have c4 : (cellsFrom (s.heap.objs.size + 1) (fdX 180 w).scope.names []).lookup (Str.ofString "body") = some (s.heap.objs.size + 4) := by with_unfolding_all rfl
  have F0 := LS.mk (w := w) (g := s.heap) (Nat.le_refl _) F.ns (F.cell _ _ c1) (F.cell _ _ c2) (F.cell _ _ c3) (F.cell _ _ c4) S₀ (B.ext F.keep) (T1.ext F.keep) (T2.ext F.keep) (fun b o _ _ e => F.keep b o e) hlt
  have hsc0 := hsc.at fun o e => F.keep _ o e
  change Wp w (A.deeper (Ev w s.heap.objs.size)) (execs lawBody (Ev w s.heap.objs.size)) _ _
  refine cells_part w _ s.heap s.heap.objs.size s h₀ k _ _ _ R₀ F0 (sc := sc) rfl hsc0 hint hsz fun h1 k1 m1 C cits cl F1 mc hC hcl hl6 => ?_
  refine wpAny_execs_cons (wpAny_Assign_Name (wList (aNil ⟨by show 0 ≤ _; decide, fun h2 hx2 hl2 _ => ?_⟩)))
  dsimp only at hx2 hl2 ⊢
  have F2 := F1.ext hx2
  have hgh : s.heap.objs.size ≤ h1.objs.size := Nat.le_of_lt (by obtain ⟨o, _, _, e, _⟩ := F1.ns; exact Heap.lt_size e)
  have hCh : C < h1.objs.size := by obtain ⟨o, e, _⟩ := hC; exact Heap.lt_size e
  have hbl : h1.objs.size < h2.objs.size := by obtain ⟨n, e⟩ := hl2; exact Heap.lt_size e
  refine wSt F2.ns fun h3 n3 s3 => ?_
  have F3 := F2.stL n3 s3
  have hb3 := PlainList.upL hl2 F2.ns s3
  have hC3 := IsList.upL (hC.at fun o e => hx2 _ o e) F2.ns s3
  have hsz3 : h3.objs.size = h2.objs.size := s3.1
  clear n3 s3
  dsimp only at F3 ⊢
  refine wpAny_execs_cons (wpAny_Assign_Name (wList (aNil ⟨by show 0 ≤ _; decide, fun h4 hx4 hl4 _ => ?_⟩)))
  dsimp only at hx4 hl4 ⊢
  have F4 := F3.ext hx4
  refine wSt F4.ns fun h5 n5 s5 => ?_
  have F5 := F4.stL n5 s5
  have hd5 := PlainList.upL hl4 F4.ns s5
  have hb5 := PlainList.upL (hb3.at fun o e => hx4 _ o e) F4.ns s5
  have hC5 := IsList.upL (hC3.at fun o e => hx4 _ o e) F4.ns s5
  clear n5 s5
  dsimp only at F5 ⊢
  have hlt2 : h1.objs.size < h3.objs.size := by rw [hsz3]; exact hbl
  refine law_rest w _ s.heap s.heap.objs.size s h5 _ _ _ _ R₀ F5 (cl := C) (bk := h1.objs.size) (ld := h3.objs.size) (cs := cl) ((if_neg (by decide +kernel)).trans ((if_neg (by decide +kernel)).trans mc)) ((if_neg (by decide +kernel)).trans (if_pos rfl)) (if_pos rfl) hC5 hcl hl6 hb5 hd5 (Nat.ne_of_lt hlt2) hgh (Nat.le_of_lt (Nat.lt_of_le_of_lt hgh hlt2)) (Nat.ne_of_lt hCh) (Nat.ne_of_lt (Nat.lt_trans hCh hlt2)) fun h' k' m' cm' F' => ?_
  exact hQ h' k' _ _ _ F'
end Mine

namespace Mine
open PySem PySem.W PySem.Calls PyProof.Rows
noncomputable def K2 (P : Params) : Frag := K P ++ [(163, o163 P), (177, o177 P)]
noncomputable def Ka2 : List Addr := Ka ++ [163, 177]
noncomputable def Hk2 : Hook := kHook K2 Ka2 (fun _ => by kernel_rfl)
theorem looks2 (w : World) : (fun os => ((staticsOk (importedModules pw.main.body) (boot_heap w.params) (Hp1 w.params) && namesBound pw (Hp1 w.params) && gensDone ⟨Hp1 w.params, #[], boot_drawn, 2365, os⟩ && laidKept (boot_heap w.params) (Hp1 w.params)),
        openSeen qv looseN (importedModules pw.main.body) Xt1 true ⟨Hp1 w.params, #[], boot_drawn, 2365, os⟩, Hk2.obs ⟨Hp1 w.params, #[], boot_drawn, 2365, os⟩)) = fun _ => (true, openGood qv looseN, Hk2.val w) := by
  kernel_rfl
theorem left2 : LeftO pw qv looseN Xt1 Hk2.obs Hk2.val 700000 true :=
  LeftO.of_pieces (H₁ := Hp1) (M := 600000) open1 size1 (fun w os => run_top w os) (by decide +kernel) looks2
theorem head2 (walk : WalkO qv looseN (XL qv []) Hk2.says rw1.row.toRowW dLaw.1 dLaw.2 fun f vs => PySem.call f vs) : rw1.Holds := by
  w_on
  o_law
  refine holds_open (q := qv) (loose := looseN) (Xt := Xt1) (XP := XL qv []) (Yf := Hk2.obs) (Ya := Hk2.val) (YP := Hk2.says) (N := 700000) (d := dLaw.1) (kwd := dLaw.2) left2 Hk2.of Hk2.keeps (fun s e => xl_of s (Bool.and_eq_true_iff.mp e).1) XL.keeps (by kernel_rfl) (by kernel_rfl) (by kernel_rfl) (fun s e => recFacts_of (Bool.and_eq_true_iff.mp e).2) (by rfl) (by first | assumption | decide +kernel) (by decide +kernel) ⟨rfl, rfl, rfl, rfl, rfl, by decide +kernel⟩ ?hw walk
  w_witness2
end Mine

namespace Mine
open PySem PySem.W PySem.Calls PyProof.Rows

theorem ns_uniq {h : Heap} {L : Addr} {m m' : Str → Option Value} (x : h.Ns L m) (y : h.Ns L m') : m = m' := by
  obtain ⟨o, es, ep, ho, hd, _, hm⟩ := x
  obtain ⟨o', es', ep', ho', hd', _, hm'⟩ := y
  rw [ho] at ho'; cases ho'
  rw [hd] at hd'; cases hd'
  funext z
  exact (hm z).symm.trans (hm' z)
theorem tab0 {h : Heap} {P : Addr} (q : Str) (e : h.get? P = some (tabObj #[])) : Tab h P q := ⟨#[], e, by unfold TriplesOk; trivial, fun pos cv hc => by cases hc⟩
theorem hd_table {h : Heap} {c P : Addr} (x : CodeHd h c P) : isCodeTable h P := by
  obtain ⟨o, vs, _, _, _, _, _, _, _, h1, h2, h3, h4, _⟩ := x
  exact ⟨c, o, vs, h1, h2, h3, h4⟩
theorem oldOf {w : World} {g h : Heap} {L : Addr} {m cm : Str → Option Value} (F : LS w g L m cm h) (S : Stat w g) (e1 : g.get? 163 = some (tabObj #[])) (e2 : g.get? 177 = some (tabObj #[])) : OldK g h := by
  have key : ∀ (P : Addr) (q : Str), Tab h P q → isCodeTable g P → g.get? P = some (tabObj #[]) → ∀ o, g.get? P = some o → asItWas g h P o ∧ ∃ o', h.get? P = some o' := by
    intro P q T hc e0 o e
    rw [e0] at e; cases e
    obtain ⟨ps, e, _⟩ := T
    exact ⟨.inr (.inl ⟨hc, rfl, #[], ps, rfl, by rw [e]; simp⟩), _, e⟩
  have all : ∀ b o, g.get? b = some o → asItWas g h b o ∧ ∃ o', h.get? b = some o' := by
    intro b o e
    by_cases q1 : b = 163
    · subst q1; exact key _ _ F.T (hd_table (hdS S)) e1 o e
    · by_cases q2 : b = 177
      · subst q2; exact key _ _ F.T' (hd_table (hdL S)) e2 o e
      · exact ⟨.inl (F.keep b o q1 q2 e), o, F.keep b o q1 q2 e⟩
  exact ⟨fun b o e => (all b o e).1, fun b o e => (all b o e).2⟩
theorem walk : WalkO qv looseN (XL qv []) Hk2.says rw1.row.toRowW dLaw.1 dLaw.2 fun f vs => PySem.call f vs := by
  intro w s₀ s₁ mg mb G Y a o pm cd doc dV kV ho hd hcd hD hmg hg args vals as hpre hlay hrd hwl hlo
  have KX : (K2 w.params).In s₁.heap := kIn_of Y
  have T := G.T
  clear hd hcd hD ho
  wrow_args hpre hlay hrd hwl hlo
  rename Heap.IsList _ _ _ => hL
  rename IntsAre _ _ => hI
  rename ¬ (_ < _) => hlen
  have K1 : (K w.params).In s₁.heap := fun b o e => KX b o (by
    unfold K2
    rw [List.lookup_append, e]; rfl)
  have S : Stat w s₁.heap := ⟨K1, ⟨mb, T.b, T.builtins⟩, T.nolimit⟩
  have hmgf := ns_uniq T.g S.g
  have e180 : s₁.heap.get? 180 = some (o180 w.params) := S.at (by kernel_rfl)
  have e163 : s₁.heap.get? 163 = some (tabObj #[]) := KX 163 (o163 w.params) (by kernel_rfl)
  have e177 : s₁.heap.get? 177 = some (tabObj #[]) := KX 177 (o177 w.params) (by kernel_rfl)
  have ea : a = 180 := by
    have h1 : nsFind (mgEs w.params) (Str.ofString "law") = some (.ref 180) := by kernel_rfl
    rw [hmgf] at hmg
    have h2 : some (Value.ref a) = some (Value.ref 180) := hmg.symm.trans h1
    cases h2; rfl
  subst ea
  have B : Bm s₁.heap := by
    obtain ⟨bm, ob, h1, _, h2, h3, h4, h5⟩ := T.bmain
    have h6 : nsFind (mgEs w.params) "__builtins__" = some (.ref 4) := by kernel_rfl
    rw [hmgf] at h1
    have h7 : some (Value.ref bm) = some (Value.ref 4) := h1.symm.trans h6
    cases h7
    exact ⟨ob, h2, h3, h4, h5⟩
  have hlt : 180 < s₁.heap.objs.size := Heap.lt_size e180
  have hs : _ ≤ 63 := Nat.le_of_not_lt (fun q => hlen (Int.ofNat_lt.mpr q))
  have hlen2 := hI.length
  have R : Rm callerA 6 := ⟨rfl, by decide +kernel, by decide +kernel⟩
  refine Wp.lift (law_call w callerA s₁ _ R S B (tab0 _ e163) (tab0 _ e177) hlt hL hI.allInts (by rw [List.size_toArray, hlen2]; omega) fun h' k L m cm F => ?_)
  refine ⟨.inl ⟨.bool true, .bool true, [], rfl, fun cls => rfl, .bool true, ?_, fun _ => ⟨List.nodup_nil, fun a ha => by cases ha⟩⟩, oldOf F S e163 e177, rfl, .of_eq hg⟩
  wrow_post
theorem cw : rw1.Holds := head2 walk
end Mine
theorem PySem.Challenge.cw_ux0032_01_holds : PySem.Challenge.rw_ux0032_01.Holds :=
  Mine.cw
