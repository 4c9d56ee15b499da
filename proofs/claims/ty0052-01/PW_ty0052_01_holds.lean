import PyProof.Rows.All
import Wide.All
import OpenK.AllK
import Wide.FinOn
import PySem.Challenge.RW_ty0052_01
set_option Elab.async false

section
open PySem PySem.W PyProof.Rows
set_option Elab.async false
set_option maxRecDepth 100000
set_option maxHeartbeats 8000000
namespace Mine
/-- the statements of the text, and the parts of a def -/
noncomputable def st (n : Nat) : Stmt := (PySem.Challenge.pw_ty0052_01.main.body[n]?).getD (.Pass ⟨0, 0, 0, 0⟩)
noncomputable def stIn (s : Stmt) (n : Nat) : Stmt := match s with
  | .ClassDef _ _ _ b _ _ _ _ _ _ _ => (b[n]?).getD (.Pass ⟨0, 0, 0, 0⟩)
  | _ => .Pass ⟨0, 0, 0, 0⟩
noncomputable def stArgs : Stmt → Arguments
  | .FunctionDef _ a _ _ _ _ _ _ _ _ => a
  | _ => ⟨[], [], none, [], [], none, []⟩
noncomputable def stBody : Stmt → List Stmt
  | .FunctionDef _ _ b _ _ _ _ _ _ _ => b
  | _ => []
noncomputable def stScope : Stmt → Scope
  | .FunctionDef _ _ _ _ _ _ s _ _ _ => s
  | _ => ⟨.function, [], false, false, []⟩
noncomputable def stPos : Stmt → Pos
  | .FunctionDef _ _ _ _ _ _ _ _ _ p => p
  | _ => ⟨0, 0, 0, 0⟩
/-- the heap that the top leaves, as far as the law reaches it -/
noncomputable def hd.heap_39 (P : Params) : Frag := [
  ((nat_lit 2), (Obj.mk Value.none Option.none (Data.dict (List.toArray [(DictEntry.mk (PyData.keyHash P (Str.ofString "\x69mport.loaded._sre")) (Value.str (Str.ofString "\x69mport.loaded._sre") 183) (Value.bool Bool.true)), (DictEntry.mk (PyData.keyHash P (Str.ofString "class._frozen_\x69mportlib.BuiltinImporter")) (Value.str (Str.ofString "class._frozen_\x69mportlib.BuiltinImporter") 185) (Value.ref 14)), (DictEntry.mk (PyData.keyHash P (Str.ofString "watched.\x69mport")) (Value.str (Str.ofString "watched.\x69mport") 206) (Value.ref 18)), (DictEntry.mk (PyData.keyHash P (Str.ofString "class._frozen_\x69mportlib.ModuleSpec")) (Value.str (Str.ofString "class._frozen_\x69mportlib.ModuleSpec") 216) (Value.ref 22)), (DictEntry.mk (PyData.keyHash P (Str.ofString "sys.modules.booked-epoch")) (Value.str (Str.ofString "sys.modules.booked-epoch") 245) (Value.int (3 : Int) 0)), (DictEntry.mk (PyData.keyHash P (Str.ofString "\x69mport.later-laid._sre")) (Value.str (Str.ofString "\x69mport.later-laid._sre") 270) (Value.bool Bool.true)), (DictEntry.mk (PyData.keyHash P (Str.ofString "watched.library")) (Value.str (Str.ofString "watched.library") 272) (Value.ref 27)), (DictEntry.mk (PyData.keyHash P (Str.ofString "watched.library-objects")) (Value.str (Str.ofString "watched.library-objects") 0) (Value.str (Str.ofString "\x0c") 0)), (DictEntry.mk (PyData.keyHash P (Str.ofString "watched.library-deep._sre")) (Value.str (Str.ofString "watched.library-deep._sre") 273) (Value.str (Str.ofString "\x04\x00\x00\x0b\x04\x00\x00\x0b\x04\x00\x00\x03\x04\x00\x00\x0b\x08\x04dict\x02") 0))]) 9) (List.toArray []))),
  ((nat_lit 3), (Obj.mk (Value.type "dict") Option.none (Data.dict (List.toArray [(DictEntry.mk (PyData.keyHash P (Str.ofString "__name__")) (Value.str (Str.ofString "__name__") 165) (Value.str (Str.ofString "law_ty0052_01") 643)), (DictEntry.mk (PyData.keyHash P (Str.ofString "__doc__")) (Value.str (Str.ofString "__doc__") 166) Value.none), (DictEntry.mk (PyData.keyHash P (Str.ofString "__package__")) (Value.str (Str.ofString "__package__") 167) Value.none), (DictEntry.mk (PyData.keyHash P (Str.ofString "__loader__")) (Value.str (Str.ofString "__loader__") 168) (Value.builtin "__main__.__loader__#opaque")), (DictEntry.mk (PyData.keyHash P (Str.ofString "__spec__")) (Value.str (Str.ofString "__spec__") 169) Value.none), (DictEntry.mk (PyData.keyHash P (Str.ofString "__annotations__")) (Value.str (Str.ofString "__annotations__") 170) (Value.ref 6)), (DictEntry.mk (PyData.keyHash P (Str.ofString "__builtins__")) (Value.str (Str.ofString "__builtins__") 171) (Value.ref 4)), (DictEntry.mk (PyData.keyHash P (Str.ofString "__file__")) (Value.str (Str.ofString "__file__") 173) (Value.str (Str.ofString "/claim/cut.py") 172)), (DictEntry.mk (PyData.keyHash P (Str.ofString "__cached__")) (Value.str (Str.ofString "__cached__") 174) Value.none), (DictEntry.mk (PyData.keyHash P (Str.ofString "_sre")) (Value.str (Str.ofString "_sre") 275) (Value.ref 12)), (DictEntry.mk (PyData.keyHash P (Str.ofString "_wall")) (Value.str (Str.ofString "_wall") 288) (Value.ref 38)), (DictEntry.mk (PyData.keyHash P (Str.ofString "rgb_to_hls")) (Value.str (Str.ofString "rgb_to_hls") 309) (Value.ref 45)), (DictEntry.mk (PyData.keyHash P (Str.ofString "rgb_to_hsv")) (Value.str (Str.ofString "rgb_to_hsv") 327) (Value.ref 52)), (DictEntry.mk (PyData.keyHash P (Str.ofString "hsv_to_rgb")) (Value.str (Str.ofString "hsv_to_rgb") 341) (Value.ref 59)), (DictEntry.mk (PyData.keyHash P (Str.ofString "lt")) (Value.str (Str.ofString "lt") 351) (Value.ref 66)), (DictEntry.mk (PyData.keyHash P (Str.ofString "truediv")) (Value.str (Str.ofString "truediv") 359) (Value.ref 73)), (DictEntry.mk (PyData.keyHash P (Str.ofString "xor")) (Value.str (Str.ofString "xor") 367) (Value.ref 80)), (DictEntry.mk (PyData.keyHash P (Str.ofString "countOf")) (Value.str (Str.ofString "countOf") 377) (Value.ref 87)), (DictEntry.mk (PyData.keyHash P (Str.ofString "delitem")) (Value.str (Str.ofString "delitem") 385) (Value.ref 94)), (DictEntry.mk (PyData.keyHash P (Str.ofString "getitem")) (Value.str (Str.ofString "getitem") 393) (Value.ref 101)), (DictEntry.mk (PyData.keyHash P (Str.ofString "indexOf")) (Value.str (Str.ofString "indexOf") 403) (Value.ref 108)), (DictEntry.mk (PyData.keyHash P (Str.ofString "setitem")) (Value.str (Str.ofString "setitem") 412) (Value.ref 115)), (DictEntry.mk (PyData.keyHash P (Str.ofString "length_hint")) (Value.str (Str.ofString "length_hint") 424) (Value.ref 123)), (DictEntry.mk (PyData.keyHash P (Str.ofString "_name_disallowed_re")) (Value.str (Str.ofString "_name_disallowed_re") 452) (Value.ref 128)), (DictEntry.mk (PyData.keyHash P (Str.ofString "_value_disallowed_re")) (Value.str (Str.ofString "_value_disallowed_re") 486) (Value.ref 133)), (DictEntry.mk (PyData.keyHash P (Str.ofString "Headers")) (Value.str (Str.ofString "Headers") 642) (Value.ref 256)), (DictEntry.mk (PyData.keyHash P (Str.ofString "_law_colour")) (Value.str (Str.ofString "_law_colour") 657) (Value.ref 267)), (DictEntry.mk (PyData.keyHash P (Str.ofString "_law_worth")) (Value.str (Str.ofString "_law_worth") 666) (Value.ref 274)), (DictEntry.mk (PyData.keyHash P (Str.ofString "_law_parts")) (Value.str (Str.ofString "_law_parts") 672) (Value.ref 279)), (DictEntry.mk (PyData.keyHash P (Str.ofString "_law_retold")) (Value.str (Str.ofString "_law_retold") 678) (Value.ref 284)), (DictEntry.mk (PyData.keyHash P (Str.ofString "_law_lay")) (Value.str (Str.ofString "_law_lay") 684) (Value.ref 289)), (DictEntry.mk (PyData.keyHash P (Str.ofString "_law_as_told")) (Value.str (Str.ofString "_law_as_told") 690) (Value.ref 294)), (DictEntry.mk (PyData.keyHash P (Str.ofString "_law_fair")) (Value.str (Str.ofString "_law_fair") 696) (Value.ref 299)), (DictEntry.mk (PyData.keyHash P (Str.ofString "_law_other")) (Value.str (Str.ofString "_law_other") 702) (Value.ref 304)), (DictEntry.mk (PyData.keyHash P (Str.ofString "_law_answer")) (Value.str (Str.ofString "_law_answer") 708) (Value.ref 309)), (DictEntry.mk (PyData.keyHash P (Str.ofString "law")) (Value.str (Str.ofString "law") 714) (Value.ref 314))]) 36) (List.toArray []))),
  ((nat_lit 32), (Obj.mk (Value.type "tuple") Option.none (Data.seq (List.toArray []) 0) (List.toArray []))),
  ((nat_lit 34), (Obj.mk (Value.type "tuple") Option.none (Data.seq (List.toArray [(Value.str (Str.ofString "k") 285)]) 0) (List.toArray []))),
  ((nat_lit 35), (Obj.mk (Value.type "tuple") Option.none (Data.seq (List.toArray []) 0) (List.toArray []))),
  ((nat_lit 37), (Obj.mk (Value.type "code") Option.none (Data.fields (List.toArray [(Value.str (Str.ofString "_wall") 282), (Value.str (Str.ofString "_wall") 283), (Value.str (Str.ofString "/claim/cut.py") 284), (Value.int (2 : Int) 0), (Value.int (1 : Int) 0), (Value.int (0 : Int) 0), (Value.int (0 : Int) 0), (Value.int (3 : Int) 0), (Value.ref 32), (Value.bool Bool.true), (Value.int (276 : Int) 0), (Value.ref 33), Value.none, (Value.ref 34), (Value.ref 35), (Value.ref 36), (Value.int (286 : Int) 0), (Value.int (2 : Int) 0), (Value.str (Str.ofString "/claim/cut.py") 287)])) (List.toArray []))),
  ((nat_lit 38), (Obj.mk (Value.type "function") Option.none (Data.func (FuncData.mk (Str.ofString "_wall") (Str.ofString "_wall") (stArgs (st 1)) (FuncBody.stmts (stBody (st 1))) (stScope (st 1)) 3 [] Value.none Value.none Value.none (Value.str (Str.ofString "__main__") 164) Option.none (Value.ref 37) Value.none 0)) (List.toArray []))),
  ((nat_lit 39), (Obj.mk (Value.type "tuple") Option.none (Data.seq (List.toArray []) 0) (List.toArray []))),
  ((nat_lit 41), (Obj.mk (Value.type "tuple") Option.none (Data.seq (List.toArray [(Value.str (Str.ofString "r") 294), (Value.str (Str.ofString "g") 295), (Value.str (Str.ofString "b") 296), (Value.str (Str.ofString "maxc") 297), (Value.str (Str.ofString "minc") 298), (Value.str (Str.ofString "sumc") 299), (Value.str (Str.ofString "rangec") 300), (Value.str (Str.ofString "l") 301), (Value.str (Str.ofString "s") 302), (Value.str (Str.ofString "rc") 303), (Value.str (Str.ofString "gc") 304), (Value.str (Str.ofString "bc") 305), (Value.str (Str.ofString "h") 306)]) 0) (List.toArray []))),
  ((nat_lit 42), (Obj.mk (Value.type "tuple") Option.none (Data.seq (List.toArray []) 0) (List.toArray []))),
  ((nat_lit 44), (Obj.mk (Value.type "code") Option.none (Data.fields (List.toArray [(Value.str (Str.ofString "rgb_to_hls") 291), (Value.str (Str.ofString "rgb_to_hls") 292), (Value.str (Str.ofString "/claim/cut.py") 293), (Value.int (6 : Int) 0), (Value.int (3 : Int) 0), (Value.int (0 : Int) 0), (Value.int (0 : Int) 0), (Value.int (3 : Int) 0), (Value.ref 39), (Value.bool Bool.true), (Value.int (276 : Int) 0), (Value.ref 40), Value.none, (Value.ref 41), (Value.ref 42), (Value.ref 43), (Value.int (307 : Int) 0), (Value.int (6 : Int) 0), (Value.str (Str.ofString "/claim/cut.py") 308)])) (List.toArray []))),
  ((nat_lit 45), (Obj.mk (Value.type "function") Option.none (Data.func (FuncData.mk (Str.ofString "rgb_to_hls") (Str.ofString "rgb_to_hls") (stArgs (st 3)) (FuncBody.stmts (stBody (st 3))) (stScope (st 3)) 3 [] Value.none Value.none Value.none (Value.str (Str.ofString "cpy313.colorsys") 289) Option.none (Value.ref 44) Value.none 0)) (List.toArray []))),
  ((nat_lit 46), (Obj.mk (Value.type "tuple") Option.none (Data.seq (List.toArray []) 0) (List.toArray []))),
  ((nat_lit 48), (Obj.mk (Value.type "tuple") Option.none (Data.seq (List.toArray [(Value.str (Str.ofString "r") 313), (Value.str (Str.ofString "g") 314), (Value.str (Str.ofString "b") 315), (Value.str (Str.ofString "maxc") 316), (Value.str (Str.ofString "minc") 317), (Value.str (Str.ofString "rangec") 318), (Value.str (Str.ofString "v") 319), (Value.str (Str.ofString "s") 320), (Value.str (Str.ofString "rc") 321), (Value.str (Str.ofString "gc") 322), (Value.str (Str.ofString "bc") 323), (Value.str (Str.ofString "h") 324)]) 0) (List.toArray []))),
  ((nat_lit 49), (Obj.mk (Value.type "tuple") Option.none (Data.seq (List.toArray []) 0) (List.toArray []))),
  ((nat_lit 51), (Obj.mk (Value.type "code") Option.none (Data.fields (List.toArray [(Value.str (Str.ofString "rgb_to_hsv") 310), (Value.str (Str.ofString "rgb_to_hsv") 311), (Value.str (Str.ofString "/claim/cut.py") 312), (Value.int (29 : Int) 0), (Value.int (3 : Int) 0), (Value.int (0 : Int) 0), (Value.int (0 : Int) 0), (Value.int (3 : Int) 0), (Value.ref 46), (Value.bool Bool.true), (Value.int (276 : Int) 0), (Value.ref 47), Value.none, (Value.ref 48), (Value.ref 49), (Value.ref 50), (Value.int (325 : Int) 0), (Value.int (29 : Int) 0), (Value.str (Str.ofString "/claim/cut.py") 326)])) (List.toArray []))),
  ((nat_lit 52), (Obj.mk (Value.type "function") Option.none (Data.func (FuncData.mk (Str.ofString "rgb_to_hsv") (Str.ofString "rgb_to_hsv") (stArgs (st 4)) (FuncBody.stmts (stBody (st 4))) (stScope (st 4)) 3 [] Value.none Value.none Value.none (Value.str (Str.ofString "cpy313.colorsys") 289) Option.none (Value.ref 51) Value.none 0)) (List.toArray []))),
  ((nat_lit 53), (Obj.mk (Value.type "tuple") Option.none (Data.seq (List.toArray []) 0) (List.toArray []))),
  ((nat_lit 55), (Obj.mk (Value.type "tuple") Option.none (Data.seq (List.toArray [(Value.str (Str.ofString "h") 331), (Value.str (Str.ofString "s") 332), (Value.str (Str.ofString "v") 333), (Value.str (Str.ofString "i") 334), (Value.str (Str.ofString "f") 335), (Value.str (Str.ofString "p") 336), (Value.str (Str.ofString "q") 337), (Value.str (Str.ofString "t") 338)]) 0) (List.toArray []))),
  ((nat_lit 56), (Obj.mk (Value.type "tuple") Option.none (Data.seq (List.toArray []) 0) (List.toArray []))),
  ((nat_lit 58), (Obj.mk (Value.type "code") Option.none (Data.fields (List.toArray [(Value.str (Str.ofString "hsv_to_rgb") 328), (Value.str (Str.ofString "hsv_to_rgb") 329), (Value.str (Str.ofString "/claim/cut.py") 330), (Value.int (48 : Int) 0), (Value.int (3 : Int) 0), (Value.int (0 : Int) 0), (Value.int (0 : Int) 0), (Value.int (3 : Int) 0), (Value.ref 53), (Value.bool Bool.true), (Value.int (276 : Int) 0), (Value.ref 54), Value.none, (Value.ref 55), (Value.ref 56), (Value.ref 57), (Value.int (339 : Int) 0), (Value.int (48 : Int) 0), (Value.str (Str.ofString "/claim/cut.py") 340)])) (List.toArray []))),
  ((nat_lit 59), (Obj.mk (Value.type "function") Option.none (Data.func (FuncData.mk (Str.ofString "hsv_to_rgb") (Str.ofString "hsv_to_rgb") (stArgs (st 5)) (FuncBody.stmts (stBody (st 5))) (stScope (st 5)) 3 [] Value.none Value.none Value.none (Value.str (Str.ofString "cpy313.colorsys") 289) Option.none (Value.ref 58) Value.none 0)) (List.toArray []))),
  ((nat_lit 60), (Obj.mk (Value.type "tuple") Option.none (Data.seq (List.toArray []) 0) (List.toArray []))),
  ((nat_lit 62), (Obj.mk (Value.type "tuple") Option.none (Data.seq (List.toArray [(Value.str (Str.ofString "a") 347), (Value.str (Str.ofString "b") 348)]) 0) (List.toArray []))),
  ((nat_lit 63), (Obj.mk (Value.type "tuple") Option.none (Data.seq (List.toArray []) 0) (List.toArray []))),
  ((nat_lit 65), (Obj.mk (Value.type "code") Option.none (Data.fields (List.toArray [(Value.str (Str.ofString "lt") 344), (Value.str (Str.ofString "lt") 345), (Value.str (Str.ofString "/claim/cut.py") 346), (Value.int (70 : Int) 0), (Value.int (2 : Int) 0), (Value.int (0 : Int) 0), (Value.int (0 : Int) 0), (Value.int (3 : Int) 0), (Value.ref 60), (Value.bool Bool.true), (Value.int (276 : Int) 0), (Value.ref 61), Value.none, (Value.ref 62), (Value.ref 63), (Value.ref 64), (Value.int (349 : Int) 0), (Value.int (70 : Int) 0), (Value.str (Str.ofString "/claim/cut.py") 350)])) (List.toArray []))),
  ((nat_lit 66), (Obj.mk (Value.type "function") Option.none (Data.func (FuncData.mk (Str.ofString "lt") (Str.ofString "lt") (stArgs (st 7)) (FuncBody.stmts (stBody (st 7))) (stScope (st 12)) 3 [] Value.none Value.none Value.none (Value.str (Str.ofString "cpy313.operator") 342) Option.none (Value.ref 65) Value.none 0)) (List.toArray []))),
  ((nat_lit 67), (Obj.mk (Value.type "tuple") Option.none (Data.seq (List.toArray []) 0) (List.toArray []))),
  ((nat_lit 69), (Obj.mk (Value.type "tuple") Option.none (Data.seq (List.toArray [(Value.str (Str.ofString "a") 355), (Value.str (Str.ofString "b") 356)]) 0) (List.toArray []))),
  ((nat_lit 70), (Obj.mk (Value.type "tuple") Option.none (Data.seq (List.toArray []) 0) (List.toArray []))),
  ((nat_lit 72), (Obj.mk (Value.type "code") Option.none (Data.fields (List.toArray [(Value.str (Str.ofString "truediv") 352), (Value.str (Str.ofString "truediv") 353), (Value.str (Str.ofString "/claim/cut.py") 354), (Value.int (72 : Int) 0), (Value.int (2 : Int) 0), (Value.int (0 : Int) 0), (Value.int (0 : Int) 0), (Value.int (3 : Int) 0), (Value.ref 67), (Value.bool Bool.true), (Value.int (276 : Int) 0), (Value.ref 68), Value.none, (Value.ref 69), (Value.ref 70), (Value.ref 71), (Value.int (357 : Int) 0), (Value.int (72 : Int) 0), (Value.str (Str.ofString "/claim/cut.py") 358)])) (List.toArray []))),
  ((nat_lit 73), (Obj.mk (Value.type "function") Option.none (Data.func (FuncData.mk (Str.ofString "truediv") (Str.ofString "truediv") (stArgs (st 8)) (FuncBody.stmts (stBody (st 8))) (stScope (st 12)) 3 [] Value.none Value.none Value.none (Value.str (Str.ofString "cpy313.operator") 342) Option.none (Value.ref 72) Value.none 0)) (List.toArray []))),
  ((nat_lit 74), (Obj.mk (Value.type "tuple") Option.none (Data.seq (List.toArray []) 0) (List.toArray []))),
  ((nat_lit 76), (Obj.mk (Value.type "tuple") Option.none (Data.seq (List.toArray [(Value.str (Str.ofString "a") 363), (Value.str (Str.ofString "b") 364)]) 0) (List.toArray []))),
  ((nat_lit 77), (Obj.mk (Value.type "tuple") Option.none (Data.seq (List.toArray []) 0) (List.toArray []))),
  ((nat_lit 79), (Obj.mk (Value.type "code") Option.none (Data.fields (List.toArray [(Value.str (Str.ofString "xor") 360), (Value.str (Str.ofString "xor") 361), (Value.str (Str.ofString "/claim/cut.py") 362), (Value.int (74 : Int) 0), (Value.int (2 : Int) 0), (Value.int (0 : Int) 0), (Value.int (0 : Int) 0), (Value.int (3 : Int) 0), (Value.ref 74), (Value.bool Bool.true), (Value.int (276 : Int) 0), (Value.ref 75), Value.none, (Value.ref 76), (Value.ref 77), (Value.ref 78), (Value.int (365 : Int) 0), (Value.int (74 : Int) 0), (Value.str (Str.ofString "/claim/cut.py") 366)])) (List.toArray []))),
  ((nat_lit 80), (Obj.mk (Value.type "function") Option.none (Data.func (FuncData.mk (Str.ofString "xor") (Str.ofString "xor") (stArgs (st 9)) (FuncBody.stmts (stBody (st 9))) (stScope (st 12)) 3 [] Value.none Value.none Value.none (Value.str (Str.ofString "cpy313.operator") 342) Option.none (Value.ref 79) Value.none 0)) (List.toArray []))),
  ((nat_lit 81), (Obj.mk (Value.type "tuple") Option.none (Data.seq (List.toArray []) 0) (List.toArray []))),
  ((nat_lit 83), (Obj.mk (Value.type "tuple") Option.none (Data.seq (List.toArray [(Value.str (Str.ofString "a") 371), (Value.str (Str.ofString "b") 372), (Value.str (Str.ofString "count") 373), (Value.str (Str.ofString "i") 374)]) 0) (List.toArray []))),
  ((nat_lit 84), (Obj.mk (Value.type "tuple") Option.none (Data.seq (List.toArray []) 0) (List.toArray []))),
  ((nat_lit 86), (Obj.mk (Value.type "code") Option.none (Data.fields (List.toArray [(Value.str (Str.ofString "countOf") 368), (Value.str (Str.ofString "countOf") 369), (Value.str (Str.ofString "/claim/cut.py") 370), (Value.int (76 : Int) 0), (Value.int (2 : Int) 0), (Value.int (0 : Int) 0), (Value.int (0 : Int) 0), (Value.int (3 : Int) 0), (Value.ref 81), (Value.bool Bool.true), (Value.int (276 : Int) 0), (Value.ref 82), Value.none, (Value.ref 83), (Value.ref 84), (Value.ref 85), (Value.int (375 : Int) 0), (Value.int (76 : Int) 0), (Value.str (Str.ofString "/claim/cut.py") 376)])) (List.toArray []))),
  ((nat_lit 87), (Obj.mk (Value.type "function") Option.none (Data.func (FuncData.mk (Str.ofString "countOf") (Str.ofString "countOf") (stArgs (st 10)) (FuncBody.stmts (stBody (st 10))) (stScope (st 10)) 3 [] Value.none Value.none Value.none (Value.str (Str.ofString "cpy313.operator") 342) Option.none (Value.ref 86) Value.none 0)) (List.toArray []))),
  ((nat_lit 88), (Obj.mk (Value.type "tuple") Option.none (Data.seq (List.toArray []) 0) (List.toArray []))),
  ((nat_lit 90), (Obj.mk (Value.type "tuple") Option.none (Data.seq (List.toArray [(Value.str (Str.ofString "a") 381), (Value.str (Str.ofString "b") 382)]) 0) (List.toArray []))),
  ((nat_lit 91), (Obj.mk (Value.type "tuple") Option.none (Data.seq (List.toArray []) 0) (List.toArray []))),
  ((nat_lit 93), (Obj.mk (Value.type "code") Option.none (Data.fields (List.toArray [(Value.str (Str.ofString "delitem") 378), (Value.str (Str.ofString "delitem") 379), (Value.str (Str.ofString "/claim/cut.py") 380), (Value.int (82 : Int) 0), (Value.int (2 : Int) 0), (Value.int (0 : Int) 0), (Value.int (0 : Int) 0), (Value.int (3 : Int) 0), (Value.ref 88), (Value.bool Bool.true), (Value.int (276 : Int) 0), (Value.ref 89), Value.none, (Value.ref 90), (Value.ref 91), (Value.ref 92), (Value.int (383 : Int) 0), (Value.int (82 : Int) 0), (Value.str (Str.ofString "/claim/cut.py") 384)])) (List.toArray []))),
  ((nat_lit 94), (Obj.mk (Value.type "function") Option.none (Data.func (FuncData.mk (Str.ofString "delitem") (Str.ofString "delitem") (stArgs (st 11)) (FuncBody.stmts (stBody (st 11))) (stScope (st 12)) 3 [] Value.none Value.none Value.none (Value.str (Str.ofString "cpy313.operator") 342) Option.none (Value.ref 93) Value.none 0)) (List.toArray []))),
  ((nat_lit 95), (Obj.mk (Value.type "tuple") Option.none (Data.seq (List.toArray []) 0) (List.toArray []))),
  ((nat_lit 97), (Obj.mk (Value.type "tuple") Option.none (Data.seq (List.toArray [(Value.str (Str.ofString "a") 389), (Value.str (Str.ofString "b") 390)]) 0) (List.toArray []))),
  ((nat_lit 98), (Obj.mk (Value.type "tuple") Option.none (Data.seq (List.toArray []) 0) (List.toArray []))),
  ((nat_lit 100), (Obj.mk (Value.type "code") Option.none (Data.fields (List.toArray [(Value.str (Str.ofString "getitem") 386), (Value.str (Str.ofString "getitem") 387), (Value.str (Str.ofString "/claim/cut.py") 388), (Value.int (84 : Int) 0), (Value.int (2 : Int) 0), (Value.int (0 : Int) 0), (Value.int (0 : Int) 0), (Value.int (3 : Int) 0), (Value.ref 95), (Value.bool Bool.true), (Value.int (276 : Int) 0), (Value.ref 96), Value.none, (Value.ref 97), (Value.ref 98), (Value.ref 99), (Value.int (391 : Int) 0), (Value.int (84 : Int) 0), (Value.str (Str.ofString "/claim/cut.py") 392)])) (List.toArray []))),
  ((nat_lit 101), (Obj.mk (Value.type "function") Option.none (Data.func (FuncData.mk (Str.ofString "getitem") (Str.ofString "getitem") (stArgs (st 12)) (FuncBody.stmts (stBody (st 12))) (stScope (st 12)) 3 [] Value.none Value.none Value.none (Value.str (Str.ofString "cpy313.operator") 342) Option.none (Value.ref 100) Value.none 0)) (List.toArray []))),
  ((nat_lit 102), (Obj.mk (Value.type "tuple") Option.none (Data.seq (List.toArray []) 0) (List.toArray []))),
  ((nat_lit 104), (Obj.mk (Value.type "tuple") Option.none (Data.seq (List.toArray [(Value.str (Str.ofString "a") 397), (Value.str (Str.ofString "b") 398), (Value.str (Str.ofString "i") 399), (Value.str (Str.ofString "j") 400)]) 0) (List.toArray []))),
  ((nat_lit 105), (Obj.mk (Value.type "tuple") Option.none (Data.seq (List.toArray []) 0) (List.toArray []))),
  ((nat_lit 107), (Obj.mk (Value.type "code") Option.none (Data.fields (List.toArray [(Value.str (Str.ofString "indexOf") 394), (Value.str (Str.ofString "indexOf") 395), (Value.str (Str.ofString "/claim/cut.py") 396), (Value.int (86 : Int) 0), (Value.int (2 : Int) 0), (Value.int (0 : Int) 0), (Value.int (0 : Int) 0), (Value.int (3 : Int) 0), (Value.ref 102), (Value.bool Bool.true), (Value.int (276 : Int) 0), (Value.ref 103), Value.none, (Value.ref 104), (Value.ref 105), (Value.ref 106), (Value.int (401 : Int) 0), (Value.int (86 : Int) 0), (Value.str (Str.ofString "/claim/cut.py") 402)])) (List.toArray []))),
  ((nat_lit 108), (Obj.mk (Value.type "function") Option.none (Data.func (FuncData.mk (Str.ofString "indexOf") (Str.ofString "indexOf") (stArgs (st 13)) (FuncBody.stmts (stBody (st 13))) (stScope (st 13)) 3 [] Value.none Value.none Value.none (Value.str (Str.ofString "cpy313.operator") 342) Option.none (Value.ref 107) Value.none 0)) (List.toArray []))),
  ((nat_lit 109), (Obj.mk (Value.type "tuple") Option.none (Data.seq (List.toArray []) 0) (List.toArray []))),
  ((nat_lit 111), (Obj.mk (Value.type "tuple") Option.none (Data.seq (List.toArray [(Value.str (Str.ofString "a") 407), (Value.str (Str.ofString "b") 408), (Value.str (Str.ofString "c") 409)]) 0) (List.toArray []))),
  ((nat_lit 112), (Obj.mk (Value.type "tuple") Option.none (Data.seq (List.toArray []) 0) (List.toArray []))),
  ((nat_lit 114), (Obj.mk (Value.type "code") Option.none (Data.fields (List.toArray [(Value.str (Str.ofString "setitem") 404), (Value.str (Str.ofString "setitem") 405), (Value.str (Str.ofString "/claim/cut.py") 406), (Value.int (92 : Int) 0), (Value.int (3 : Int) 0), (Value.int (0 : Int) 0), (Value.int (0 : Int) 0), (Value.int (3 : Int) 0), (Value.ref 109), (Value.bool Bool.true), (Value.int (276 : Int) 0), (Value.ref 110), Value.none, (Value.ref 111), (Value.ref 112), (Value.ref 113), (Value.int (410 : Int) 0), (Value.int (92 : Int) 0), (Value.str (Str.ofString "/claim/cut.py") 411)])) (List.toArray []))),
  ((nat_lit 115), (Obj.mk (Value.type "function") Option.none (Data.func (FuncData.mk (Str.ofString "setitem") (Str.ofString "setitem") (stArgs (st 14)) (FuncBody.stmts (stBody (st 14))) (stScope (st 14)) 3 [] Value.none Value.none Value.none (Value.str (Str.ofString "cpy313.operator") 342) Option.none (Value.ref 114) Value.none 0)) (List.toArray []))),
  ((nat_lit 116), (Obj.mk (Value.type "tuple") Option.none (Data.seq (List.toArray [(Value.int (0 : Int) 413)]) 0) (List.toArray []))),
  ((nat_lit 117), (Obj.mk (Value.type "tuple") Option.none (Data.seq (List.toArray []) 0) (List.toArray []))),
  ((nat_lit 119), (Obj.mk (Value.type "tuple") Option.none (Data.seq (List.toArray [(Value.str (Str.ofString "obj") 417), (Value.str (Str.ofString "default") 418), (Value.str (Str.ofString "msg") 419), (Value.str (Str.ofString "hint") 420), (Value.str (Str.ofString "val") 421)]) 0) (List.toArray []))),
  ((nat_lit 120), (Obj.mk (Value.type "tuple") Option.none (Data.seq (List.toArray []) 0) (List.toArray []))),
  ((nat_lit 122), (Obj.mk (Value.type "code") Option.none (Data.fields (List.toArray [(Value.str (Str.ofString "length_hint") 414), (Value.str (Str.ofString "length_hint") 415), (Value.str (Str.ofString "/claim/cut.py") 416), (Value.int (94 : Int) 0), (Value.int (2 : Int) 0), (Value.int (0 : Int) 0), (Value.int (0 : Int) 0), (Value.int (3 : Int) 0), (Value.ref 117), (Value.bool Bool.true), (Value.int (276 : Int) 0), (Value.ref 118), Value.none, (Value.ref 119), (Value.ref 120), (Value.ref 121), (Value.int (422 : Int) 0), (Value.int (94 : Int) 0), (Value.str (Str.ofString "/claim/cut.py") 423)])) (List.toArray []))),
  ((nat_lit 123), (Obj.mk (Value.type "function") Option.none (Data.func (FuncData.mk (Str.ofString "length_hint") (Str.ofString "length_hint") (stArgs (st 15)) (FuncBody.stmts (stBody (st 15))) (stScope (st 15)) 3 [] (Value.ref 116) Value.none Value.none (Value.str (Str.ofString "cpy313.operator") 342) Option.none (Value.ref 122) Value.none 0)) (List.toArray []))),
  ((nat_lit 127), (Obj.mk (Value.type "tuple") Option.none (Data.seq (List.toArray [(Value.int (14 : Int) 0), (Value.int (10 : Int) 0), (Value.int (4 : Int) 0), (Value.int (1 : Int) 0), (Value.int (1 : Int) 0), (Value.int (22 : Int) 0), (Value.int (0 : Int) 0), (Value.int (31 : Int) 0), (Value.int (16 : Int) 0), (Value.int (127 : Int) 0), (Value.int (0 : Int) 0), (Value.int (13 : Int) 0), (Value.int (7 : Int) 0), (Value.int (22 : Int) 0), (Value.int (0 : Int) 0), (Value.int (31 : Int) 0), (Value.int (16 : Int) 0), (Value.int (127 : Int) 0), (Value.int (0 : Int) 0), (Value.int (1 : Int) 0)]) 0) (List.toArray []))),
  ((nat_lit 128), (Obj.mk (Value.type "re.Pattern") Option.none (Data.fields (List.toArray [(Value.str (Str.ofString "[\\x00-\\x1F\\x7F]") 428), (Value.int (32 : Int) 451), (Value.int (0 : Int) 0), Value.none, Value.none, (Value.ref 127), (Value.int (0 : Int) 0)])) (List.toArray []))),
  ((nat_lit 132), (Obj.mk (Value.type "tuple") Option.none (Data.seq (List.toArray [(Value.int (14 : Int) 0), (Value.int (14 : Int) 0), (Value.int (4 : Int) 0), (Value.int (1 : Int) 0), (Value.int (1 : Int) 0), (Value.int (9 : Int) 0), (Value.int (4294966783 : Int) 0), (Value.int (0 : Int) 0), (Value.int (0 : Int) 0), (Value.int (2147483648 : Int) 0), (Value.int (0 : Int) 0), (Value.int (0 : Int) 0), (Value.int (0 : Int) 0), (Value.int (0 : Int) 0), (Value.int (0 : Int) 0), (Value.int (13 : Int) 0), (Value.int (11 : Int) 0), (Value.int (9 : Int) 0), (Value.int (4294966783 : Int) 0), (Value.int (0 : Int) 0), (Value.int (0 : Int) 0), (Value.int (2147483648 : Int) 0), (Value.int (0 : Int) 0), (Value.int (0 : Int) 0), (Value.int (0 : Int) 0), (Value.int (0 : Int) 0), (Value.int (0 : Int) 0), (Value.int (1 : Int) 0)]) 0) (List.toArray []))),
  ((nat_lit 133), (Obj.mk (Value.type "re.Pattern") Option.none (Data.fields (List.toArray [(Value.str (Str.ofString "[\\x00-\\x08\\x0A-\\x1F\\x7F]") 454), (Value.int (32 : Int) 485), (Value.int (0 : Int) 0), Value.none, Value.none, (Value.ref 132), (Value.int (0 : Int) 0)])) (List.toArray []))),
  ((nat_lit 141), (Obj.mk (Value.type "tuple") Option.none (Data.seq (List.toArray [Value.none]) 0) (List.toArray []))),
  ((nat_lit 142), (Obj.mk (Value.type "tuple") Option.none (Data.seq (List.toArray []) 0) (List.toArray []))),
  ((nat_lit 144), (Obj.mk (Value.type "tuple") Option.none (Data.seq (List.toArray [(Value.str (Str.ofString "self") 502), (Value.str (Str.ofString "headers") 503), (Value.str (Str.ofString "k") 504), (Value.str (Str.ofString "v") 505)]) 0) (List.toArray []))),
  ((nat_lit 145), (Obj.mk (Value.type "tuple") Option.none (Data.seq (List.toArray []) 0) (List.toArray []))),
  ((nat_lit 147), (Obj.mk (Value.type "code") Option.none (Data.fields (List.toArray [(Value.str (Str.ofString "__init__") 499), (Value.str (Str.ofString "Headers.__init__") 500), (Value.str (Str.ofString "/claim/cut.py") 501), (Value.int (124 : Int) 0), (Value.int (2 : Int) 0), (Value.int (0 : Int) 0), (Value.int (0 : Int) 0), (Value.int (3 : Int) 0), (Value.ref 142), (Value.bool Bool.true), (Value.int (276 : Int) 0), (Value.ref 143), Value.none, (Value.ref 144), (Value.ref 145), (Value.ref 146), (Value.int (506 : Int) 0), (Value.int (124 : Int) 0), (Value.str (Str.ofString "/claim/cut.py") 507)])) (List.toArray []))),
  ((nat_lit 148), (Obj.mk (Value.type "function") Option.none (Data.func (FuncData.mk (Str.ofString "__init__") (Str.ofString "Headers.__init__") (stArgs (stIn (st 19) 0)) (FuncBody.stmts (stBody (stIn (st 19) 0))) (stScope (stIn (st 19) 0)) 3 [] (Value.ref 141) Value.none Value.none (Value.str (Str.ofString "cpy313.wsgiref.headers") 425) Option.none (Value.ref 147) Value.none 0)) (List.toArray []))),
  ((nat_lit 149), (Obj.mk (Value.type "tuple") Option.none (Data.seq (List.toArray []) 0) (List.toArray []))),
  ((nat_lit 151), (Obj.mk (Value.type "tuple") Option.none (Data.seq (List.toArray [(Value.str (Str.ofString "self") 512), (Value.str (Str.ofString "value") 513), (Value.str (Str.ofString "name") 514), (Value.str (Str.ofString "regex") 515)]) 0) (List.toArray []))),
  ((nat_lit 152), (Obj.mk (Value.type "tuple") Option.none (Data.seq (List.toArray []) 0) (List.toArray []))),
  ((nat_lit 154), (Obj.mk (Value.type "code") Option.none (Data.fields (List.toArray [(Value.str (Str.ofString "_convert_string_type") 509), (Value.str (Str.ofString "Headers._convert_string_type") 510), (Value.str (Str.ofString "/claim/cut.py") 511), (Value.int (134 : Int) 0), (Value.int (2 : Int) 0), (Value.int (0 : Int) 0), (Value.int (1 : Int) 0), (Value.int (3 : Int) 0), (Value.ref 149), (Value.bool Bool.true), (Value.int (276 : Int) 0), (Value.ref 150), Value.none, (Value.ref 151), (Value.ref 152), (Value.ref 153), (Value.int (516 : Int) 0), (Value.int (134 : Int) 0), (Value.str (Str.ofString "/claim/cut.py") 517)])) (List.toArray []))),
  ((nat_lit 155), (Obj.mk (Value.type "function") Option.none (Data.func (FuncData.mk (Str.ofString "_convert_string_type") (Str.ofString "Headers._convert_string_type") (stArgs (stIn (st 19) 1)) (FuncBody.stmts (stBody (stIn (st 19) 1))) (stScope (stIn (st 19) 1)) 3 [] Value.none Value.none Value.none (Value.str (Str.ofString "cpy313.wsgiref.headers") 425) Option.none (Value.ref 154) Value.none 0)) (List.toArray []))),
  ((nat_lit 156), (Obj.mk (Value.type "tuple") Option.none (Data.seq (List.toArray []) 0) (List.toArray []))),
  ((nat_lit 158), (Obj.mk (Value.type "tuple") Option.none (Data.seq (List.toArray [(Value.str (Str.ofString "self") 522)]) 0) (List.toArray []))),
  ((nat_lit 159), (Obj.mk (Value.type "tuple") Option.none (Data.seq (List.toArray []) 0) (List.toArray []))),
  ((nat_lit 161), (Obj.mk (Value.type "code") Option.none (Data.fields (List.toArray [(Value.str (Str.ofString "__len__") 519), (Value.str (Str.ofString "Headers.__len__") 520), (Value.str (Str.ofString "/claim/cut.py") 521), (Value.int (142 : Int) 0), (Value.int (1 : Int) 0), (Value.int (0 : Int) 0), (Value.int (0 : Int) 0), (Value.int (3 : Int) 0), (Value.ref 156), (Value.bool Bool.true), (Value.int (276 : Int) 0), (Value.ref 157), Value.none, (Value.ref 158), (Value.ref 159), (Value.ref 160), (Value.int (523 : Int) 0), (Value.int (142 : Int) 0), (Value.str (Str.ofString "/claim/cut.py") 524)])) (List.toArray []))),
  ((nat_lit 162), (Obj.mk (Value.type "function") Option.none (Data.func (FuncData.mk (Str.ofString "__len__") (Str.ofString "Headers.__len__") (stArgs (stIn (st 19) 2)) (FuncBody.stmts (stBody (stIn (st 19) 2))) (stScope (stIn (st 19) 2)) 3 [] Value.none Value.none Value.none (Value.str (Str.ofString "cpy313.wsgiref.headers") 425) Option.none (Value.ref 161) Value.none 0)) (List.toArray []))),
  ((nat_lit 163), (Obj.mk (Value.type "tuple") Option.none (Data.seq (List.toArray []) 0) (List.toArray []))),
  ((nat_lit 165), (Obj.mk (Value.type "tuple") Option.none (Data.seq (List.toArray [(Value.str (Str.ofString "self") 529), (Value.str (Str.ofString "name") 530), (Value.str (Str.ofString "val") 531)]) 0) (List.toArray []))),
  ((nat_lit 166), (Obj.mk (Value.type "tuple") Option.none (Data.seq (List.toArray []) 0) (List.toArray []))),
  ((nat_lit 168), (Obj.mk (Value.type "code") Option.none (Data.fields (List.toArray [(Value.str (Str.ofString "__setitem__") 526), (Value.str (Str.ofString "Headers.__setitem__") 527), (Value.str (Str.ofString "/claim/cut.py") 528), (Value.int (145 : Int) 0), (Value.int (3 : Int) 0), (Value.int (0 : Int) 0), (Value.int (0 : Int) 0), (Value.int (3 : Int) 0), (Value.ref 163), (Value.bool Bool.true), (Value.int (276 : Int) 0), (Value.ref 164), Value.none, (Value.ref 165), (Value.ref 166), (Value.ref 167), (Value.int (532 : Int) 0), (Value.int (145 : Int) 0), (Value.str (Str.ofString "/claim/cut.py") 533)])) (List.toArray []))),
  ((nat_lit 169), (Obj.mk (Value.type "function") Option.none (Data.func (FuncData.mk (Str.ofString "__setitem__") (Str.ofString "Headers.__setitem__") (stArgs (stIn (st 19) 3)) (FuncBody.stmts (stBody (stIn (st 19) 3))) (stScope (stIn (st 19) 3)) 3 [] Value.none Value.none Value.none (Value.str (Str.ofString "cpy313.wsgiref.headers") 425) Option.none (Value.ref 168) Value.none 0)) (List.toArray []))),
  ((nat_lit 170), (Obj.mk (Value.type "tuple") Option.none (Data.seq (List.toArray []) 0) (List.toArray []))),
  ((nat_lit 173), (Obj.mk (Value.type "code") Option.none (Data.fields (List.toArray [(Value.str (Str.ofString "__delitem__") 535), (Value.str (Str.ofString "Headers.__delitem__") 536), (Value.str (Str.ofString "/claim/cut.py") 537), (Value.int (149 : Int) 0), (Value.int (2 : Int) 0), (Value.int (0 : Int) 0), (Value.int (0 : Int) 0), (Value.int (3 : Int) 0), (Value.ref 170), (Value.bool Bool.true), (Value.int (276 : Int) 0), (Value.ref 171), Value.none, Value.none, Value.none, (Value.ref 172), (Value.int (538 : Int) 0), (Value.int (149 : Int) 0), (Value.str (Str.ofString "/claim/cut.py") 539)])) (List.toArray []))),
  ((nat_lit 174), (Obj.mk (Value.type "function") Option.none (Data.func (FuncData.mk (Str.ofString "__delitem__") (Str.ofString "Headers.__delitem__") (stArgs (stIn (st 19) 4)) (FuncBody.stmts (stBody (stIn (st 19) 4))) (stScope (stIn (st 19) 4)) 3 [] Value.none Value.none Value.none (Value.str (Str.ofString "cpy313.wsgiref.headers") 425) Option.none (Value.ref 173) Value.none 0)) (List.toArray []))),
  ((nat_lit 175), (Obj.mk (Value.type "tuple") Option.none (Data.seq (List.toArray []) 0) (List.toArray []))),
  ((nat_lit 177), (Obj.mk (Value.type "tuple") Option.none (Data.seq (List.toArray [(Value.str (Str.ofString "self") 544), (Value.str (Str.ofString "name") 545)]) 0) (List.toArray []))),
  ((nat_lit 178), (Obj.mk (Value.type "tuple") Option.none (Data.seq (List.toArray []) 0) (List.toArray []))),
  ((nat_lit 180), (Obj.mk (Value.type "code") Option.none (Data.fields (List.toArray [(Value.str (Str.ofString "__getitem__") 541), (Value.str (Str.ofString "Headers.__getitem__") 542), (Value.str (Str.ofString "/claim/cut.py") 543), (Value.int (153 : Int) 0), (Value.int (2 : Int) 0), (Value.int (0 : Int) 0), (Value.int (0 : Int) 0), (Value.int (3 : Int) 0), (Value.ref 175), (Value.bool Bool.true), (Value.int (276 : Int) 0), (Value.ref 176), Value.none, (Value.ref 177), (Value.ref 178), (Value.ref 179), (Value.int (546 : Int) 0), (Value.int (153 : Int) 0), (Value.str (Str.ofString "/claim/cut.py") 547)])) (List.toArray []))),
  ((nat_lit 181), (Obj.mk (Value.type "function") Option.none (Data.func (FuncData.mk (Str.ofString "__getitem__") (Str.ofString "Headers.__getitem__") (stArgs (stIn (st 19) 5)) (FuncBody.stmts (stBody (stIn (st 19) 5))) (stScope (stIn (st 19) 6)) 3 [] Value.none Value.none Value.none (Value.str (Str.ofString "cpy313.wsgiref.headers") 425) Option.none (Value.ref 180) Value.none 0)) (List.toArray []))),
  ((nat_lit 182), (Obj.mk (Value.type "tuple") Option.none (Data.seq (List.toArray []) 0) (List.toArray []))),
  ((nat_lit 184), (Obj.mk (Value.type "tuple") Option.none (Data.seq (List.toArray [(Value.str (Str.ofString "self") 552), (Value.str (Str.ofString "name") 553)]) 0) (List.toArray []))),
  ((nat_lit 185), (Obj.mk (Value.type "tuple") Option.none (Data.seq (List.toArray []) 0) (List.toArray []))),
  ((nat_lit 187), (Obj.mk (Value.type "code") Option.none (Data.fields (List.toArray [(Value.str (Str.ofString "__contains__") 549), (Value.str (Str.ofString "Headers.__contains__") 550), (Value.str (Str.ofString "/claim/cut.py") 551), (Value.int (156 : Int) 0), (Value.int (2 : Int) 0), (Value.int (0 : Int) 0), (Value.int (0 : Int) 0), (Value.int (3 : Int) 0), (Value.ref 182), (Value.bool Bool.true), (Value.int (276 : Int) 0), (Value.ref 183), Value.none, (Value.ref 184), (Value.ref 185), (Value.ref 186), (Value.int (554 : Int) 0), (Value.int (156 : Int) 0), (Value.str (Str.ofString "/claim/cut.py") 555)])) (List.toArray []))),
  ((nat_lit 188), (Obj.mk (Value.type "function") Option.none (Data.func (FuncData.mk (Str.ofString "__contains__") (Str.ofString "Headers.__contains__") (stArgs (stIn (st 19) 6)) (FuncBody.stmts (stBody (stIn (st 19) 6))) (stScope (stIn (st 19) 6)) 3 [] Value.none Value.none Value.none (Value.str (Str.ofString "cpy313.wsgiref.headers") 425) Option.none (Value.ref 187) Value.none 0)) (List.toArray []))),
  ((nat_lit 189), (Obj.mk (Value.type "tuple") Option.none (Data.seq (List.toArray []) 0) (List.toArray []))),
  ((nat_lit 191), (Obj.mk (Value.type "tuple") Option.none (Data.seq (List.toArray [(Value.str (Str.ofString "self") 560), (Value.str (Str.ofString "name") 561)]) 0) (List.toArray []))),
  ((nat_lit 192), (Obj.mk (Value.type "tuple") Option.none (Data.seq (List.toArray []) 0) (List.toArray []))),
  ((nat_lit 194), (Obj.mk (Value.type "code") Option.none (Data.fields (List.toArray [(Value.str (Str.ofString "get_all") 557), (Value.str (Str.ofString "Headers.get_all") 558), (Value.str (Str.ofString "/claim/cut.py") 559), (Value.int (159 : Int) 0), (Value.int (2 : Int) 0), (Value.int (0 : Int) 0), (Value.int (0 : Int) 0), (Value.int (3 : Int) 0), (Value.ref 189), (Value.bool Bool.true), (Value.int (276 : Int) 0), (Value.ref 190), Value.none, (Value.ref 191), (Value.ref 192), (Value.ref 193), (Value.int (562 : Int) 0), (Value.int (159 : Int) 0), (Value.str (Str.ofString "/claim/cut.py") 563)])) (List.toArray []))),
  ((nat_lit 195), (Obj.mk (Value.type "function") Option.none (Data.func (FuncData.mk (Str.ofString "get_all") (Str.ofString "Headers.get_all") (stArgs (stIn (st 19) 7)) (FuncBody.stmts (stBody (stIn (st 19) 7))) (stScope (stIn (st 19) 7)) 3 [] Value.none Value.none Value.none (Value.str (Str.ofString "cpy313.wsgiref.headers") 425) Option.none (Value.ref 194) Value.none 0)) (List.toArray []))),
  ((nat_lit 196), (Obj.mk (Value.type "tuple") Option.none (Data.seq (List.toArray [Value.none]) 0) (List.toArray []))),
  ((nat_lit 197), (Obj.mk (Value.type "tuple") Option.none (Data.seq (List.toArray []) 0) (List.toArray []))),
  ((nat_lit 199), (Obj.mk (Value.type "tuple") Option.none (Data.seq (List.toArray [(Value.str (Str.ofString "self") 568), (Value.str (Str.ofString "name") 569), (Value.str (Str.ofString "default") 570), (Value.str (Str.ofString "k") 571), (Value.str (Str.ofString "v") 572)]) 0) (List.toArray []))),
  ((nat_lit 200), (Obj.mk (Value.type "tuple") Option.none (Data.seq (List.toArray []) 0) (List.toArray []))),
  ((nat_lit 202), (Obj.mk (Value.type "code") Option.none (Data.fields (List.toArray [(Value.str (Str.ofString "get") 565), (Value.str (Str.ofString "Headers.get") 566), (Value.str (Str.ofString "/claim/cut.py") 567), (Value.int (162 : Int) 0), (Value.int (3 : Int) 0), (Value.int (0 : Int) 0), (Value.int (0 : Int) 0), (Value.int (3 : Int) 0), (Value.ref 197), (Value.bool Bool.true), (Value.int (276 : Int) 0), (Value.ref 198), Value.none, (Value.ref 199), (Value.ref 200), (Value.ref 201), (Value.int (573 : Int) 0), (Value.int (162 : Int) 0), (Value.str (Str.ofString "/claim/cut.py") 574)])) (List.toArray []))),
  ((nat_lit 203), (Obj.mk (Value.type "function") Option.none (Data.func (FuncData.mk (Str.ofString "get") (Str.ofString "Headers.get") (stArgs (stIn (st 19) 8)) (FuncBody.stmts (stBody (stIn (st 19) 8))) (stScope (stIn (st 19) 8)) 3 [] (Value.ref 196) Value.none Value.none (Value.str (Str.ofString "cpy313.wsgiref.headers") 425) Option.none (Value.ref 202) Value.none 0)) (List.toArray []))),
  ((nat_lit 204), (Obj.mk (Value.type "tuple") Option.none (Data.seq (List.toArray []) 0) (List.toArray []))),
  ((nat_lit 207), (Obj.mk (Value.type "code") Option.none (Data.fields (List.toArray [(Value.str (Str.ofString "keys") 576), (Value.str (Str.ofString "Headers.keys") 577), (Value.str (Str.ofString "/claim/cut.py") 578), (Value.int (169 : Int) 0), (Value.int (1 : Int) 0), (Value.int (0 : Int) 0), (Value.int (0 : Int) 0), (Value.int (3 : Int) 0), (Value.ref 204), (Value.bool Bool.true), (Value.int (276 : Int) 0), (Value.ref 205), Value.none, Value.none, Value.none, (Value.ref 206), (Value.int (579 : Int) 0), (Value.int (169 : Int) 0), (Value.str (Str.ofString "/claim/cut.py") 580)])) (List.toArray []))),
  ((nat_lit 208), (Obj.mk (Value.type "function") Option.none (Data.func (FuncData.mk (Str.ofString "keys") (Str.ofString "Headers.keys") (stArgs (stIn (st 19) 9)) (FuncBody.stmts (stBody (stIn (st 19) 9))) (stScope (stIn (st 19) 10)) 3 [] Value.none Value.none Value.none (Value.str (Str.ofString "cpy313.wsgiref.headers") 425) Option.none (Value.ref 207) Value.none 0)) (List.toArray []))),
  ((nat_lit 209), (Obj.mk (Value.type "tuple") Option.none (Data.seq (List.toArray []) 0) (List.toArray []))),
  ((nat_lit 212), (Obj.mk (Value.type "code") Option.none (Data.fields (List.toArray [(Value.str (Str.ofString "values") 582), (Value.str (Str.ofString "Headers.values") 583), (Value.str (Str.ofString "/claim/cut.py") 584), (Value.int (172 : Int) 0), (Value.int (1 : Int) 0), (Value.int (0 : Int) 0), (Value.int (0 : Int) 0), (Value.int (3 : Int) 0), (Value.ref 209), (Value.bool Bool.true), (Value.int (276 : Int) 0), (Value.ref 210), Value.none, Value.none, Value.none, (Value.ref 211), (Value.int (585 : Int) 0), (Value.int (172 : Int) 0), (Value.str (Str.ofString "/claim/cut.py") 586)])) (List.toArray []))),
  ((nat_lit 213), (Obj.mk (Value.type "function") Option.none (Data.func (FuncData.mk (Str.ofString "values") (Str.ofString "Headers.values") (stArgs (stIn (st 19) 10)) (FuncBody.stmts (stBody (stIn (st 19) 10))) (stScope (stIn (st 19) 10)) 3 [] Value.none Value.none Value.none (Value.str (Str.ofString "cpy313.wsgiref.headers") 425) Option.none (Value.ref 212) Value.none 0)) (List.toArray []))),
  ((nat_lit 214), (Obj.mk (Value.type "tuple") Option.none (Data.seq (List.toArray []) 0) (List.toArray []))),
  ((nat_lit 216), (Obj.mk (Value.type "tuple") Option.none (Data.seq (List.toArray [(Value.str (Str.ofString "self") 591)]) 0) (List.toArray []))),
  ((nat_lit 217), (Obj.mk (Value.type "tuple") Option.none (Data.seq (List.toArray []) 0) (List.toArray []))),
  ((nat_lit 219), (Obj.mk (Value.type "code") Option.none (Data.fields (List.toArray [(Value.str (Str.ofString "items") 588), (Value.str (Str.ofString "Headers.items") 589), (Value.str (Str.ofString "/claim/cut.py") 590), (Value.int (175 : Int) 0), (Value.int (1 : Int) 0), (Value.int (0 : Int) 0), (Value.int (0 : Int) 0), (Value.int (3 : Int) 0), (Value.ref 214), (Value.bool Bool.true), (Value.int (276 : Int) 0), (Value.ref 215), Value.none, (Value.ref 216), (Value.ref 217), (Value.ref 218), (Value.int (592 : Int) 0), (Value.int (175 : Int) 0), (Value.str (Str.ofString "/claim/cut.py") 593)])) (List.toArray []))),
  ((nat_lit 220), (Obj.mk (Value.type "function") Option.none (Data.func (FuncData.mk (Str.ofString "items") (Str.ofString "Headers.items") (stArgs (stIn (st 19) 11)) (FuncBody.stmts (stBody (stIn (st 19) 11))) (stScope (stIn (st 19) 12)) 3 [] Value.none Value.none Value.none (Value.str (Str.ofString "cpy313.wsgiref.headers") 425) Option.none (Value.ref 219) Value.none 0)) (List.toArray []))),
  ((nat_lit 221), (Obj.mk (Value.type "tuple") Option.none (Data.seq (List.toArray []) 0) (List.toArray []))),
  ((nat_lit 223), (Obj.mk (Value.type "tuple") Option.none (Data.seq (List.toArray [(Value.str (Str.ofString "self") 598)]) 0) (List.toArray []))),
  ((nat_lit 224), (Obj.mk (Value.type "tuple") Option.none (Data.seq (List.toArray []) 0) (List.toArray []))),
  ((nat_lit 226), (Obj.mk (Value.type "code") Option.none (Data.fields (List.toArray [(Value.str (Str.ofString "__repr__") 595), (Value.str (Str.ofString "Headers.__repr__") 596), (Value.str (Str.ofString "/claim/cut.py") 597), (Value.int (178 : Int) 0), (Value.int (1 : Int) 0), (Value.int (0 : Int) 0), (Value.int (0 : Int) 0), (Value.int (3 : Int) 0), (Value.ref 221), (Value.bool Bool.true), (Value.int (276 : Int) 0), (Value.ref 222), Value.none, (Value.ref 223), (Value.ref 224), (Value.ref 225), (Value.int (599 : Int) 0), (Value.int (178 : Int) 0), (Value.str (Str.ofString "/claim/cut.py") 600)])) (List.toArray []))),
  ((nat_lit 227), (Obj.mk (Value.type "function") Option.none (Data.func (FuncData.mk (Str.ofString "__repr__") (Str.ofString "Headers.__repr__") (stArgs (stIn (st 19) 12)) (FuncBody.stmts (stBody (stIn (st 19) 12))) (stScope (stIn (st 19) 12)) 3 [] Value.none Value.none Value.none (Value.str (Str.ofString "cpy313.wsgiref.headers") 425) Option.none (Value.ref 226) Value.none 0)) (List.toArray []))),
  ((nat_lit 228), (Obj.mk (Value.type "tuple") Option.none (Data.seq (List.toArray []) 0) (List.toArray []))),
  ((nat_lit 231), (Obj.mk (Value.type "code") Option.none (Data.fields (List.toArray [(Value.str (Str.ofString "__str__") 602), (Value.str (Str.ofString "Headers.__str__") 603), (Value.str (Str.ofString "/claim/cut.py") 604), (Value.int (181 : Int) 0), (Value.int (1 : Int) 0), (Value.int (0 : Int) 0), (Value.int (0 : Int) 0), (Value.int (3 : Int) 0), (Value.ref 228), (Value.bool Bool.true), (Value.int (276 : Int) 0), (Value.ref 229), Value.none, Value.none, Value.none, (Value.ref 230), (Value.int (605 : Int) 0), (Value.int (181 : Int) 0), (Value.str (Str.ofString "/claim/cut.py") 606)])) (List.toArray []))),
  ((nat_lit 232), (Obj.mk (Value.type "function") Option.none (Data.func (FuncData.mk (Str.ofString "__str__") (Str.ofString "Headers.__str__") (stArgs (stIn (st 19) 13)) (FuncBody.stmts (stBody (stIn (st 19) 13))) (stScope (stIn (st 19) 13)) 3 [] Value.none Value.none Value.none (Value.str (Str.ofString "cpy313.wsgiref.headers") 425) Option.none (Value.ref 231) Value.none 0)) (List.toArray []))),
  ((nat_lit 233), (Obj.mk (Value.type "tuple") Option.none (Data.seq (List.toArray []) 0) (List.toArray []))),
  ((nat_lit 235), (Obj.mk (Value.type "tuple") Option.none (Data.seq (List.toArray [(Value.str (Str.ofString "self") 611)]) 0) (List.toArray []))),
  ((nat_lit 236), (Obj.mk (Value.type "tuple") Option.none (Data.seq (List.toArray []) 0) (List.toArray []))),
  ((nat_lit 238), (Obj.mk (Value.type "code") Option.none (Data.fields (List.toArray [(Value.str (Str.ofString "__bytes__") 608), (Value.str (Str.ofString "Headers.__bytes__") 609), (Value.str (Str.ofString "/claim/cut.py") 610), (Value.int (184 : Int) 0), (Value.int (1 : Int) 0), (Value.int (0 : Int) 0), (Value.int (0 : Int) 0), (Value.int (3 : Int) 0), (Value.ref 233), (Value.bool Bool.true), (Value.int (276 : Int) 0), (Value.ref 234), Value.none, (Value.ref 235), (Value.ref 236), (Value.ref 237), (Value.int (612 : Int) 0), (Value.int (184 : Int) 0), (Value.str (Str.ofString "/claim/cut.py") 613)])) (List.toArray []))),
  ((nat_lit 239), (Obj.mk (Value.type "function") Option.none (Data.func (FuncData.mk (Str.ofString "__bytes__") (Str.ofString "Headers.__bytes__") (stArgs (stIn (st 19) 14)) (FuncBody.stmts (stBody (stIn (st 19) 14))) (stScope (stIn (st 19) 14)) 3 [] Value.none Value.none Value.none (Value.str (Str.ofString "cpy313.wsgiref.headers") 425) Option.none (Value.ref 238) Value.none 0)) (List.toArray []))),
  ((nat_lit 240), (Obj.mk (Value.type "tuple") Option.none (Data.seq (List.toArray []) 0) (List.toArray []))),
  ((nat_lit 242), (Obj.mk (Value.type "tuple") Option.none (Data.seq (List.toArray [(Value.str (Str.ofString "self") 618), (Value.str (Str.ofString "name") 619), (Value.str (Str.ofString "value") 620)]) 0) (List.toArray []))),
  ((nat_lit 243), (Obj.mk (Value.type "tuple") Option.none (Data.seq (List.toArray []) 0) (List.toArray []))),
  ((nat_lit 245), (Obj.mk (Value.type "code") Option.none (Data.fields (List.toArray [(Value.str (Str.ofString "setdefault") 615), (Value.str (Str.ofString "Headers.setdefault") 616), (Value.str (Str.ofString "/claim/cut.py") 617), (Value.int (187 : Int) 0), (Value.int (3 : Int) 0), (Value.int (0 : Int) 0), (Value.int (0 : Int) 0), (Value.int (3 : Int) 0), (Value.ref 240), (Value.bool Bool.true), (Value.int (276 : Int) 0), (Value.ref 241), Value.none, (Value.ref 242), (Value.ref 243), (Value.ref 244), (Value.int (621 : Int) 0), (Value.int (187 : Int) 0), (Value.str (Str.ofString "/claim/cut.py") 622)])) (List.toArray []))),
  ((nat_lit 246), (Obj.mk (Value.type "function") Option.none (Data.func (FuncData.mk (Str.ofString "setdefault") (Str.ofString "Headers.setdefault") (stArgs (stIn (st 19) 15)) (FuncBody.stmts (stBody (stIn (st 19) 15))) (stScope (stIn (st 19) 15)) 3 [] Value.none Value.none Value.none (Value.str (Str.ofString "cpy313.wsgiref.headers") 425) Option.none (Value.ref 245) Value.none 0)) (List.toArray []))),
  ((nat_lit 247), (Obj.mk (Value.type "tuple") Option.none (Data.seq (List.toArray []) 0) (List.toArray []))),
  ((nat_lit 249), (Obj.mk (Value.type "tuple") Option.none (Data.seq (List.toArray [(Value.str (Str.ofString "self") 627), (Value.str (Str.ofString "_name") 628), (Value.str (Str.ofString "_value") 629), (Value.str (Str.ofString "_params") 630)]) 0) (List.toArray []))),
  ((nat_lit 250), (Obj.mk (Value.type "tuple") Option.none (Data.seq (List.toArray []) 0) (List.toArray []))),
  ((nat_lit 252), (Obj.mk (Value.type "code") Option.none (Data.fields (List.toArray [(Value.str (Str.ofString "add_header") 624), (Value.str (Str.ofString "Headers.add_header") 625), (Value.str (Str.ofString "/claim/cut.py") 626), (Value.int (190 : Int) 0), (Value.int (3 : Int) 0), (Value.int (0 : Int) 0), (Value.int (0 : Int) 0), (Value.int (11 : Int) 0), (Value.ref 247), (Value.bool Bool.true), (Value.int (276 : Int) 0), (Value.ref 248), Value.none, (Value.ref 249), (Value.ref 250), (Value.ref 251), (Value.int (631 : Int) 0), (Value.int (190 : Int) 0), (Value.str (Str.ofString "/claim/cut.py") 632)])) (List.toArray []))),
  ((nat_lit 253), (Obj.mk (Value.type "function") Option.none (Data.func (FuncData.mk (Str.ofString "add_header") (Str.ofString "Headers.add_header") (stArgs (stIn (st 19) 16)) (FuncBody.stmts (stBody (stIn (st 19) 16))) (stScope (stIn (st 19) 16)) 3 [] Value.none Value.none Value.none (Value.str (Str.ofString "cpy313.wsgiref.headers") 425) Option.none (Value.ref 252) Value.none 0)) (List.toArray []))),
  ((nat_lit 254), (Obj.mk (Value.type "tuple") Option.none (Data.seq (List.toArray [(Value.str (Str.ofString "_headers") 634)]) 0) (List.toArray []))),
  ((nat_lit 255), (Obj.mk (Value.type "dict") Option.none (Data.dict (List.toArray [(DictEntry.mk (PyData.keyHash P (Str.ofString "__module__")) (Value.str (Str.ofString "__module__") 494) (Value.str (Str.ofString "cpy313.wsgiref.headers") 425)), (DictEntry.mk (PyData.keyHash P (Str.ofString "__firstlineno__")) (Value.str (Str.ofString "__firstlineno__") 498) (Value.int (122 : Int) 497)), (DictEntry.mk (PyData.keyHash P (Str.ofString "__init__")) (Value.str (Str.ofString "__init__") 508) (Value.ref 148)), (DictEntry.mk (PyData.keyHash P (Str.ofString "_convert_string_type")) (Value.str (Str.ofString "_convert_string_type") 518) (Value.ref 155)), (DictEntry.mk (PyData.keyHash P (Str.ofString "__len__")) (Value.str (Str.ofString "__len__") 525) (Value.ref 162)), (DictEntry.mk (PyData.keyHash P (Str.ofString "__setitem__")) (Value.str (Str.ofString "__setitem__") 534) (Value.ref 169)), (DictEntry.mk (PyData.keyHash P (Str.ofString "__delitem__")) (Value.str (Str.ofString "__delitem__") 540) (Value.ref 174)), (DictEntry.mk (PyData.keyHash P (Str.ofString "__getitem__")) (Value.str (Str.ofString "__getitem__") 548) (Value.ref 181)), (DictEntry.mk (PyData.keyHash P (Str.ofString "__contains__")) (Value.str (Str.ofString "__contains__") 556) (Value.ref 188)), (DictEntry.mk (PyData.keyHash P (Str.ofString "get_all")) (Value.str (Str.ofString "get_all") 564) (Value.ref 195)), (DictEntry.mk (PyData.keyHash P (Str.ofString "get")) (Value.str (Str.ofString "get") 575) (Value.ref 203)), (DictEntry.mk (PyData.keyHash P (Str.ofString "keys")) (Value.str (Str.ofString "keys") 581) (Value.ref 208)), (DictEntry.mk (PyData.keyHash P (Str.ofString "values")) (Value.str (Str.ofString "values") 587) (Value.ref 213)), (DictEntry.mk (PyData.keyHash P (Str.ofString "items")) (Value.str (Str.ofString "items") 594) (Value.ref 220)), (DictEntry.mk (PyData.keyHash P (Str.ofString "__repr__")) (Value.str (Str.ofString "__repr__") 601) (Value.ref 227)), (DictEntry.mk (PyData.keyHash P (Str.ofString "__str__")) (Value.str (Str.ofString "__str__") 607) (Value.ref 232)), (DictEntry.mk (PyData.keyHash P (Str.ofString "__bytes__")) (Value.str (Str.ofString "__bytes__") 614) (Value.ref 239)), (DictEntry.mk (PyData.keyHash P (Str.ofString "setdefault")) (Value.str (Str.ofString "setdefault") 623) (Value.ref 246)), (DictEntry.mk (PyData.keyHash P (Str.ofString "add_header")) (Value.str (Str.ofString "add_header") 633) (Value.ref 253)), (DictEntry.mk (PyData.keyHash P (Str.ofString "__static_attributes__")) (Value.str (Str.ofString "__static_attributes__") 635) (Value.ref 254)), (DictEntry.mk (PyData.keyHash P (Str.ofString "__dict__")) (Value.str (Str.ofString "__dict__") 637) (Value.ref 257)), (DictEntry.mk (PyData.keyHash P (Str.ofString "__weakref__")) (Value.str (Str.ofString "__weakref__") 639) (Value.ref 258)), (DictEntry.mk (PyData.keyHash P (Str.ofString "__doc__")) (Value.str (Str.ofString "__doc__") 640) Value.none)]) 4) (List.toArray []))),
  ((nat_lit 256), (Obj.mk (Value.type "type") Option.none (Data.cls (ClassData.mk (Str.ofString "Headers") [(Value.type "object")] [(Value.ref 256), (Value.type "object")] 255 (Str.ofString "Headers") Bool.true [] [] Bool.false Option.none Bool.false)) (List.toArray [Option.none, Option.none, (some (Value.str (Str.ofString "Headers") 487)), (some (Value.str (Str.ofString "Headers") 495)), (some (Value.builtin "object.__new__")), (some (Value.bool Bool.true))]))),
  ((nat_lit 257), (Obj.mk (Value.type "getset_descriptor") Option.none (Data.fields (List.toArray [(Value.str (Str.ofString "__dict__") 636), (Value.ref 256), (Value.builtin "function.__dict__"), (Value.builtin "function.__dict__#set")])) (List.toArray []))),
  ((nat_lit 258), (Obj.mk (Value.type "getset_descriptor") Option.none (Data.fields (List.toArray [(Value.str (Str.ofString "__weakref__") 638), (Value.ref 256), (Value.builtin "ExceptionGroup.__weakref__"), Value.none])) (List.toArray []))),
  ((nat_lit 261), (Obj.mk (Value.type "tuple") Option.none (Data.seq (List.toArray []) 0) (List.toArray []))),
  ((nat_lit 263), (Obj.mk (Value.type "tuple") Option.none (Data.seq (List.toArray [(Value.str (Str.ofString "script") 648), (Value.str (Str.ofString "place") 649), (Value.str (Str.ofString "fixed") 650), (Value.str (Str.ofString "x") 651), (Value.str (Str.ofString "more") 652), (Value.str (Str.ofString "white") 653), (Value.str (Str.ofString "left") 654)]) 0) (List.toArray []))),
  ((nat_lit 264), (Obj.mk (Value.type "tuple") Option.none (Data.seq (List.toArray []) 0) (List.toArray []))),
  ((nat_lit 266), (Obj.mk (Value.type "code") Option.none (Data.fields (List.toArray [(Value.str (Str.ofString "_law_colour") 645), (Value.str (Str.ofString "_law_colour") 646), (Value.str (Str.ofString "/claim/cut.py") 647), (Value.int (193 : Int) 0), (Value.int (2 : Int) 0), (Value.int (0 : Int) 0), (Value.int (0 : Int) 0), (Value.int (3 : Int) 0), (Value.ref 261), (Value.bool Bool.true), (Value.int (276 : Int) 0), (Value.ref 262), Value.none, (Value.ref 263), (Value.ref 264), (Value.ref 265), (Value.int (655 : Int) 0), (Value.int (193 : Int) 0), (Value.str (Str.ofString "/claim/cut.py") 656)])) (List.toArray []))),
  ((nat_lit 267), (Obj.mk (Value.type "function") Option.none (Data.func (FuncData.mk (Str.ofString "_law_colour") (Str.ofString "_law_colour") (stArgs (st 21)) (FuncBody.stmts (stBody (st 21))) (stScope (st 21)) 3 [] Value.none Value.none Value.none (Value.str (Str.ofString "law_ty0052_01") 643) Option.none (Value.ref 266) Value.none 0)) (List.toArray []))),
  ((nat_lit 268), (Obj.mk (Value.type "tuple") Option.none (Data.seq (List.toArray []) 0) (List.toArray []))),
  ((nat_lit 270), (Obj.mk (Value.type "tuple") Option.none (Data.seq (List.toArray [(Value.str (Str.ofString "least") 661), (Value.str (Str.ofString "above") 662), (Value.str (Str.ofString "half") 663)]) 0) (List.toArray []))),
  ((nat_lit 271), (Obj.mk (Value.type "tuple") Option.none (Data.seq (List.toArray []) 0) (List.toArray []))),
  ((nat_lit 273), (Obj.mk (Value.type "code") Option.none (Data.fields (List.toArray [(Value.str (Str.ofString "_law_worth") 658), (Value.str (Str.ofString "_law_worth") 659), (Value.str (Str.ofString "/claim/cut.py") 660), (Value.int (199 : Int) 0), (Value.int (2 : Int) 0), (Value.int (0 : Int) 0), (Value.int (0 : Int) 0), (Value.int (3 : Int) 0), (Value.ref 268), (Value.bool Bool.true), (Value.int (276 : Int) 0), (Value.ref 269), Value.none, (Value.ref 270), (Value.ref 271), (Value.ref 272), (Value.int (664 : Int) 0), (Value.int (199 : Int) 0), (Value.str (Str.ofString "/claim/cut.py") 665)])) (List.toArray []))),
  ((nat_lit 274), (Obj.mk (Value.type "function") Option.none (Data.func (FuncData.mk (Str.ofString "_law_worth") (Str.ofString "_law_worth") (stArgs (st 22)) (FuncBody.stmts (stBody (st 22))) (stScope (st 22)) 3 [] Value.none Value.none Value.none (Value.str (Str.ofString "law_ty0052_01") 643) Option.none (Value.ref 273) Value.none 0)) (List.toArray []))),
  ((nat_lit 275), (Obj.mk (Value.type "tuple") Option.none (Data.seq (List.toArray []) 0) (List.toArray []))),
  ((nat_lit 278), (Obj.mk (Value.type "code") Option.none (Data.fields (List.toArray [(Value.str (Str.ofString "_law_parts") 667), (Value.str (Str.ofString "_law_parts") 668), (Value.str (Str.ofString "/claim/cut.py") 669), (Value.int (204 : Int) 0), (Value.int (2 : Int) 0), (Value.int (0 : Int) 0), (Value.int (0 : Int) 0), (Value.int (3 : Int) 0), (Value.ref 275), (Value.bool Bool.true), (Value.int (276 : Int) 0), (Value.ref 276), Value.none, Value.none, Value.none, (Value.ref 277), (Value.int (670 : Int) 0), (Value.int (204 : Int) 0), (Value.str (Str.ofString "/claim/cut.py") 671)])) (List.toArray []))),
  ((nat_lit 279), (Obj.mk (Value.type "function") Option.none (Data.func (FuncData.mk (Str.ofString "_law_parts") (Str.ofString "_law_parts") (stArgs (st 23)) (FuncBody.stmts (stBody (st 23))) (stScope (st 23)) 3 [] Value.none Value.none Value.none (Value.str (Str.ofString "law_ty0052_01") 643) Option.none (Value.ref 278) Value.none 0)) (List.toArray []))),
  ((nat_lit 280), (Obj.mk (Value.type "tuple") Option.none (Data.seq (List.toArray []) 0) (List.toArray []))),
  ((nat_lit 283), (Obj.mk (Value.type "code") Option.none (Data.fields (List.toArray [(Value.str (Str.ofString "_law_retold") 673), (Value.str (Str.ofString "_law_retold") 674), (Value.str (Str.ofString "/claim/cut.py") 675), (Value.int (209 : Int) 0), (Value.int (3 : Int) 0), (Value.int (0 : Int) 0), (Value.int (0 : Int) 0), (Value.int (3 : Int) 0), (Value.ref 280), (Value.bool Bool.true), (Value.int (276 : Int) 0), (Value.ref 281), Value.none, Value.none, Value.none, (Value.ref 282), (Value.int (676 : Int) 0), (Value.int (209 : Int) 0), (Value.str (Str.ofString "/claim/cut.py") 677)])) (List.toArray []))),
  ((nat_lit 284), (Obj.mk (Value.type "function") Option.none (Data.func (FuncData.mk (Str.ofString "_law_retold") (Str.ofString "_law_retold") (stArgs (st 24)) (FuncBody.stmts (stBody (st 24))) (stScope (st 24)) 3 [] Value.none Value.none Value.none (Value.str (Str.ofString "law_ty0052_01") 643) Option.none (Value.ref 283) Value.none 0)) (List.toArray []))),
  ((nat_lit 285), (Obj.mk (Value.type "tuple") Option.none (Data.seq (List.toArray []) 0) (List.toArray []))),
  ((nat_lit 288), (Obj.mk (Value.type "code") Option.none (Data.fields (List.toArray [(Value.str (Str.ofString "_law_lay") 679), (Value.str (Str.ofString "_law_lay") 680), (Value.str (Str.ofString "/claim/cut.py") 681), (Value.int (219 : Int) 0), (Value.int (5 : Int) 0), (Value.int (0 : Int) 0), (Value.int (0 : Int) 0), (Value.int (3 : Int) 0), (Value.ref 285), (Value.bool Bool.true), (Value.int (276 : Int) 0), (Value.ref 286), Value.none, Value.none, Value.none, (Value.ref 287), (Value.int (682 : Int) 0), (Value.int (219 : Int) 0), (Value.str (Str.ofString "/claim/cut.py") 683)])) (List.toArray []))),
  ((nat_lit 289), (Obj.mk (Value.type "function") Option.none (Data.func (FuncData.mk (Str.ofString "_law_lay") (Str.ofString "_law_lay") (stArgs (st 25)) (FuncBody.stmts (stBody (st 25))) (stScope (st 25)) 3 [] Value.none Value.none Value.none (Value.str (Str.ofString "law_ty0052_01") 643) Option.none (Value.ref 288) Value.none 0)) (List.toArray []))),
  ((nat_lit 290), (Obj.mk (Value.type "tuple") Option.none (Data.seq (List.toArray []) 0) (List.toArray []))),
  ((nat_lit 293), (Obj.mk (Value.type "code") Option.none (Data.fields (List.toArray [(Value.str (Str.ofString "_law_as_told") 685), (Value.str (Str.ofString "_law_as_told") 686), (Value.str (Str.ofString "/claim/cut.py") 687), (Value.int (230 : Int) 0), (Value.int (3 : Int) 0), (Value.int (0 : Int) 0), (Value.int (0 : Int) 0), (Value.int (3 : Int) 0), (Value.ref 290), (Value.bool Bool.true), (Value.int (276 : Int) 0), (Value.ref 291), Value.none, Value.none, Value.none, (Value.ref 292), (Value.int (688 : Int) 0), (Value.int (230 : Int) 0), (Value.str (Str.ofString "/claim/cut.py") 689)])) (List.toArray []))),
  ((nat_lit 294), (Obj.mk (Value.type "function") Option.none (Data.func (FuncData.mk (Str.ofString "_law_as_told") (Str.ofString "_law_as_told") (stArgs (st 26)) (FuncBody.stmts (stBody (st 26))) (stScope (st 26)) 3 [] Value.none Value.none Value.none (Value.str (Str.ofString "law_ty0052_01") 643) Option.none (Value.ref 293) Value.none 0)) (List.toArray []))),
  ((nat_lit 295), (Obj.mk (Value.type "tuple") Option.none (Data.seq (List.toArray []) 0) (List.toArray []))),
  ((nat_lit 298), (Obj.mk (Value.type "code") Option.none (Data.fields (List.toArray [(Value.str (Str.ofString "_law_fair") 691), (Value.str (Str.ofString "_law_fair") 692), (Value.str (Str.ofString "/claim/cut.py") 693), (Value.int (236 : Int) 0), (Value.int (2 : Int) 0), (Value.int (0 : Int) 0), (Value.int (0 : Int) 0), (Value.int (3 : Int) 0), (Value.ref 295), (Value.bool Bool.true), (Value.int (276 : Int) 0), (Value.ref 296), Value.none, Value.none, Value.none, (Value.ref 297), (Value.int (694 : Int) 0), (Value.int (236 : Int) 0), (Value.str (Str.ofString "/claim/cut.py") 695)])) (List.toArray []))),
  ((nat_lit 299), (Obj.mk (Value.type "function") Option.none (Data.func (FuncData.mk (Str.ofString "_law_fair") (Str.ofString "_law_fair") (stArgs (st 27)) (FuncBody.stmts (stBody (st 27))) (stScope (st 27)) 3 [] Value.none Value.none Value.none (Value.str (Str.ofString "law_ty0052_01") 643) Option.none (Value.ref 298) Value.none 0)) (List.toArray []))),
  ((nat_lit 300), (Obj.mk (Value.type "tuple") Option.none (Data.seq (List.toArray []) 0) (List.toArray []))),
  ((nat_lit 303), (Obj.mk (Value.type "code") Option.none (Data.fields (List.toArray [(Value.str (Str.ofString "_law_other") 697), (Value.str (Str.ofString "_law_other") 698), (Value.str (Str.ofString "/claim/cut.py") 699), (Value.int (239 : Int) 0), (Value.int (2 : Int) 0), (Value.int (0 : Int) 0), (Value.int (0 : Int) 0), (Value.int (3 : Int) 0), (Value.ref 300), (Value.bool Bool.true), (Value.int (276 : Int) 0), (Value.ref 301), Value.none, Value.none, Value.none, (Value.ref 302), (Value.int (700 : Int) 0), (Value.int (239 : Int) 0), (Value.str (Str.ofString "/claim/cut.py") 701)])) (List.toArray []))),
  ((nat_lit 304), (Obj.mk (Value.type "function") Option.none (Data.func (FuncData.mk (Str.ofString "_law_other") (Str.ofString "_law_other") (stArgs (st 28)) (FuncBody.stmts (stBody (st 28))) (stScope (st 28)) 3 [] Value.none Value.none Value.none (Value.str (Str.ofString "law_ty0052_01") 643) Option.none (Value.ref 303) Value.none 0)) (List.toArray []))),
  ((nat_lit 305), (Obj.mk (Value.type "tuple") Option.none (Data.seq (List.toArray []) 0) (List.toArray []))),
  ((nat_lit 308), (Obj.mk (Value.type "code") Option.none (Data.fields (List.toArray [(Value.str (Str.ofString "_law_answer") 703), (Value.str (Str.ofString "_law_answer") 704), (Value.str (Str.ofString "/claim/cut.py") 705), (Value.int (246 : Int) 0), (Value.int (2 : Int) 0), (Value.int (0 : Int) 0), (Value.int (0 : Int) 0), (Value.int (3 : Int) 0), (Value.ref 305), (Value.bool Bool.true), (Value.int (276 : Int) 0), (Value.ref 306), Value.none, Value.none, Value.none, (Value.ref 307), (Value.int (706 : Int) 0), (Value.int (246 : Int) 0), (Value.str (Str.ofString "/claim/cut.py") 707)])) (List.toArray []))),
  ((nat_lit 309), (Obj.mk (Value.type "function") Option.none (Data.func (FuncData.mk (Str.ofString "_law_answer") (Str.ofString "_law_answer") (stArgs (st 29)) (FuncBody.stmts (stBody (st 29))) (stScope (st 29)) 3 [] Value.none Value.none Value.none (Value.str (Str.ofString "law_ty0052_01") 643) Option.none (Value.ref 308) Value.none 0)) (List.toArray []))),
  ((nat_lit 310), (Obj.mk (Value.type "tuple") Option.none (Data.seq (List.toArray []) 0) (List.toArray []))),
  ((nat_lit 313), (Obj.mk (Value.type "code") Option.none (Data.fields (List.toArray [(Value.str (Str.ofString "law") 709), (Value.str (Str.ofString "law") 710), (Value.str (Str.ofString "/claim/cut.py") 711), (Value.int (267 : Int) 0), (Value.int (1 : Int) 0), (Value.int (0 : Int) 0), (Value.int (0 : Int) 0), (Value.int (3 : Int) 0), (Value.ref 310), (Value.bool Bool.true), (Value.int (276 : Int) 0), (Value.ref 311), Value.none, Value.none, Value.none, (Value.ref 312), (Value.int (712 : Int) 0), (Value.int (267 : Int) 0), (Value.str (Str.ofString "/claim/cut.py") 713)])) (List.toArray []))),
  ((nat_lit 314), (Obj.mk (Value.type "function") Option.none (Data.func (FuncData.mk (Str.ofString "law") (Str.ofString "law") (stArgs (st 30)) (FuncBody.stmts (stBody (st 30))) (stScope (st 30)) 3 [] Value.none Value.none Value.none (Value.str (Str.ofString "law_ty0052_01") 643) Option.none (Value.ref 313) Value.none 0)) (List.toArray [])))]
noncomputable def hd.addrs : List Addr := [nat_lit 2, nat_lit 3, nat_lit 32, nat_lit 34, nat_lit 35, nat_lit 37, nat_lit 38, nat_lit 39, nat_lit 41, nat_lit 42, nat_lit 44, nat_lit 45, nat_lit 46, nat_lit 48, nat_lit 49, nat_lit 51, nat_lit 52, nat_lit 53, nat_lit 55, nat_lit 56, nat_lit 58, nat_lit 59, nat_lit 60, nat_lit 62, nat_lit 63, nat_lit 65, nat_lit 66, nat_lit 67, nat_lit 69, nat_lit 70, nat_lit 72, nat_lit 73, nat_lit 74, nat_lit 76, nat_lit 77, nat_lit 79, nat_lit 80, nat_lit 81, nat_lit 83, nat_lit 84, nat_lit 86, nat_lit 87, nat_lit 88, nat_lit 90, nat_lit 91, nat_lit 93, nat_lit 94, nat_lit 95, nat_lit 97, nat_lit 98, nat_lit 100, nat_lit 101, nat_lit 102, nat_lit 104, nat_lit 105, nat_lit 107, nat_lit 108, nat_lit 109, nat_lit 111, nat_lit 112, nat_lit 114, nat_lit 115, nat_lit 116, nat_lit 117, nat_lit 119, nat_lit 120, nat_lit 122, nat_lit 123, nat_lit 127, nat_lit 128, nat_lit 132, nat_lit 133, nat_lit 141, nat_lit 142, nat_lit 144, nat_lit 145, nat_lit 147, nat_lit 148, nat_lit 149, nat_lit 151, nat_lit 152, nat_lit 154, nat_lit 155, nat_lit 156, nat_lit 158, nat_lit 159, nat_lit 161, nat_lit 162, nat_lit 163, nat_lit 165, nat_lit 166, nat_lit 168, nat_lit 169, nat_lit 170, nat_lit 173, nat_lit 174, nat_lit 175, nat_lit 177, nat_lit 178, nat_lit 180, nat_lit 181, nat_lit 182, nat_lit 184, nat_lit 185, nat_lit 187, nat_lit 188, nat_lit 189, nat_lit 191, nat_lit 192, nat_lit 194, nat_lit 195, nat_lit 196, nat_lit 197, nat_lit 199, nat_lit 200, nat_lit 202, nat_lit 203, nat_lit 204, nat_lit 207, nat_lit 208, nat_lit 209, nat_lit 212, nat_lit 213, nat_lit 214, nat_lit 216, nat_lit 217, nat_lit 219, nat_lit 220, nat_lit 221, nat_lit 223, nat_lit 224, nat_lit 226, nat_lit 227, nat_lit 228, nat_lit 231, nat_lit 232, nat_lit 233, nat_lit 235, nat_lit 236, nat_lit 238, nat_lit 239, nat_lit 240, nat_lit 242, nat_lit 243, nat_lit 245, nat_lit 246, nat_lit 247, nat_lit 249, nat_lit 250, nat_lit 252, nat_lit 253, nat_lit 254, nat_lit 255, nat_lit 256, nat_lit 257, nat_lit 258, nat_lit 261, nat_lit 263, nat_lit 264, nat_lit 266, nat_lit 267, nat_lit 268, nat_lit 270, nat_lit 271, nat_lit 273, nat_lit 274, nat_lit 275, nat_lit 278, nat_lit 279, nat_lit 280, nat_lit 283, nat_lit 284, nat_lit 285, nat_lit 288, nat_lit 289, nat_lit 290, nat_lit 293, nat_lit 294, nat_lit 295, nat_lit 298, nat_lit 299, nat_lit 300, nat_lit 303, nat_lit 304, nat_lit 305, nat_lit 308, nat_lit 309, nat_lit 310, nat_lit 313, nat_lit 314]

noncomputable def hd.view : Program := { PySem.Challenge.pw_ty0052_01 with main := { PySem.Challenge.pw_ty0052_01.main with body := [st 0, st 1, st 3, st 4, st 5, st 7, st 8, st 9, st 10, st 11, st 12, st 13, st 14, st 17, st 18, st 19, st 21, st 22, st 23, st 24, st 25, st 26, st 27, st 28, st 29, st 30] } }
noncomputable def hd.loose : List Str := [Str.ofString "length_hint", Str.ofString "_name_disallowed_re", Str.ofString "_value_disallowed_re"]
noncomputable def hd.hook : Hook := kmHook hd.heap_39 hd.addrs (fun _ => by kernel_rfl) [306]
noncomputable def hd.lawDef : DefRec := ⟨Str.ofString "law", stArgs (st 30), stBody (st 30), stScope (st 30), stPos (st 30)⟩
/-! the head: the library's own quick forms of the machine run the top -/
noncomputable def hd.from (p : Program) (w : World) (N : Nat) (s₀ : Shared) : Option Shared := match s₀.heap.isNs mainGlobals && s₀.gens.size == 0 with
  | true => (Fast.tw14082659384304107361 Fast.tw14364793385576792824 p w s₀.heap.objs.size (s₀.heap.nsMap mainGlobals "__annotations__") N s₀ (topStub p)).bind fun s₁ => match staticsOk (importedModules p.main.body) s₀.heap s₁.heap && namesBound p s₁.heap && gensDone s₁ && laidKept s₀.heap s₁.heap with
    | true => some s₁
    | false => none
  | false => none
theorem hd.from_eq (p : Program) (w : World) (N : Nat) : topFrom treeTable p w N = hd.from p w N := by
  funext s₀
  unfold topFrom hd.from
  rw [← Fast.te14082659384304107361, ← Fast.te14364793385576792824]
  rfl
theorem hd.ends_eq (p : Program) (w : World) (N : Nat) : openEnds treeTable p w N = ((Fast.tw10274390034422433532 Fast.tw14364793385576792824 (opening p) w N (start (opening p)).1 (start (opening p)).2).bind (Fast.tw14289696077712309145 p)).bind (hd.from p w N) := by
  unfold openEnds fencedOpening
  rw [hd.from_eq, ← Fast.te10274390034422433532, ← Fast.te14364793385576792824, ← Fast.te14289696077712309145]
theorem left_of {p q : Program} {loose : List Str} {Xt : Shared → Bool} {α : Type} {Yf : Shared → α} {Ya : World → α} {N : Nat}
    (h : ∀ w : World, (((Fast.tw10274390034422433532 Fast.tw14364793385576792824 (opening p) w N (start (opening p)).1 (start (opening p)).2).bind (Fast.tw14289696077712309145 p)).bind (hd.from p w N)).map (fun s => (Fast.tw4187177175401517315 q loose (importedModules p.main.body) Xt true s, Yf s)) = some (openGood q loose, Ya w)) : LeftO p q loose Xt Yf Ya N := fun w => by
  have e := h w
  rw [← hd.ends_eq, ← Fast.te4187177175401517315] at e
  exact e
theorem hd.run (w : World) : (((Fast.tw10274390034422433532 Fast.tw14364793385576792824 (opening PySem.Challenge.pw_ty0052_01) w 3344 (start (opening PySem.Challenge.pw_ty0052_01)).1 (start (opening PySem.Challenge.pw_ty0052_01)).2).bind (Fast.tw14289696077712309145 PySem.Challenge.pw_ty0052_01)).bind (hd.from PySem.Challenge.pw_ty0052_01 w 3344)).map (fun s => (Fast.tw4187177175401517315 hd.view hd.loose (importedModules PySem.Challenge.pw_ty0052_01.main.body) (fun s => xlAt hd.view [] s && recOk PySem.Challenge.rw_ty0052_01.row.toRowW.records s) true s, hd.hook.obs s)) = some (openGood hd.view hd.loose, hd.hook.val w) := by kernel_rfl
theorem hd.left : LeftO PySem.Challenge.pw_ty0052_01 hd.view hd.loose (fun s => xlAt hd.view [] s && recOk PySem.Challenge.rw_ty0052_01.row.toRowW.records s) hd.hook.obs hd.hook.val 3344 := left_of hd.run
theorem hd.said : PySem.Challenge.rw_ty0052_01.wellSaid = true := by
  unfold OpenLaw.wellSaid OpenRow.wellSaid OpenRow.partSaid looksOpen
  repeat' with_reducible refine look_both ?_ ?_
  all_goals decide +kernel
theorem hd (walk : WalkO hd.view hd.loose (XL hd.view []) hd.hook.says PySem.Challenge.rw_ty0052_01.row.toRowW hd.lawDef [] fun f vs => PySem.call f vs) : PySem.Challenge.rw_ty0052_01.Holds :=
  holds_law hd.said fun said => holds_open (r := PySem.Challenge.rw_ty0052_01.row) (q := hd.view) (loose := hd.loose) (Xt := fun s => xlAt hd.view [] s && recOk PySem.Challenge.rw_ty0052_01.row.toRowW.records s) (XP := XL hd.view []) (Yf := hd.hook.obs) (Ya := hd.hook.val) (YP := hd.hook.says) (d := hd.lawDef) (kwd := []) (N := 3344)
    hd.left hd.hook.of hd.hook.keeps (fun s e => xl_of s (Bool.and_eq_true_iff.mp e).1) XL.keeps (by kernel_rfl) (by kernel_rfl) (by kernel_rfl) (fun s e => recFacts_of (Bool.and_eq_true_iff.mp e).2) (by kernel_rfl) said (by decide +kernel) ⟨rfl, rfl, rfl, rfl, rfl, by decide +kernel⟩
    ⟨[.list []], by decide +kernel, by decide +kernel⟩ walk
end Mine
end

section
open PySem PyProof.Rows
set_option Elab.async false
set_option linter.unusedVariables false
namespace Mine
set_option maxRecDepth 100000

/-- plain data that the law's own code handles -/
inductive D where
  | none
  | bool (b : Bool)
  | int (i : Int)
  | flt (x : UInt64)
  | str (x : Str)
  | list (l : List D)
  | arg (l : List D)
  | tup (l : List D)
  | ref (a : Addr)
  | cst (v : Value)

mutual
noncomputable def Rep (H : List Addr) (h : Heap) : D → Value → Prop
  | .none, v => v = .none
  | .bool b, v => v = .bool b
  | .int i, v => ∃ t, v = .int i t
  | .flt x, v => ∃ t, v = .float x t
  | .str x, v => ∃ t, v = .str x t
  | .list l, v => ∃ a vs, v = .ref a ∧ a ∉ H ∧ h.PlainList a (List.toArray vs) ∧ Reps H h l vs
  | .arg l, v => ∃ a vs, v = .ref a ∧ a ∉ H ∧ h.IsList a (List.toArray vs) ∧ Reps H h l vs
  | .tup l, v => ∃ a vs, v = .ref a ∧ IsTup h a (List.toArray vs) ∧ Reps H h l vs
  | .ref a, v => v = .ref a
  | .cst u, v => v = u
noncomputable def Reps (H : List Addr) (h : Heap) : List D → List Value → Prop
  | [], vs => vs = []
  | d :: ds, vs => ∃ v vs', vs = v :: vs' ∧ Rep H h d v ∧ Reps H h ds vs'
end

mutual
theorem Rep.mono {H : List Addr} {h h' : Heap} (k : ∀ b o its n, b ∉ H → o.data = .seq its n → h.get? b = some o → h'.get? b = some o)
    (kt : ∀ b o its n, o.cls = .type "tuple" → o.data = .seq its n → h.get? b = some o → h'.get? b = some o) : ∀ {d : D} {v : Value}, Rep H h d v → Rep H h' d v
  | .none, _, r => r
  | .bool _, _, r => r
  | .int _, _, r => r
  | .flt _, _, r => r
  | .str _, _, r => r
  | .list l, v, r => by
    unfold Rep at r ⊢
    obtain ⟨a, vs, e, ne, ⟨n, ho⟩, hr⟩ := r
    exact ⟨a, vs, e, ne, ⟨n, k a _ _ n ne rfl ho⟩, Reps.mono k kt hr⟩
  | .arg l, v, r => by
    unfold Rep at r ⊢
    obtain ⟨a, vs, e, ne, ⟨o, ho, hc, n, hd⟩, hr⟩ := r
    exact ⟨a, vs, e, ne, ⟨o, k a o _ n ne hd ho, hc, n, hd⟩, Reps.mono k kt hr⟩
  | .tup l, v, r => by
    unfold Rep at r ⊢
    obtain ⟨a, vs, e, ⟨o, ho, hc, n, hd⟩, hr⟩ := r
    exact ⟨a, vs, e, ⟨o, kt a o _ n hc hd ho, hc, n, hd⟩, Reps.mono k kt hr⟩
  | .ref _, _, r => r
  | .cst _, _, r => r
theorem Reps.mono {H : List Addr} {h h' : Heap} (k : ∀ b o its n, b ∉ H → o.data = .seq its n → h.get? b = some o → h'.get? b = some o)
    (kt : ∀ b o its n, o.cls = .type "tuple" → o.data = .seq its n → h.get? b = some o → h'.get? b = some o) : ∀ {ds : List D} {vs : List Value}, Reps H h ds vs → Reps H h' ds vs
  | [], _, r => r
  | d :: ds, vs, r => by
    unfold Reps at r ⊢
    obtain ⟨v, vs', e, r1, r2⟩ := r
    exact ⟨v, vs', e, Rep.mono k kt r1, Reps.mono k kt r2⟩
end
theorem Rep.keep {H : List Addr} {h h' : Heap} (k : ∀ b o, h.get? b = some o → h'.get? b = some o) {d : D} {v : Value} (r : Rep H h d v) : Rep H h' d v :=
  Rep.mono (fun b o _ _ _ _ e => k b o e) (fun b o _ _ _ _ e => k b o e) r
theorem Reps.keep {H : List Addr} {h h' : Heap} (k : ∀ b o, h.get? b = some o → h'.get? b = some o) {d : List D} {v : List Value} (r : Reps H h d v) : Reps H h' d v :=
  Reps.mono (fun b o _ _ _ _ e => k b o e) (fun b o _ _ _ _ e => k b o e) r

theorem Reps.length {H : List Addr} {h : Heap} : ∀ {ds : List D} {vs : List Value}, Reps H h ds vs → vs.length = ds.length
  | [], _, r => by unfold Reps at r; rw [r]; rfl
  | d :: ds, vs, r => by
    unfold Reps at r
    obtain ⟨v, vs', rfl, _, r2⟩ := r
    simp [Reps.length r2]
theorem Reps.get {H : List Addr} {h : Heap} : ∀ {ds : List D} {vs : List Value}, Reps H h ds vs → ∀ {i : Nat} {d : D}, ds[i]? = some d → ∃ v, vs[i]? = some v ∧ Rep H h d v
  | [], _, _, _, _, e => by cases e
  | d :: ds, vs, r, i, x, e => by
    unfold Reps at r
    obtain ⟨v, vs', rfl, r1, r2⟩ := r
    cases i with
    | zero => cases e; exact ⟨v, rfl, r1⟩
    | succ i => exact Reps.get r2 (by simpa using e)
theorem Reps.append {H : List Addr} {h : Heap} : ∀ {ds es : List D} {vs us : List Value}, Reps H h ds vs → Reps H h es us → Reps H h (ds ++ es) (vs ++ us)
  | [], _, _, _, r, r' => by unfold Reps at r; rw [r]; exact r'
  | d :: ds, es, vs, us, r, r' => by
    unfold Reps at r
    obtain ⟨v, vs', rfl, r1, r2⟩ := r
    show Reps H h (d :: (ds ++ es)) (v :: (vs' ++ us))
    unfold Reps
    exact ⟨v, _, rfl, r1, Reps.append r2 r'⟩

/-- an object that no frame writes to -/
noncomputable def Hard (o : Obj) (its : Array Value) (n : Nat) : Prop := o.data = .seq its n ∨ (o.data = .fields its ∧ (o.cls = .type "code" ∨ o.cls = .none))
/-- what stands fixed: the program, the world, the heap at the call's start, the lists that are written to, what is known of them -/
structure Glo where
  prog : Program
  w : World
  hB : Heap
  H : List Addr
  F : List Addr
  inv : Heap → Prop
  invs : ∀ h h' : Heap, (∀ a ∈ F, ∀ o, h.get? a = some o → h'.get? a = some o) → (∀ b o its n, o.data = .seq its n → h.get? b = some o → h'.get? b = some o) → (∀ b o vs, o.data = .fields vs ∧ (o.cls = .type "code" ∨ o.cls = .none) → h.get? b = some o → h'.get? b = some o) → inv h → inv h'
theorem Glo.invk (G : Glo) (h h' : Heap) (k : ∀ b o, h.get? b = some o → h'.get? b = some o) (i : G.inv h) : G.inv h' := G.invs h h' (fun a _ o e => k a o e) (fun b o _ _ _ e => k b o e) (fun b o _ _ e => k b o e) i

/-- the table as it lies -/
structure TabAt (T TD L : Addr) (H : List Addr) (rows : List D) (h : Heap) : Prop where
  inst : h.get? T = some ⟨.ref 256, some TD, .plain, #[]⟩
  dict : ∃ hs tk n, h.get? TD = some { cls := .type "dict", data := .dict #[⟨hs, .str (Str.ofString "_headers") tk, .ref L⟩] n }
  list : ∃ vs n, h.get? L = some { cls := .type "list", data := .seq (List.toArray vs) n } ∧ Reps H h rows vs
theorem TabAt.keep {T TD L : Addr} {H : List Addr} {rows : List D} {h h' : Heap} (k : ∀ b o, h.get? b = some o → h'.get? b = some o) (t : TabAt T TD L H rows h) : TabAt T TD L H rows h' := by
  obtain ⟨a, ⟨hs, tk, n, b⟩, vs, m, c, d⟩ := t
  exact ⟨k _ _ a, ⟨hs, tk, n, k _ _ b⟩, vs, m, k _ _ c, d.keep k⟩

theorem kp_refl (s : Shared) : Keeps s s := ⟨s.heap, s.toks, rfl, fun _ _ e => e⟩
theorem kp_tok (s : Shared) (n : Nat) : Keeps s { s with toks := n } := ⟨s.heap, n, rfl, fun _ _ e => e⟩
theorem kp_trans {s s' s'' : Shared} (a : Keeps s s') (b : Keeps s' s'') : Keeps s s'' := by
  obtain ⟨h', tk, rfl, k⟩ := a
  obtain ⟨h'', tk', rfl, k'⟩ := b
  exact ⟨h'', tk', rfl, fun b o e => k' b o (k b o e)⟩
theorem kp_keep {s s' : Shared} (a : Keeps s s') : ∀ b o, s.heap.get? b = some o → s'.heap.get? b = some o := by
  obtain ⟨h', tk, rfl, k⟩ := a
  exact k
theorem kp_push (s : Shared) (o : Obj) (n : Nat) : Keeps s { s with heap := s.heap.push o, toks := n } := ⟨_, n, rfl, fun _ _ e => Heap.get?_push_of_some _ e⟩

structure At (G : Glo) (s : Shared) : Prop where
  keep : ∀ b o, G.hB.get? b = some o → s.heap.get? b = some o
  live : ∀ a ∈ G.H, ∃ o, s.heap.get? a = some o
  fl : ∀ a ∈ G.F, ∃ o, s.heap.get? a = some o
  inv : G.inv s.heap
/-- the ground below a frame -/
structure Bs (G : Glo) (s : Shared) : Prop where
  keep : ∀ b o, G.hB.get? b = some o → s.heap.get? b = some o
theorem At.bs {G : Glo} {s : Shared} (a : At G s) : Bs G s := ⟨a.keep⟩

theorem At.of {G : Glo} {s s' : Shared} (a : At G s) (k : Keeps s s') : At G s' := by
  obtain ⟨h', tk, rfl, kk⟩ := k
  exact ⟨fun b o e => kk b o (a.keep b o e), fun b hb => (a.live b hb).imp fun o e => kk _ _ e, fun b hb => (a.fl b hb).imp fun o e => kk _ _ e, G.invk _ _ kk a.inv⟩
theorem At.fresh {G : Glo} {s : Shared} (a : At G s) : s.heap.objs.size ∉ G.H := fun hm => by
  obtain ⟨o, e⟩ := a.live _ hm
  exact Nat.lt_irrefl _ (Heap.lt_size e)

structure Room (A : Around) (k : Nat) : Prop where
  handled : A.handled = none
  depth : A.depth + k < recursionLimit
  units : A.units + 10 * k + 100 < cLine
theorem Room.le {A : Around} {k j : Nat} (r : Room A k) (h : j ≤ k) : Room A j := ⟨r.handled, by have := r.depth; lia, by have := r.units; lia⟩
theorem Room.deeper {A : Around} {k : Nat} (env : Env) (r : Room A (k + 1)) : Room (A.deeper env) k :=
  ⟨r.handled, by show A.depth + 1 + k < _; have := r.depth; lia, by show A.units + 3 + 10 * k + 100 < _; have := r.units; lia⟩
theorem Room.d {A : Around} {k : Nat} (r : Room A k) : A.depth < recursionLimit := by have := r.depth; lia
theorem Room.u {A : Around} {k : Nat} (r : Room A k) : A.units < cLine := by have := r.units; lia

/-- the name x is seen to hold v -/
noncomputable def Sees (h : Heap) (env : Env) (x : Str) (v : Value) : Prop :=
  (env.kindOf x = some .local ∧ ∃ m, h.Ns env.locals m ∧ m x = some v) ∨ (env.kindOf x = some .cell ∧ ∃ c, env.cells.lookup x = some c ∧ h.IsCell c (some v)) ∨
    (env.kindOf x = some .free ∧ (x == ("__classdict__" : Str)) = false ∧ ∃ c, env.cells.lookup x = some c ∧ h.IsCell c (some v))
theorem Sees.keep {h h' : Heap} (k : ∀ b o, h.get? b = some o → h'.get? b = some o) {env : Env} {x : Str} {v : Value} (r : Sees h env x v) : Sees h' env x v := by
  rcases r with ⟨a, m, n, e⟩ | ⟨a, c, e, i⟩ | ⟨a, b, c, e, i⟩
  · exact .inl ⟨a, m, n.keeps k, e⟩
  · exact .inr (.inl ⟨a, c, e, i.keeps k⟩)
  · exact .inr (.inr ⟨a, b, c, e, i.keeps k⟩)

noncomputable abbrev Names := List (Str × D)
noncomputable def EnvRep (H : List Addr) (h : Heap) (env : Env) (ρ : Names) : Prop := ∀ x d, ρ.lookup x = some d → ∃ v, Sees h env x v ∧ Rep H h d v
theorem EnvRep.keep {H : List Addr} {h h' : Heap} (k : ∀ b o, h.get? b = some o → h'.get? b = some o) {env : Env} {ρ : Names} (r : EnvRep H h env ρ) : EnvRep H h' env ρ := fun x d e =>
  let ⟨v, a, b⟩ := r x d e
  ⟨v, a.keep k, b.keep k⟩

structure FunEnv (g : List (Str × NameKind)) (env : Env) : Prop where
  kind : env.scope.kind = .function
  globals : env.globals = mainGlobals
  builtins : env.builtins = builtinsNs
  names : ∀ x kd, kd ≠ NameKind.free → g.lookup x = some kd → env.kindOf x = some kd

/-- the expression e, under the names ρ, ends in the datum d, and nothing that stood is changed -/
structure Ev (G : Glo) (k : Nat) (g : List (Str × NameKind)) (ρ : Names) (e : Expr) (d : D) : Prop where
  run : ∀ (A : Around) (E : Value → Shared → Prop) (env : Env) (s : Shared), Room A k → FunEnv g env → At G s → EnvRep G.H s.heap env ρ →
    wpAny (model G.prog G.w) A (eval e env) (fun v s' => Keeps s s' ∧ Rep G.H s'.heap d v) E s
/-- the test e comes out b -/
structure Tst (G : Glo) (k : Nat) (g : List (Str × NameKind)) (ρ : Names) (e : Expr) (b : Bool) : Prop where
  run : ∀ (A : Around) (E : Value → Shared → Prop) (env : Env) (s : Shared), Room A k → FunEnv g env → At G s → EnvRep G.H s.heap env ρ →
    wpAny (model G.prog G.w) A (isTrue e env (eval e env)) (fun v s' => Keeps s s' ∧ v = b) E s
structure BinOk (G : Glo) (k : Nat) (op : Operator) (d₁ d₂ d : D) : Prop where
  run : ∀ (A : Around) (E : Value → Shared → Prop) (s : Shared) (v₁ v₂ : Value), Room A k → At G s → Rep G.H s.heap d₁ v₁ → Rep G.H s.heap d₂ v₂ →
    wpAny (model G.prog G.w) A (binaryOp op v₁ v₂) (fun v s' => Keeps s s' ∧ Rep G.H s'.heap d v) E s
structure CmpOk (G : Glo) (k : Nat) (op : CmpOp) (d₁ d₂ : D) (b : Bool) : Prop where
  run : ∀ (A : Around) (E : Value → Shared → Prop) (s : Shared) (v₁ v₂ : Value), Room A k → At G s → Rep G.H s.heap d₁ v₁ → Rep G.H s.heap d₂ v₂ →
    wpAny (model G.prog G.w) A (compareOp op v₁ v₂) (fun v s' => Keeps s s' ∧ v = .bool b) E s
structure TruthOk (G : Glo) (k : Nat) (d : D) (b : Bool) : Prop where
  run : ∀ (A : Around) (E : Value → Shared → Prop) (s : Shared) (v : Value), Room A k → At G s → Rep G.H s.heap d v →
    wpAny (model G.prog G.w) A (truthy v) (fun v s' => Keeps s s' ∧ v = b) E s

section
variable {G : Glo} {k : Nat} {g : List (Str × NameKind)} {ρ : Names}

theorem Ev.name {x : Str} {d : D} {pos : Pos} (h : ρ.lookup x = some d) (hd : (x == ("__debug__" : Str)) = false := by decide) : Ev G k g ρ (.Name x pos) d := by
  constructor
  intro A E env s hr hf ha he
  obtain ⟨v, hs, r⟩ := he x d h
  refine wpAny_Name ?_ hd
  rcases hs with ⟨a, m, n, e⟩ | ⟨a, c, e, i⟩ | ⟨a, b, c, e, i⟩
  · exact wpAny_loadName_local hf.kind a n e ⟨kp_refl s, r⟩
  · exact wpAny_loadName_cell hf.kind a e i ⟨kp_refl s, r⟩
  · exact wpAny_loadName_free hf.kind a e i ⟨kp_refl s, r⟩ b
theorem Ev.int {i : Int} {n : Nat} {pos : Pos} : Ev G k g ρ (.Constant (.int i) n pos) (.int i) := .mk fun A E env s _ _ _ _ => wpAny_Constant_int ⟨kp_tok s _, by unfold Rep; exact ⟨_, rfl⟩⟩
theorem Ev.str {x : Str} {n : Nat} {pos : Pos} : Ev G k g ρ (.Constant (.str x) n pos) (.str x) := .mk fun A E env s _ _ _ _ => Calls.Constant_str ⟨kp_tok s _, by unfold Rep; exact ⟨_, rfl⟩⟩
theorem Ev.flt {x : UInt64} {n : Nat} {pos : Pos} : Ev G k g ρ (.Constant (.float x) n pos) (.flt x) := .mk fun A E env s _ _ _ _ => AutoFloatOps.wpAny_Constant_float ⟨kp_tok s _, by unfold Rep; exact ⟨_, rfl⟩⟩
theorem Ev.bool {b : Bool} {n : Nat} {pos : Pos} : Ev G k g ρ (.Constant (.bool b) n pos) (.bool b) := .mk fun A E env s _ _ _ _ => wpAny_pure ⟨kp_refl s, by unfold Rep; rfl⟩
theorem Ev.none {n : Nat} {pos : Pos} : Ev G k g ρ (.Constant .none n pos) .none := .mk fun A E env s _ _ _ _ => wpAny_pure ⟨kp_refl s, by unfold Rep; rfl⟩

theorem Ev.bin {l r : Expr} {op : Operator} {pos : Pos} {d₁ d₂ d : D} (hl : Ev G k g ρ l d₁) (hr : Ev G k g ρ r d₂) (ho : BinOk G k op d₁ d₂ d) : Ev G k g ρ (.BinOp l op r pos) d := .mk fun A E env s rm fe ha he => wpAny_BinOp (wpAny_mono (hl.run A E env s rm fe ha he) (fun v₁ s₁ h₁ =>
    wpAny_mono (hr.run A E env s₁ rm fe (ha.of h₁.1) (he.keep (kp_keep h₁.1))) (fun v₂ s₂ h₂ =>
      wpAny_mono (ho.run A E s₂ v₁ v₂ rm ((ha.of h₁.1).of h₂.1) (h₁.2.keep (kp_keep h₂.1)) h₂.2) (fun v s₃ h₃ => ⟨kp_trans h₁.1 (kp_trans h₂.1 h₃.1), h₃.2⟩) fun _ _ e => e) fun _ _ e => e) fun _ _ e => e)
theorem Ev.cmp {l r : Expr} {op : CmpOp} {pos : Pos} {d₁ d₂ : D} {b : Bool} (hl : Ev G k g ρ l d₁) (hr : Ev G k g ρ r d₂) (ho : CmpOk G k op d₁ d₂ b) (hm : behindInMarks op r = false := by with_unfolding_all rfl) : Ev G k g ρ (.Compare l [op] [r] pos) (.bool b) := .mk fun A E env s rm fe ha he => wpAny_Compare1 (hm := hm) (wpAny_mono (hl.run A E env s rm fe ha he) (fun v₁ s₁ h₁ =>
    wpAny_mono (hr.run A E env s₁ rm fe (ha.of h₁.1) (he.keep (kp_keep h₁.1))) (fun v₂ s₂ h₂ =>
      wpAny_mono (ho.run A E s₂ v₁ v₂ rm ((ha.of h₁.1).of h₂.1) (h₁.2.keep (kp_keep h₂.1)) h₂.2) (fun v s₃ h₃ => ⟨kp_trans h₁.1 (kp_trans h₂.1 h₃.1), by unfold Rep; exact h₃.2⟩) fun _ _ e => e) fun _ _ e => e) fun _ _ e => e)
theorem Tst.cmp {l r : Expr} {op : CmpOp} {pos : Pos} {d₁ d₂ : D} {b : Bool} (hl : Ev G k g ρ l d₁) (hr : Ev G k g ρ r d₂) (ho : CmpOk G k op d₁ d₂ b) (hm : behindInMarks op r = false := by with_unfolding_all rfl) : Tst G k g ρ (.Compare l [op] [r] pos) b := .mk fun A E env s rm fe ha he => wpAny_isTrue_Compare1 (hm := hm) (wpAny_mono (hl.run A E env s rm fe ha he) (fun v₁ s₁ h₁ =>
    wpAny_mono (hr.run A E env s₁ rm fe (ha.of h₁.1) (he.keep (kp_keep h₁.1))) (fun v₂ s₂ h₂ =>
      wpAny_mono (ho.run A E s₂ v₁ v₂ rm ((ha.of h₁.1).of h₂.1) (h₁.2.keep (kp_keep h₂.1)) h₂.2) (fun v s₃ h₃ => by
        rw [h₃.2]; exact wpAny_pure ⟨kp_trans h₁.1 (kp_trans h₂.1 h₃.1), rfl⟩) fun _ _ e => e) fun _ _ e => e) fun _ _ e => e)

theorem BinOk.add {a b : Int} : BinOk G k .Add (.int a) (.int b) (.int (a + b)) := by
  constructor
  intro A E s v₁ v₂ _ _ r₁ r₂
  unfold Rep at r₁ r₂
  obtain ⟨t, rfl⟩ := r₁
  obtain ⟨u, rfl⟩ := r₂
  exact add_int ⟨kp_tok s _, by unfold Rep; exact ⟨_, rfl⟩⟩
theorem BinOk.sub {a b : Int} : BinOk G k .Sub (.int a) (.int b) (.int (a - b)) := by
  constructor
  intro A E s v₁ v₂ _ _ r₁ r₂
  unfold Rep at r₁ r₂
  obtain ⟨t, rfl⟩ := r₁
  obtain ⟨u, rfl⟩ := r₂
  exact sub_int ⟨kp_tok s _, by unfold Rep; exact ⟨_, rfl⟩⟩
theorem BinOk.mod {a b : Int} (hb : b ≠ 0) : BinOk G k .Mod (.int a) (.int b) (.int (a.fmod b)) := by
  constructor
  intro A E s v₁ v₂ _ _ r₁ r₂
  unfold Rep at r₁ r₂
  obtain ⟨t, rfl⟩ := r₁
  obtain ⟨u, rfl⟩ := r₂
  exact mod_int' hb ⟨kp_tok s _, by unfold Rep; exact ⟨_, rfl⟩⟩
theorem BinOk.floordiv {a b : Int} (hb : b ≠ 0) (hs : b.natAbs < 1073741824) : BinOk G k .FloorDiv (.int a) (.int b) (.int (a.fdiv b)) := by
  constructor
  intro A E s v₁ v₂ _ _ r₁ r₂
  unfold Rep at r₁ r₂
  obtain ⟨t, rfl⟩ := r₁
  obtain ⟨u, rfl⟩ := r₂
  exact floordiv_int hb ⟨kp_tok s _, by unfold Rep; exact ⟨_, rfl⟩⟩ (.inl (PyProof.noPylong_small hs))
end
end Mine

theorem Mine.FunEnv.global {g : List (Str × NameKind)} {env : Env} (f : Mine.FunEnv g env) (x : Str) (h : g.lookup x = some .globalImplicit) : env.kindOf x = some .globalImplicit := f.names x _ (by decide) h
end

section
open PySem PyProof.Rows
set_option Elab.async false
set_option linter.unusedVariables false
namespace Mine
set_option maxRecDepth 100000

/-! ## frames -/
noncomputable def Bnd (env : Env) (m cm : Str → Option Value) (x : Str) (v : Value) : Prop :=
  (env.kindOf x = some .local ∧ m x = some v) ∨ (env.kindOf x = some .cell ∧ (∃ c, env.cells.lookup x = some c) ∧ cm x = some v)

structure Frm (G : Glo) (s₀ : Shared) (env : Env) (ρ : Names) (s : Shared) : Prop where
  base : Bs G s₀
  at_ : At G s
  off : ∀ a, (a ∈ G.F ∨ a ∈ G.H) → a ≠ env.locals ∧ ∀ n c, env.cells.lookup n = some c → a ≠ c
  ex : ∃ m cm, InCallC s₀ env.locals m env.cells cm s ∧ ∀ x d, ρ.lookup x = some d → ∃ v, Bnd env m cm x v ∧ Rep G.H s.heap d v

section
variable {G : Glo} {s₀ s : Shared} {env : Env} {ρ : Names}
theorem Frm.rep (f : Frm G s₀ env ρ s) : EnvRep G.H s.heap env ρ := fun x d e => by
  obtain ⟨m, cm, I, h⟩ := f.ex
  obtain ⟨v, b, r⟩ := h x d e
  refine ⟨v, ?_, r⟩
  rcases b with ⟨a, b⟩ | ⟨a, ⟨c, hc⟩, b⟩
  · exact .inl ⟨a, m, I.toInCall.ns, b⟩
  · exact .inr (.inl ⟨a, c, hc, b ▸ I.cell x c hc⟩)
theorem Frm.kp (f : Frm G s₀ env ρ s) : Keeps s₀ s := by
  obtain ⟨m, cm, I, h⟩ := f.ex
  obtain ⟨h', tk, rfl, k⟩ := I.done
  exact ⟨h', tk, rfl, k⟩
theorem Frm.of {s' : Shared} (f : Frm G s₀ env ρ s) (k : Keeps s s') : Frm G s₀ env ρ s' := by
  obtain ⟨m, cm, I, h⟩ := f.ex
  obtain ⟨h', tk, rfl, kk⟩ := k
  refine ⟨f.base, f.at_.of ⟨h', tk, rfl, kk⟩, f.off, m, cm, ⟨⟨?_, I.toInCall.ns.keeps kk, fun b o e => kk b o (I.toInCall.keep b o e), I.toInCall.fresh⟩, fun n c hc => (I.cell n c hc).keeps kk, I.apart, I.above⟩, fun x d e => ?_⟩
  · obtain ⟨h₁, tk₁, e⟩ := I.toInCall.same
    exact ⟨h', tk, by rw [e]⟩
  · obtain ⟨v, b, r⟩ := h x d e
    exact ⟨v, b, r.keep kk⟩
theorem Bs.frm (a : Bs G s₀) (f : Frm G s₀ env ρ s) : At G s := f.at_
/-- objects above the ground, no sequences, may change -/
theorem Frm.at_but {h' : Heap} {wr : List Addr} {tk : Nat} (f : Frm G s₀ env ρ s) (hc : ∀ c ∈ wr, s₀.heap.get? c = none) (hn : ∀ c ∈ wr, c ∉ G.F ∧ c ∉ G.H) (hd : ∀ c ∈ wr, ∀ o its n, s.heap.get? c = some o → ¬ Hard o its n) (kk : ∀ b o, b ∉ wr → s.heap.get? b = some o → h'.get? b = some o) : At G { s with heap := h', toks := tk } := by
  obtain ⟨m, cm, I, h⟩ := f.ex
  have k0 : ∀ b o, s₀.heap.get? b = some o → h'.get? b = some o := fun b o e => kk b o (fun hb => by rw [hc b hb] at e; cases e) (I.toInCall.keep b o e)
  exact ⟨fun b o e => k0 b o (f.base.keep b o e), fun a ha => (f.at_.live a ha).imp fun o e => kk _ _ (fun hb => (hn _ hb).2 ha) e, fun a ha => (f.at_.fl a ha).imp fun o e => kk _ _ (fun hb => (hn _ hb).1 ha) e,
    G.invs _ _ (fun a ha o e => kk _ _ (fun hb => (hn _ hb).1 ha) e) (fun b o its n hd' e => kk b o (fun hb => hd b hb o its n e (.inl hd')) e) (fun b o vs hd' e => kk b o (fun hb => hd b hb o vs 0 e (.inr hd')) e) f.at_.inv⟩
theorem Frm.none_locals (f : Frm G s₀ env ρ s) : s₀.heap.get? env.locals = none := by
  obtain ⟨m, cm, I, h⟩ := f.ex
  cases e : s₀.heap.get? env.locals with
  | none => rfl
  | some o => exact absurd (Heap.lt_size e) (Nat.not_lt.mpr I.toInCall.fresh)
theorem Frm.none_cell (f : Frm G s₀ env ρ s) {n : Str} {c : Addr} (hc : env.cells.lookup n = some c) : s₀.heap.get? c = none := by
  obtain ⟨m, cm, I, h⟩ := f.ex
  have hLc := I.above n c (mem_of_lookup hc)
  cases e : s₀.heap.get? c with
  | none => rfl
  | some o => exact absurd (Nat.lt_trans (Heap.lt_size e) (Nat.lt_of_le_of_lt I.toInCall.fresh hLc)) (Nat.lt_irrefl _)
/-- the frame's own names may change -/
theorem Frm.at_locals {h' : Heap} {tk : Nat} (f : Frm G s₀ env ρ s) (kk : ∀ b o, b ≠ env.locals → s.heap.get? b = some o → h'.get? b = some o) : At G { s with heap := h', toks := tk } := by
  obtain ⟨m, cm, I, h⟩ := f.ex
  obtain ⟨oL, es', ep, hoL, hdL, _⟩ := I.toInCall.ns
  refine f.at_but (wr := [env.locals]) (fun c hc => ?_) (fun c hc => ?_) (fun c hc o its n e => ?_) fun b o hb e => kk b o (by simpa using hb) e
  · have hc := List.mem_singleton.mp hc; subst hc; exact f.none_locals
  · have hc := List.mem_singleton.mp hc; subst hc
    exact ⟨fun q => (f.off _ (.inl q)).1 rfl, fun q => (f.off _ (.inr q)).1 rfl⟩
  · have hc := List.mem_singleton.mp hc; subst hc
    rw [hoL] at e; cases e
    rintro (q | ⟨q, _⟩) <;> (rw [hdL] at q; cases q)
theorem Frm.at_cell {h' : Heap} {n : Str} {c : Addr} {tk : Nat} (f : Frm G s₀ env ρ s) (hc : env.cells.lookup n = some c) (kk : ∀ b o, b ≠ c → s.heap.get? b = some o → h'.get? b = some o) : At G { s with heap := h', toks := tk } := by
  obtain ⟨m, cm, I, h⟩ := f.ex
  obtain ⟨oc, hoc, hdc⟩ := I.cell n c hc
  refine f.at_but (wr := [c]) (fun c' hc' => ?_) (fun c' hc' => ?_) (fun c' hc' o its n' e => ?_) fun b o hb e => kk b o (by simpa using hb) e
  · have hc' := List.mem_singleton.mp hc'; subst hc'; exact f.none_cell hc
  · have hc' := List.mem_singleton.mp hc'; subst hc'
    exact ⟨fun q => (f.off _ (.inl q)).2 n _ hc rfl, fun q => (f.off _ (.inr q)).2 n _ hc rfl⟩
  · have hc' := List.mem_singleton.mp hc'; subst hc'
    rw [hoc] at e; cases e
    rintro (q | ⟨q, _⟩) <;> (rw [hdc] at q; cases q)

/-- all that stood, but the frame's own names and cells, still stands -/
structure Held (env : Env) (s s' : Shared) : Prop where
  k : ∀ b o, b ≠ env.locals → (∀ n c, env.cells.lookup n = some c → b ≠ c) → s.heap.get? b = some o → s'.heap.get? b = some o
theorem Held.refl {env : Env} {s : Shared} : Held env s s := ⟨fun _ _ _ _ e => e⟩
theorem Held.trans {env : Env} {s s' s'' : Shared} (a : Held env s s') (b : Held env s' s'') : Held env s s'' := ⟨fun c o h1 h2 e => b.k c o h1 h2 (a.k c o h1 h2 e)⟩
theorem Held.of {env : Env} {s s' : Shared} (a : Keeps s s') : Held env s s' := ⟨fun c o _ _ e => kp_keep a c o e⟩

theorem Rep.off {H : List Addr} {h h' : Heap} {L : Addr} {oL : Obj} (hoL : h.get? L = some oL) (hn : ∀ its n, oL.data ≠ .seq its n) (hs : ∀ b o, b ≠ L → h.get? b = some o → h'.get? b = some o) {d : D} {v : Value} : Rep H h d v → Rep H h' d v :=
  Rep.mono (fun b o its n _ hd e => hs b o (fun q => by rw [q, hoL] at e; cases e; exact hn _ _ hd) e) (fun b o its n _ hd e => hs b o (fun q => by rw [q, hoL] at e; cases e; exact hn _ _ hd) e)
theorem Reps.off {H : List Addr} {h h' : Heap} {L : Addr} {oL : Obj} (hoL : h.get? L = some oL) (hn : ∀ its n, oL.data ≠ .seq its n) (hs : ∀ b o, b ≠ L → h.get? b = some o → h'.get? b = some o) {d : List D} {v : List Value} : Reps H h d v → Reps H h' d v :=
  Reps.mono (fun b o its n _ hd e => hs b o (fun q => by rw [q, hoL] at e; cases e; exact hn _ _ hd) e) (fun b o its n _ hd e => hs b o (fun q => by rw [q, hoL] at e; cases e; exact hn _ _ hd) e)
theorem Frm.store' {M : Model} {A : Around} {E : Value → Shared → Prop} {x : Str} {d : D} {v : Value} (f : Frm G s₀ env ρ s) (hk : env.scope.kind = .function)
    (hx : env.kindOf x = some .local ∨ (env.kindOf x = some .cell ∧ ∃ c, env.cells.lookup x = some c)) (r : Rep G.H s.heap d v) {Q : Unit → Shared → Prop}
    (h : ∀ s', Frm G s₀ env ((x, d) :: ρ) s' → Held env s s' → (∀ ds vs, Reps G.H s.heap ds vs → Reps G.H s'.heap ds vs) → Q () s') : wpAny M A (storeName env x v) Q E s := by
  obtain ⟨m, cm, I, hr⟩ := f.ex
  obtain ⟨h₁, tk₁, es⟩ := I.toInCall.same
  rcases hx with hl | ⟨hl, c, hc⟩
  · refine wpAny_storeName_local hl I.toInCall.ns (fun h' hn' hs' => h _ ⟨f.base, f.at_locals (tk := s.toks + 1) (fun b o hb e => hs'.extBut b o hb e), f.off, _, cm, ⟨⟨⟨h', _, by rw [es]⟩, hn', fun b o e => ?_, I.toInCall.fresh⟩, fun n c hc => ?_, I.apart, I.above⟩, fun y e hy => ?_⟩ ?_ fun ds vs r => ?_) (by rw [hk]; rfl)
    · exact hs'.extBut b o (Nat.ne_of_lt (Nat.lt_of_lt_of_le (Heap.lt_size e) I.toInCall.fresh)) (I.toInCall.keep b o e)
    · exact (I.cell n c hc).sameBut hs' (Nat.ne_of_gt (I.above n c (mem_of_lookup hc)))
    · obtain ⟨oL, es', ep, hoL, hdL, _⟩ := I.toInCall.ns
      have tr : ∀ {d : D} {v : Value}, Rep G.H s.heap d v → Rep G.H h' d v := fun r => Rep.off hoL (fun its n e => by rw [hdL] at e; cases e) hs'.extBut r
      rw [List.lookup_cons] at hy
      cases hb : y == x with
      | true =>
        rw [hb] at hy; cases hy
        have : y = x := beq_iff_eq.mp hb
        subst this
        exact ⟨v, .inl ⟨hl, by simp⟩, tr r⟩
      | false =>
        rw [hb] at hy
        obtain ⟨u, b, ru⟩ := hr y e hy
        have hne : y ≠ x := fun q => by rw [q] at hb; simp at hb
        refine ⟨u, ?_, tr ru⟩
        rcases b with ⟨a, b⟩ | b
        · exact .inl ⟨a, by simp [hne, b]⟩
        · exact .inr b
    · exact ⟨fun b o h1 _ e => hs'.extBut b o h1 e⟩
    · obtain ⟨oL, es', ep, hoL, hdL, _⟩ := I.toInCall.ns
      exact Reps.off hoL (fun its n e => by rw [hdL] at e; cases e) hs'.extBut r
  · have hLc := I.above x c (mem_of_lookup hc)
    have hcell := I.cell x c hc
    refine wpAny_storeName_cell hk hl hc hcell fun h' hc' hs' => h _ ⟨f.base, f.at_cell (tk := s.toks) hc (fun b o hb e => hs'.extBut b o hb e), f.off, m, (fun y => if y = x then some v else cm y), ⟨⟨⟨h', _, by rw [es]⟩, I.toInCall.ns.sameBut hs' (Nat.ne_of_lt hLc), fun b o e => ?_, I.toInCall.fresh⟩, fun n c' hk' => ?_, I.apart, I.above⟩, fun y e hy => ?_⟩ ⟨fun b o _ h2 e => hs'.extBut b o (h2 x c hc) e⟩ fun ds vs r => ?_
    · exact hs'.extBut b o (Nat.ne_of_lt (Nat.lt_trans (Nat.lt_of_lt_of_le (Heap.lt_size e) I.toInCall.fresh) hLc)) (I.toInCall.keep b o e)
    · by_cases hkn : n = x
      · subst hkn
        rw [hc] at hk'; cases hk'
        simpa using hc'
      · rw [if_neg hkn]
        exact (I.cell n c' hk').sameBut hs' fun e => hkn (name_of_addr I.apart (mem_of_lookup hk') (e ▸ mem_of_lookup hc))
    · obtain ⟨oc, hoc, hdc⟩ := hcell
      have tr : ∀ {d : D} {v : Value}, Rep G.H s.heap d v → Rep G.H h' d v := fun r => Rep.off hoc (fun its n e => by rw [hdc] at e; cases e) hs'.extBut r
      rw [List.lookup_cons] at hy
      cases hb : y == x with
      | true =>
        rw [hb] at hy; cases hy
        have : y = x := beq_iff_eq.mp hb
        subst this
        exact ⟨v, .inr ⟨hl, ⟨c, hc⟩, by simp⟩, tr r⟩
      | false =>
        rw [hb] at hy
        obtain ⟨u, b, ru⟩ := hr y e hy
        have hne : y ≠ x := fun q => by rw [q] at hb; simp at hb
        refine ⟨u, ?_, tr ru⟩
        rcases b with b | ⟨a, b, e⟩
        · exact .inl b
        · exact .inr ⟨a, b, by simp [hne, e]⟩
    · obtain ⟨oc, hoc, hdc⟩ := hcell
      exact Reps.off hoc (fun its n e => by rw [hdc] at e; cases e) hs'.extBut r
theorem Frm.store {M : Model} {A : Around} {E : Value → Shared → Prop} {x : Str} {d : D} {v : Value} (f : Frm G s₀ env ρ s) (hk : env.scope.kind = .function)
    (hx : env.kindOf x = some .local ∨ (env.kindOf x = some .cell ∧ ∃ c, env.cells.lookup x = some c)) (r : Rep G.H s.heap d v) {Q : Unit → Shared → Prop}
    (h : ∀ s', Frm G s₀ env ((x, d) :: ρ) s' → Held env s s' → Q () s') : wpAny M A (storeName env x v) Q E s := f.store' hk hx r fun s' f' hd _ => h s' f' hd
end

/-- the frame of a def of the text: its scope, its cells -/
structure DefEnv (sc : Scope) (env : Env) : Prop where
  scope : env.scope = sc
  globals : env.globals = mainGlobals
  builtins : env.builtins = builtinsNs
  cells : env.cells = cellsFrom (env.locals + 1) sc.names []
theorem DefEnv.fun {sc : Scope} {env : Env} (h : DefEnv sc env) (hk : sc.kind = .function) : FunEnv sc.names env :=
  ⟨by rw [h.scope]; exact hk, h.globals, h.builtins, fun x kd _ hx => by show env.scope.names.lookup x = _; rw [h.scope]; exact hx⟩

/-- x is a name that the frame may store -/
noncomputable def storable (sc : Scope) (x : Str) : Bool := sc.names.lookup x == some .local || (sc.names.lookup x == some .cell && ((cellsFrom 0 sc.names []).lookup x).isSome)
theorem cellsFrom_isSome {x : Str} : ∀ (names : List (Str × NameKind)) (n m : Nat) (acc acc' : List (Str × Addr)), ((acc.lookup x).isSome = (acc'.lookup x).isSome) → ((cellsFrom n names acc).lookup x).isSome = ((cellsFrom m names acc').lookup x).isSome
  | [], _, _, _, _, h => h
  | (y, k) :: r, n, m, acc, acc', h => by
    unfold cellsFrom
    split
    · refine cellsFrom_isSome r _ _ _ _ ?_
      rw [List.lookup_cons, List.lookup_cons]
      cases x == y <;> simp [h]
    · exact cellsFrom_isSome r _ _ _ _ h
theorem storable_of {sc : Scope} {x : Str} {env : Env} (he : DefEnv sc env) (h : storable sc x = true) : env.kindOf x = some .local ∨ (env.kindOf x = some .cell ∧ ∃ c, env.cells.lookup x = some c) := by
  unfold storable at h
  rcases Bool.or_eq_true_iff.mp h with h | h
  · exact .inl (by show env.scope.names.lookup x = _; rw [he.scope]; exact beq_iff_eq.mp h)
  · obtain ⟨h1, h2⟩ := Bool.and_eq_true_iff.mp h
    refine .inr ⟨by show env.scope.names.lookup x = _; rw [he.scope]; exact beq_iff_eq.mp h1, ?_⟩
    rw [he.cells]
    exact Option.isSome_iff_exists.mp (by rw [cellsFrom_isSome sc.names (env.locals + 1) 0 [] [] rfl]; exact h2)

/-! ## statements -/
/-- the statements fall through, to the names ρ' -/
structure Sts (G : Glo) (k : Nat) (sc : Scope) (ρ : Names) (b : List Stmt) (ρ' : Names) : Prop where
  run : ∀ (A : Around) (E : Value → Shared → Prop) (s₀ : Shared) (env : Env) (s : Shared), Room A k → DefEnv sc env → Bs G s₀ → Frm G s₀ env ρ s →
    wpAny (model G.prog G.w) A (execs b env) (fun f s' => f = .next ∧ Frm G s₀ env ρ' s' ∧ Held env s s') E s
structure St (G : Glo) (k : Nat) (sc : Scope) (ρ : Names) (b : Stmt) (ρ' : Names) : Prop where
  run : ∀ (A : Around) (E : Value → Shared → Prop) (s₀ : Shared) (env : Env) (s : Shared), Room A k → DefEnv sc env → Bs G s₀ → Frm G s₀ env ρ s →
    wpAny (model G.prog G.w) A (exec b env) (fun f s' => f = .next ∧ Frm G s₀ env ρ' s' ∧ Held env s s') E s
/-- the statements end in a return of d -/
structure Ret (G : Glo) (k : Nat) (sc : Scope) (ρ : Names) (b : List Stmt) (d : D) : Prop where
  run : ∀ (A : Around) (E : Value → Shared → Prop) (s₀ : Shared) (env : Env) (s : Shared), Room A k → DefEnv sc env → Bs G s₀ → Frm G s₀ env ρ s →
    wpAny (model G.prog G.w) A (execs b env) (fun f s' => ∃ v, f = .ret v ∧ Keeps s₀ s' ∧ At G s' ∧ Rep G.H s'.heap d v) E s

section
variable {G : Glo} {k : Nat} {sc : Scope} {ρ ρ' ρ'' : Names} {d : D}
theorem Sts.nil : Sts G k sc ρ [] ρ := .mk fun A E s₀ env s _ _ _ f => wpAny_execs_nil ⟨rfl, f, .refl⟩
theorem Sts.cons {a : Stmt} {b : List Stmt} (h : St G k sc ρ a ρ') (r : Sts G k sc ρ' b ρ'') : Sts G k sc ρ (a :: b) ρ'' := .mk fun A E s₀ env s rm de ha f =>
  wpAny_execs_cons (wpAny_mono (h.run A E s₀ env s rm de ha f) (fun fl s' q => by obtain ⟨rfl, f', hl⟩ := q; exact wpAny_mono (r.run A E s₀ env s' rm de ha f') (fun fl s'' z => ⟨z.1, z.2.1, hl.trans z.2.2⟩) fun _ _ e => e) fun _ _ e => e)
theorem Ret.cons {a : Stmt} {b : List Stmt} (h : St G k sc ρ a ρ') (r : Ret G k sc ρ' b d) : Ret G k sc ρ (a :: b) d := .mk fun A E s₀ env s rm de ha f =>
  wpAny_execs_cons (wpAny_mono (h.run A E s₀ env s rm de ha f) (fun fl s' q => by obtain ⟨rfl, f', hl⟩ := q; exact r.run A E s₀ env s' rm de ha f') fun _ _ e => e)
theorem Ret.ret {e : Expr} {pos : Pos} {b : List Stmt} (h : Ev G k sc.names ρ e d) (hk : sc.kind = .function := by rfl) : Ret G k sc ρ (.Return (some e) pos :: b) d := .mk fun A E s₀ env s rm de ha f =>
  wpAny_execs_cons (wpAny_Return_some (wpAny_mono (h.run A E env s rm (de.fun hk) (ha.frm f) f.rep) (fun v s' q => ⟨v, rfl, kp_trans f.kp q.1, f.at_.of q.1, q.2⟩) fun _ _ e => e))
theorem Ret.ifT {t : Expr} {b o r : List Stmt} {pos : Pos} (ht : Tst G k sc.names ρ t true) (h : Ret G k sc ρ b d) (hk : sc.kind = .function := by rfl) : Ret G k sc ρ (.If t b o pos :: r) d := .mk fun A E s₀ env s rm de ha f =>
  wpAny_execs_cons (wpAny_If (wpAny_mono (ht.run A E env s rm (de.fun hk) (ha.frm f) f.rep) (fun v s' q => by
    obtain ⟨kp, rfl⟩ := q
    simp only [if_true]
    exact wpAny_mono (h.run A E s₀ env s' rm de ha (f.of kp)) (fun fl s'' z => by obtain ⟨v, rfl, z⟩ := z; exact ⟨v, rfl, z⟩) fun _ _ e => e) fun _ _ e => e))
theorem Ret.ifFo {t : Expr} {b o r : List Stmt} {pos : Pos} (ht : Tst G k sc.names ρ t false) (h : Ret G k sc ρ o d) (hk : sc.kind = .function := by rfl) : Ret G k sc ρ (.If t b o pos :: r) d := .mk fun A E s₀ env s rm de ha f =>
  wpAny_execs_cons (wpAny_If (wpAny_mono (ht.run A E env s rm (de.fun hk) (ha.frm f) f.rep) (fun v s' q => by
    obtain ⟨kp, rfl⟩ := q
    simp only [Bool.false_eq_true, if_false]
    exact wpAny_mono (h.run A E s₀ env s' rm de ha (f.of kp)) (fun fl s'' z => by obtain ⟨v, rfl, z⟩ := z; exact ⟨v, rfl, z⟩) fun _ _ e => e) fun _ _ e => e))
theorem St.ifT {t : Expr} {b o : List Stmt} {pos : Pos} (ht : Tst G k sc.names ρ t true) (h : Sts G k sc ρ b ρ') (hk : sc.kind = .function := by rfl) : St G k sc ρ (.If t b o pos) ρ' := .mk fun A E s₀ env s rm de ha f =>
  wpAny_If (wpAny_mono (ht.run A E env s rm (de.fun hk) (ha.frm f) f.rep) (fun v s' q => by
    obtain ⟨kp, rfl⟩ := q
    simp only [if_true]
    exact wpAny_mono (h.run A E s₀ env s' rm de ha (f.of kp)) (fun fl s'' z => ⟨z.1, z.2.1, (Held.of kp).trans z.2.2⟩) fun _ _ e => e) fun _ _ e => e)
theorem St.ifF {t : Expr} {b o : List Stmt} {pos : Pos} (ht : Tst G k sc.names ρ t false) (h : Sts G k sc ρ o ρ') (hk : sc.kind = .function := by rfl) : St G k sc ρ (.If t b o pos) ρ' := .mk fun A E s₀ env s rm de ha f =>
  wpAny_If (wpAny_mono (ht.run A E env s rm (de.fun hk) (ha.frm f) f.rep) (fun v s' q => by
    obtain ⟨kp, rfl⟩ := q
    simp only [Bool.false_eq_true, if_false]
    exact wpAny_mono (h.run A E s₀ env s' rm de ha (f.of kp)) (fun fl s'' z => ⟨z.1, z.2.1, (Held.of kp).trans z.2.2⟩) fun _ _ e => e) fun _ _ e => e)
theorem St.assign {x : Str} {e : Expr} {p pos : Pos} (h : Ev G k sc.names ρ e d) (hx : storable sc x = true := by decide +kernel) (hs : ∀ env, swapsWith e (some (.Name x p)) pos.line env = pure false := by intro _; rfl) (hk : sc.kind = .function := by rfl) :
    St G k sc ρ (.Assign [.Name x p] e pos) ((x, d) :: ρ) := .mk fun A E s₀ env s rm de ha f =>
  wpAny_Assign_Name (wpAny_mono (h.run A E env s rm (de.fun hk) (ha.frm f) f.rep) (fun v s' q => (f.of q.1).store (de.fun hk).kind (storable_of de hx) q.2 fun s'' f' hl => ⟨rfl, f', (Held.of q.1).trans hl⟩) fun _ _ e => e) (hs env)
end
end Mine
end

section
open PySem PyProof.Rows
set_option Elab.async false
set_option linter.unusedVariables false
namespace Mine
theorem vec1 {α : Type} {P : List α → Prop} (h : ∀ a, P [a]) : ∀ vs : List α, vs.length = 1 → P vs
  | [a], _ => h a
theorem vecS {α : Type} {P : List α → Prop} {n : Nat} (h : ∀ a l, l.length = n → P (a :: l)) : ∀ vs : List α, vs.length = n + 1 → P vs
  | a :: l, e => h a l (Nat.succ.inj e)
theorem vec2 {α : Type} {P : List α → Prop} (h : ∀ a b, P [a, b]) : ∀ vs : List α, vs.length = 2 → P vs := vecS fun a => vec1 (P := fun l => P (a :: l)) (h a)
theorem vec3 {α : Type} {P : List α → Prop} (h : ∀ a b c, P [a, b, c]) : ∀ vs : List α, vs.length = 3 → P vs := vecS fun a => vec2 (P := fun l => P (a :: l)) (h a)
theorem vec4 {α : Type} {P : List α → Prop} (h : ∀ a b c d, P [a, b, c, d]) : ∀ vs : List α, vs.length = 4 → P vs := vecS fun a => vec3 (P := fun l => P (a :: l)) (h a)
theorem vec5 {α : Type} {P : List α → Prop} (h : ∀ a b c d e, P [a, b, c, d, e]) : ∀ vs : List α, vs.length = 5 → P vs := vecS fun a => vec4 (P := fun l => P (a :: l)) (h a)
theorem binds1 {fd : FuncData} {ns : List Str} (h : ∀ a, bindArgs fd ⟨[a], []⟩ = pure (ns.zip [a])) (vs : List Value) (e : vs.length = 1) : bindArgs fd ⟨vs, []⟩ = pure (ns.zip vs) := vec1 (P := fun vs => bindArgs fd ⟨vs, []⟩ = pure (ns.zip vs)) h vs e
theorem binds2 {fd : FuncData} {ns : List Str} (h : ∀ a b, bindArgs fd ⟨[a, b], []⟩ = pure (ns.zip [a, b])) (vs : List Value) (e : vs.length = 2) : bindArgs fd ⟨vs, []⟩ = pure (ns.zip vs) := vec2 (P := fun vs => bindArgs fd ⟨vs, []⟩ = pure (ns.zip vs)) h vs e
theorem binds3 {fd : FuncData} {ns : List Str} (h : ∀ a b c, bindArgs fd ⟨[a, b, c], []⟩ = pure (ns.zip [a, b, c])) (vs : List Value) (e : vs.length = 3) : bindArgs fd ⟨vs, []⟩ = pure (ns.zip vs) := vec3 (P := fun vs => bindArgs fd ⟨vs, []⟩ = pure (ns.zip vs)) h vs e
theorem binds5 {fd : FuncData} {ns : List Str} (h : ∀ a b c d e, bindArgs fd ⟨[a, b, c, d, e], []⟩ = pure (ns.zip [a, b, c, d, e])) (vs : List Value) (e : vs.length = 5) : bindArgs fd ⟨vs, []⟩ = pure (ns.zip vs) := vec5 (P := fun vs => bindArgs fd ⟨vs, []⟩ = pure (ns.zip vs)) h vs e
theorem vecLe3 {α : Type} {P : List α → Prop} (h0 : P []) (h1 : ∀ a, P [a]) (h2 : ∀ a b, P [a, b]) (h3 : ∀ a b c, P [a, b, c]) (l : List α) (e : l.length ≤ 3) : P l := by
  cases l with
  | nil => exact h0
  | cons a l =>
    cases l with
    | nil => exact h1 a
    | cons b l =>
      cases l with
      | nil => exact h2 a b
      | cons c l =>
        cases l with
        | nil => exact h3 a b c
        | cons d l => exact absurd e (Nat.not_le.mpr (Nat.le_add_left 4 l.length))
set_option maxRecDepth 100000

/-! ## calls -/
structure CallOk (G : Glo) (k : Nat) (f : Value) (ds : List D) (d : D) : Prop where
  run : ∀ (A : Around) (E : Value → Shared → Prop) (s : Shared) (vs : List Value), Room A k → At G s → Reps G.H s.heap ds vs →
    wpAny (model G.prog G.w) A (call f vs) (fun v s' => Keeps s s' ∧ Rep G.H s'.heap d v) E s

/-- the def's record: what the heap at the start says of it -/
structure DefAt (G : Glo) (f : Addr) (fd : FuncData) (body : List Stmt) : Prop where
  obj : ∃ o, G.hB.get? f = some o ∧ o.data = .func fd
  nolimit : G.hB.NoLimit
  code : G.hB.CodeRec fd.code fd.qualname
  body : fd.body = .stmts body
  closure : fd.closure = []
  globals : fd.globals = mainGlobals
  builtins : fd.builtins = builtinsNs
  co : fd.scope.isCoroutine = false
  gen : fd.scope.isGenerator = false
  kind : fd.scope.kind = .function

theorem bind_names {kindOf : Str → Option NameKind} : ∀ (xs : List (Str × Value)) (m : Str → Option Value) (x : Str) (v : Value), kindOf x = some .local → (xs.map (·.1)).Nodup → xs.lookup x = some v → bindL kindOf xs m x = some v := by
  have keep : ∀ (xs : List (Str × Value)) (m : Str → Option Value) (x : Str), x ∉ xs.map (·.1) → bindL kindOf xs m x = m x := by
    intro xs
    induction xs with
    | nil => intro m x _; rfl
    | cons p r ih =>
      intro m x hx
      obtain ⟨n, v⟩ := p
      rw [List.map_cons, List.mem_cons, not_or] at hx
      unfold bindL
      rw [ih _ _ hx.2]
      split
      · have : x ≠ n := hx.1
        simp [this]
      · rfl
  intro xs
  induction xs with
  | nil => intro m x v _ _ h; cases h
  | cons p r ih =>
    intro m x v hk hn h
    obtain ⟨n, u⟩ := p
    rw [List.map_cons, List.nodup_cons] at hn
    rw [List.lookup_cons] at h
    unfold bindL
    cases hb : x == n with
    | true =>
      rw [hb] at h; cases h
      have : x = n := beq_iff_eq.mp hb
      subst this
      rw [keep _ _ _ hn.1, if_pos hk]
      simp
    | false =>
      rw [hb] at h
      exact ih _ x v hk hn.2 h
theorem bindC_names {kindOf : Str → Option NameKind} : ∀ (xs : List (Str × Value)) (m : Str → Option Value) (x : Str) (v : Value), kindOf x ≠ some .local → (xs.map (·.1)).Nodup → xs.lookup x = some v → bindC kindOf xs m x = some v := by
  have keep : ∀ (xs : List (Str × Value)) (m : Str → Option Value) (x : Str), x ∉ xs.map (·.1) → bindC kindOf xs m x = m x := by
    intro xs
    induction xs with
    | nil => intro m x _; rfl
    | cons p r ih =>
      intro m x hx
      obtain ⟨n, v⟩ := p
      rw [List.map_cons, List.mem_cons, not_or] at hx
      unfold bindC
      rw [ih _ _ hx.2]
      split
      · rfl
      · have : x ≠ n := hx.1
        simp [this]
  intro xs
  induction xs with
  | nil => intro m x v _ _ h; cases h
  | cons p r ih =>
    intro m x v hk hn h
    obtain ⟨n, u⟩ := p
    rw [List.map_cons, List.nodup_cons] at hn
    rw [List.lookup_cons] at h
    unfold bindC
    cases hb : x == n with
    | true =>
      rw [hb] at h; cases h
      have : x = n := beq_iff_eq.mp hb
      subst this
      rw [keep _ _ _ hn.1, if_neg hk]
      simp
    | false =>
      rw [hb] at h
      exact ih _ x v hk hn.2 h

theorem lookup_zip {H : List Addr} {h : Heap} : ∀ {ns : List Str} {ds : List D} {vs : List Value} {x : Str} {d : D}, Reps H h ds vs → (ns.zip ds).lookup x = some d → ∃ v, (ns.zip vs).lookup x = some v ∧ Rep H h d v
  | [], _, _, _, _, _, e => by cases e
  | n :: ns, [], _, _, _, _, e => by cases e
  | n :: ns, d' :: ds, vs, x, d, r, e => by
    unfold Reps at r
    obtain ⟨v, vs', rfl, r1, r2⟩ := r
    rw [List.zip_cons_cons, List.lookup_cons] at e
    rw [List.zip_cons_cons, List.lookup_cons]
    cases hb : x == n with
    | true => rw [hb] at e; cases e; exact ⟨v, rfl, r1⟩
    | false => rw [hb] at e; exact lookup_zip r2 e

section
variable {G : Glo} {k : Nat}
/-- a call of a def whose parameters are plain -/
theorem CallOk.def {f : Addr} {fd : FuncData} {body : List Stmt} {ns : List Str} {ds : List D} {d : D} (hf : DefAt G f fd body)
    (hb : ∀ vs, vs.length = ds.length → bindArgs fd ⟨vs, []⟩ = pure (ns.zip vs)) (hl : ns.length = ds.length) (hn : ns.Nodup) (hs : ns.all (storable fd.scope) = true)
    (h : Ret G k fd.scope (ns.zip ds) body d) : CallOk G (k + 1) (.ref f) ds d := by
  constructor
  intro A E s vs rm ha r
  obtain ⟨o, ho, hd⟩ := hf.obj
  have hlen := r.length
  have hzn : (ns.zip vs).map (·.1) = ns := by rw [List.map_fst_zip]; lia
  have hkd : ∀ x ∈ ns.zip vs, fd.scope.names.lookup x.1 = some .local ∨ (fd.scope.names.lookup x.1 = some .cell ∧ ((cellsFrom (s.heap.objs.size + 1) fd.scope.names []).lookup x.1).isSome = true) := by
    intro x hx
    have hm : x.1 ∈ ns := by rw [← hzn]; exact List.mem_map_of_mem hx
    have := List.all_eq_true.mp hs _ hm
    unfold storable at this
    rcases Bool.or_eq_true_iff.mp this with q | q
    · exact .inl (beq_iff_eq.mp q)
    · obtain ⟨h1, h2⟩ := Bool.and_eq_true_iff.mp q
      exact .inr ⟨beq_iff_eq.mp h1, by rw [cellsFrom_isSome fd.scope.names _ 0 [] [] rfl]; exact h2⟩
  refine wpAny_call (codeAny_call_cells rm.d (ha.keep _ _ ho) hd (hf.nolimit.keeps ha.keep) (hf.code.keeps ha.keep) hf.body (hb vs hlen) hf.closure hkd (fun s₁ I => ?_) hf.co hf.gen hf.kind)
  have hcell : (callEnvC fd s.heap.objs.size f).cells = cellsFrom (s.heap.objs.size + 1) fd.scope.names [] := rfl
  have fr : Frm G s (callEnvC fd s.heap.objs.size f) (ns.zip ds) s₁ := by
    have kp : Keeps s s₁ := by
      obtain ⟨h', tk, rfl, kk⟩ := I.toInCall.done
      exact ⟨h', tk, rfl, kk⟩
    refine ⟨ha.bs, ha.of kp, fun a hm => ?_, _, _, I, fun x e hx => ?_⟩
    · have hlt : a < s.heap.objs.size := by
        rcases hm with hm | hm
        · obtain ⟨o, e⟩ := ha.fl a hm; exact Heap.lt_size e
        · obtain ⟨o, e⟩ := ha.live a hm; exact Heap.lt_size e
      exact ⟨Nat.ne_of_lt hlt, fun n c hc => Nat.ne_of_lt (Nat.lt_trans hlt (I.above n c (mem_of_lookup hc)))⟩
    obtain ⟨v, hv, rv⟩ := lookup_zip r hx
    refine ⟨v, ?_, rv.keep I.toInCall.keep⟩
    have hnd : ((ns.zip vs).map (·.1)).Nodup := by rw [hzn]; exact hn
    have hmem := mem_of_lookup hv
    rcases hkd _ hmem with q | ⟨q, qc⟩
    · exact .inl ⟨q, bind_names _ _ _ _ q hnd hv⟩
    · exact .inr ⟨q, Option.isSome_iff_exists.mp qc, bindC_names _ _ _ _ (by show fd.scope.names.lookup x ≠ _; rw [q]; decide) hnd hv⟩
  have de : DefEnv fd.scope (callEnvC fd s.heap.objs.size f) := ⟨rfl, hf.globals, hf.builtins, rfl⟩
  refine wpAny_mono (h.run _ _ s _ s₁ (rm.deeper _) de ha.bs fr) (fun fl s' q => ?_) fun _ _ e => e
  obtain ⟨v, rfl, kp, _, rv⟩ := q
  exact ⟨kp, rv⟩
end

/-- the global name x is bound to f -/
noncomputable def GlobIs (G : Glo) (x : Str) (f : Value) : Prop := ∃ mg mb, G.hB.Ns mainGlobals mg ∧ G.hB.Ns builtinsNs mb ∧ (mg x = some f ∨ (mg x = none ∧ mb x = some f))
structure Evs (G : Glo) (k : Nat) (g : List (Str × NameKind)) (ρ : Names) (es : List Expr) (ds : List D) : Prop where
  run : ∀ (A : Around) (E : Value → Shared → Prop) (env : Env) (s : Shared) (pos : Pos), Room A k → FunEnv g env → At G s → EnvRep G.H s.heap env ρ →
    (backTo pos (starEach es env)).any (·.1) = false ∧
    wpAny (model G.prog G.w) A (spliced (backTo pos (starEach es env))) (fun vs s' => Keeps s s' ∧ Reps G.H s'.heap ds vs) E s

section
variable {G : Glo} {k : Nat} {g : List (Str × NameKind)} {ρ : Names}
theorem Evs.nil : Evs G k g ρ [] [] := .mk fun A E env s pos _ _ _ _ => ⟨rfl, Calls.spliced_nil ⟨kp_refl s, by unfold Reps; rfl⟩⟩
theorem Evs.cons {e : Expr} {es : List Expr} {d : D} {ds : List D} (h : Ev G k g ρ e d) (r : Evs G k g ρ es ds) (hs : ∀ env, starEach (e :: es) env = (false, eval e env) :: starEach es env := by intro _; rfl) : Evs G k g ρ (e :: es) (d :: ds) := .mk fun A E env s pos rm fe ha he => by
    rw [hs env]
    refine ⟨?_, ?_⟩
    · show (false || (backTo pos (starEach es env)).any (·.1)) = false
      rw [(r.run A E env s pos rm fe ha he).1]; rfl
    · show wpAny _ A (spliced ((false, eval e env) :: backTo pos (starEach es env))) _ E s
      refine Calls.spliced_cons (wpAny_mono (h.run A E env s rm fe ha he) (fun v s₁ h₁ => ?_) fun _ _ e => e)
      refine wpAny_mono (r.run A E env s₁ pos rm fe (ha.of h₁.1) (he.keep (kp_keep h₁.1))).2 (fun vs s₂ h₂ => ⟨kp_trans h₁.1 h₂.1, ?_⟩) fun _ _ e => e
      unfold Reps
      exact ⟨v, vs, rfl, h₁.2.keep (kp_keep h₂.1), h₂.2⟩

theorem evalArgs_any {M : Model} {A : Around} {E : Value → Shared → Prop} {s : Shared} {f : Value} {args : List (Bool × Sem Value)} {Q : Args → Shared → Prop} (hp : args.any (·.1) = false)
    (h : wpAny M A (spliced args) (fun vs s' => Q ⟨vs, []⟩ s') E s) : wpAny M A (evalArgs f true args []) Q E s := by
  match args, hp, h with
  | [], _, h =>
    unfold evalArgs
    show wpAny M A (spliced [] >>= _) Q E s
    refine wpAny_bind (wpAny_mono h (fun vs s' h' => ?_) fun _ _ x => x)
    refine wpAny_bind (wpAny_pure ?_)
    refine wpAny_holding ?_
    exact wpAny_bind (wpAny_pure (wpAny_bind (wpAny_pure (wpAny_pure h'))))
  | (false, x) :: r, _, h => exact Calls.evalArgs_plain h


/-- a value that a call takes as it is: a built-in, a built-in type, a def of the text -/
inductive Callee (G : Glo) : Value → Prop where
  | builtin (id : String) : Callee G (.builtin id)
  | type (n : String) : Callee G (.type n)
  | def {f : Addr} {o : Obj} {fd : FuncData} : G.hB.get? f = some o → o.data = .func fd → Callee G (.ref f)

theorem callWith_any {A : Around} {E : Value → Shared → Prop} {s : Shared} {pos : Pos} {f : Value} {args : List (Bool × Sem Value)} {Q : Value → Shared → Prop} (hp : args.any (·.1) = false) (hc : Callee G f)
    (h : wpAny (model G.prog G.w) A (spliced args) (fun vs s₁ => At G s₁ ∧ wpAny (model G.prog G.w) A (call f vs) Q E s₁) E s) : wpAny (model G.prog G.w) A (callWith pos f [] args []) Q E s := by
  cases hc with
  | builtin id => exact Calls.callWith_builtin hp (evalArgs_any hp (wpAny_mono h (fun vs s' q => q.2) fun _ _ e => e))
  | type n => exact PyProof.Rows.callWith_type hp (evalArgs_any hp (wpAny_mono h (fun vs s' q => q.2) fun _ _ e => e))
  | «def» ho hd => exact Calls.callWith_function (evalArgs_any hp (wpAny_mono h (fun vs s' q => ⟨⟨q.1.keep _ _ ho, hd⟩, q.2⟩) fun _ _ e => e))

theorem glob_name {A : Around} {E : Value → Shared → Prop} {env : Env} {s : Shared} {x : Str} {pos : Pos} {f : Value} {Q : Value → Shared → Prop} (hx : GlobIs G x f) (fe : FunEnv g env) (ha : At G s) (hk : g.lookup x = some .globalImplicit) (hd : (x == ("__debug__" : Str)) = false) (h : Q f s) :
    wpAny (model G.prog G.w) A (eval (.Name x pos) env) Q E s := by
  obtain ⟨mg, mb, hg, hb, e⟩ := hx
  rcases e with e | ⟨e1, e2⟩
  · exact Calls.Name_function_global fe.kind (fe.global x hk) (Calls.loadGlobal_global (by rw [fe.globals]; exact hg.keeps ha.keep) e h) hd
  · exact Calls.Name_function_global fe.kind (fe.global x hk) (Calls.loadGlobal_builtin (by rw [fe.globals]; exact hg.keeps ha.keep) e1 (by rw [fe.builtins]; exact hb.keeps ha.keep) e2 h) hd

theorem sizeOk_seq {H : List Addr} {h : Heap} {ds : List D} {vs : List Value} (r : Reps H h ds vs) (hz : ds.length ≤ 1000) : sizeOk (.seq vs.toArray) := by
  show vs.toArray.size ≤ _
  rw [List.size_toArray, r.length]
  have : 1000 ≤ sizeLine := by rw [sizeLine_eq]; decide
  lia
/-- a call of a global name -/
theorem Ev.call {x : Str} {p pos : Pos} {es : List Expr} {f : Value} {ds : List D} {d : D} (hx : GlobIs G x f) (hc : Callee G f) (ha : Evs G k g ρ es ds) (h : CallOk G k f ds d)
    (hk : g.lookup x = some .globalImplicit := by rfl) (hd : (x == ("__debug__" : Str)) = false := by decide) : Ev G k g ρ (.Call (.Name x p) es [] pos) d := .mk fun A E env s rm fe at' he =>
  Call_Name rfl (glob_name hx fe at' hk hd (callWith_any (ha.run A E env s pos rm fe at' he).1 hc (wpAny_mono (ha.run A E env s pos rm fe at' he).2 (fun vs s' q =>
    ⟨at'.of q.1, wpAny_mono (h.run A E s' vs rm (at'.of q.1) q.2) (fun v s'' z => ⟨kp_trans q.1 z.1, z.2⟩) fun _ _ e => e⟩) fun _ _ e => e)))

theorem Ev.list {es : List Expr} {ds : List D} {pos : Pos} (h : Evs G k g ρ es ds) (hz : ds.length ≤ 1000 := by decide) : Ev G k g ρ (.List es pos) (.list ds) := .mk fun A E env s rm fe ha he => by
  rw [arm_eval_List]
  refine wpAny_bind (wpAny_standAt (wpAny_bind (wpAny_mono (h.run A E env s pos rm fe ha he).2 (fun vs s' q => ?_) fun _ _ e => e)))
  have hf := (ha.of q.1).fresh
  refine wpAny_newObj_type ?_ (sizeOk_seq q.2 hz)
  refine ⟨kp_trans q.1 (kp_push s' _ s'.toks), ?_⟩
  unfold Rep
  exact ⟨_, vs, rfl, hf, ⟨_, Heap.get?_push_size _ rfl⟩, q.2.keep fun b o e => Heap.get?_push_of_some _ e⟩
theorem Ev.tup {es : List Expr} {ds : List D} {n : Nat} {pos : Pos} (h : Evs G k g ρ es ds) (hz : ds.length ≤ 1000 := by decide) : Ev G k g ρ (.Tuple es n pos) (.tup ds) := .mk fun A E env s rm fe ha he => by
  rw [arm_eval_Tuple]
  refine wpAny_bind (wpAny_standAt (wpAny_bind (wpAny_mono (h.run A E env s pos rm fe ha he).2 (fun vs s' q => ?_) fun _ _ e => e)))
  have hf := (ha.of q.1).fresh
  refine wpAny_newObj_type ?_ (sizeOk_seq q.2 hz)
  refine ⟨kp_trans q.1 (kp_push s' _ s'.toks), ?_⟩
  unfold Rep
  exact ⟨_, vs, rfl, ⟨_, Heap.get?_push_size _ rfl, rfl, _, rfl⟩, q.2.keep fun b o e => Heap.get?_push_of_some _ e⟩
end
end Mine
end

section
open PySem PyProof.Rows
set_option Elab.async false
set_option linter.unusedVariables false
namespace Mine
set_option maxRecDepth 100000
section
variable {G : Glo} {k : Nat} {g : List (Str × NameKind)} {ρ : Names} {a b : Int} {x y : UInt64}

theorem rep_int {H : List Addr} {h : Heap} {a : Int} {t : Tok} : Rep H h (.int a) (.int a t) := by unfold Rep; exact ⟨_, rfl⟩
theorem rep_flt {H : List Addr} {h : Heap} {a : UInt64} {t : Tok} : Rep H h (.flt a) (.float a t) := by unfold Rep; exact ⟨_, rfl⟩
theorem rep_str {H : List Addr} {h : Heap} {a : Str} {t : Tok} : Rep H h (.str a) (.str a t) := by unfold Rep; exact ⟨_, rfl⟩
theorem rep_bool {H : List Addr} {h : Heap} {a : Bool} : Rep H h (.bool a) (.bool a) := by unfold Rep; rfl
theorem rep_none {H : List Addr} {h : Heap} : Rep H h .none .none := by unfold Rep; rfl
theorem int_of {H : List Addr} {h : Heap} {a : Int} {v : Value} (r : Rep H h (.int a) v) : ∃ t, v = .int a t := by unfold Rep at r; exact r
theorem flt_of {H : List Addr} {h : Heap} {a : UInt64} {v : Value} (r : Rep H h (.flt a) v) : ∃ t, v = .float a t := by unfold Rep at r; exact r
theorem str_of {H : List Addr} {h : Heap} {a : Str} {v : Value} (r : Rep H h (.str a) v) : ∃ t, v = .str a t := by unfold Rep at r; exact r
theorem bool_of {H : List Addr} {h : Heap} {a : Bool} {v : Value} (r : Rep H h (.bool a) v) : v = .bool a := by unfold Rep at r; exact r
theorem none_of {H : List Addr} {h : Heap} {v : Value} (r : Rep H h .none v) : v = .none := by unfold Rep at r; exact r
theorem rep_ref {H : List Addr} {h : Heap} {a : Addr} : Rep H h (.ref a) (.ref a) := by unfold Rep; rfl
theorem rep_cst {H : List Addr} {h : Heap} {u : Value} : Rep H h (.cst u) u := by unfold Rep; rfl
theorem cst_of {H : List Addr} {h : Heap} {u v : Value} (r : Rep H h (.cst u) v) : v = u := by unfold Rep at r; exact r
theorem ref_of {H : List Addr} {h : Heap} {a : Addr} {v : Value} (r : Rep H h (.ref a) v) : v = .ref a := by unfold Rep at r; exact r
theorem list_of {H : List Addr} {h : Heap} {l : List D} {v : Value} (r : Rep H h (.list l) v) : ∃ a vs, v = .ref a ∧ a ∉ H ∧ h.IsList a (List.toArray vs) ∧ Reps H h l vs := by unfold Rep at r; obtain ⟨a, vs, e, n, p, q⟩ := r; exact ⟨a, vs, e, n, p.isList, q⟩
theorem plist_of {H : List Addr} {h : Heap} {l : List D} {v : Value} (r : Rep H h (.list l) v) : ∃ a vs, v = .ref a ∧ a ∉ H ∧ h.PlainList a (List.toArray vs) ∧ Reps H h l vs := by unfold Rep at r; exact r
theorem arg_of {H : List Addr} {h : Heap} {l : List D} {v : Value} (r : Rep H h (.arg l) v) : ∃ a vs, v = .ref a ∧ a ∉ H ∧ h.IsList a (List.toArray vs) ∧ Reps H h l vs := by unfold Rep at r; exact r
theorem tup_of {H : List Addr} {h : Heap} {l : List D} {v : Value} (r : Rep H h (.tup l) v) : ∃ a vs, v = .ref a ∧ IsTup h a (List.toArray vs) ∧ Reps H h l vs := by unfold Rep at r; exact r

/-! ints -/
theorem BinOk.mul (h : a.natAbs < 2 ^ 64 ∨ b.natAbs < 2 ^ 64) : BinOk G k .Mult (.int a) (.int b) (.int (a * b)) := by
  constructor
  intro A E s v₁ v₂ _ _ r₁ r₂
  obtain ⟨t, rfl⟩ := int_of r₁; obtain ⟨u, rfl⟩ := int_of r₂
  refine PyProof.Rows.mul_int ⟨kp_tok s _, rep_int⟩ ?_
  rcases h with h | h
  · exact .of_left (intBits_le_64 (by omega) (by omega))
  · exact .of_right (intBits_le_64 (by omega) (by omega))
theorem BinOk.bitxor : BinOk G k .BitXor (.int a) (.int b) (.int (Builtin.bitXor a b)) := by
  constructor
  intro A E s v₁ v₂ _ _ r₁ r₂
  obtain ⟨t, rfl⟩ := int_of r₁; obtain ⟨u, rfl⟩ := int_of r₂
  exact xor_int ⟨kp_tok s _, rep_int⟩
theorem BinOk.bitand : BinOk G k .BitAnd (.int a) (.int b) (.int (Builtin.bitAnd a b)) := by
  constructor
  intro A E s v₁ v₂ _ _ r₁ r₂
  obtain ⟨t, rfl⟩ := int_of r₁; obtain ⟨u, rfl⟩ := int_of r₂
  exact and_int ⟨kp_tok s _, rep_int⟩
theorem BinOk.rshift (h : 0 ≤ b) : BinOk G k .RShift (.int a) (.int b) (.int (a.fdiv (2 ^ b.toNat))) := by
  constructor
  intro A E s v₁ v₂ _ _ r₁ r₂
  obtain ⟨t, rfl⟩ := int_of r₁; obtain ⟨u, rfl⟩ := int_of r₂
  exact rshift_int h ⟨kp_tok s _, rep_int⟩
theorem BinOk.truediv (h0 : b ≠ 0) (hf : Float64.isInf (Float64.ofFrac (decide (a < 0) != decide (b < 0)) a.natAbs b.natAbs) = false) : BinOk G k .Div (.int a) (.int b) (.flt (Float64.ofFrac (decide (a < 0) != decide (b < 0)) a.natAbs b.natAbs)) := by
  constructor
  intro A E s v₁ v₂ _ _ r₁ r₂
  obtain ⟨t, rfl⟩ := int_of r₁; obtain ⟨u, rfl⟩ := int_of r₂
  exact AutoIntOps.truediv_2 (by simpa using h0) (by rw [hf]; exact Bool.false_ne_true) ⟨kp_tok s _, rep_flt⟩
theorem CmpOk.lt : CmpOk G k .Lt (.int a) (.int b) (decide (a < b)) := by
  constructor
  intro A E s v₁ v₂ _ _ r₁ r₂
  obtain ⟨t, rfl⟩ := int_of r₁; obtain ⟨u, rfl⟩ := int_of r₂
  exact PyProof.Rows.lt_int ⟨kp_refl s, rfl⟩
theorem CmpOk.le : CmpOk G k .LtE (.int a) (.int b) (decide (a ≤ b)) := by
  constructor
  intro A E s v₁ v₂ _ _ r₁ r₂
  obtain ⟨t, rfl⟩ := int_of r₁; obtain ⟨u, rfl⟩ := int_of r₂
  exact PyProof.Rows.le_int ⟨kp_refl s, rfl⟩
theorem CmpOk.gt : CmpOk G k .Gt (.int a) (.int b) (decide (b < a)) := by
  constructor
  intro A E s v₁ v₂ _ _ r₁ r₂
  obtain ⟨t, rfl⟩ := int_of r₁; obtain ⟨u, rfl⟩ := int_of r₂
  exact PyProof.Rows.gt_int ⟨kp_refl s, rfl⟩
theorem CmpOk.ge : CmpOk G k .GtE (.int a) (.int b) (decide (b ≤ a)) := by
  constructor
  intro A E s v₁ v₂ _ _ r₁ r₂
  obtain ⟨t, rfl⟩ := int_of r₁; obtain ⟨u, rfl⟩ := int_of r₂
  exact PyProof.Rows.ge_int ⟨kp_refl s, rfl⟩
theorem CmpOk.eq : CmpOk G k .Eq (.int a) (.int b) (a == b) := by
  constructor
  intro A E s v₁ v₂ _ _ r₁ r₂
  obtain ⟨t, rfl⟩ := int_of r₁; obtain ⟨u, rfl⟩ := int_of r₂
  exact PyProof.Rows.eq_int ⟨kp_refl s, rfl⟩
theorem CmpOk.ne : CmpOk G k .NotEq (.int a) (.int b) (a != b) := by
  constructor
  intro A E s v₁ v₂ _ _ r₁ r₂
  obtain ⟨t, rfl⟩ := int_of r₁; obtain ⟨u, rfl⟩ := int_of r₂
  exact PyProof.Rows.ne_int ⟨kp_refl s, rfl⟩

/-! floats -/
theorem BinOk.fadd : BinOk G k .Add (.flt x) (.flt y) (.flt (Float64.add x y)) := by
  constructor
  intro A E s v₁ v₂ _ _ r₁ r₂
  obtain ⟨t, rfl⟩ := flt_of r₁; obtain ⟨u, rfl⟩ := flt_of r₂
  exact AutoFloatOps.add_0 ⟨kp_tok s _, rep_flt⟩
theorem BinOk.fsub : BinOk G k .Sub (.flt x) (.flt y) (.flt (Float64.sub x y)) := by
  constructor
  intro A E s v₁ v₂ _ _ r₁ r₂
  obtain ⟨t, rfl⟩ := flt_of r₁; obtain ⟨u, rfl⟩ := flt_of r₂
  exact AutoFloatOps.sub_0 ⟨kp_tok s _, rep_flt⟩
theorem BinOk.fmul : BinOk G k .Mult (.flt x) (.flt y) (.flt (Float64.mul x y)) := by
  constructor
  intro A E s v₁ v₂ _ _ r₁ r₂
  obtain ⟨t, rfl⟩ := flt_of r₁; obtain ⟨u, rfl⟩ := flt_of r₂
  exact AutoFloatOps.mul_0 ⟨kp_tok s _, rep_flt⟩
theorem BinOk.fdiv (h : Float64.isZero y = false) : BinOk G k .Div (.flt x) (.flt y) (.flt (Float64.div x y)) := by
  constructor
  intro A E s v₁ v₂ _ _ r₁ r₂
  obtain ⟨t, rfl⟩ := flt_of r₁; obtain ⟨u, rfl⟩ := flt_of r₂
  exact AutoFloatOps.truediv_1 (by rw [h]; exact Bool.false_ne_true) ⟨kp_tok s _, rep_flt⟩
theorem BinOk.fmod (h : Float64.isZero y = false) : BinOk G k .Mod (.flt x) (.flt y) (.flt (Float64.divmod x y).2) := by
  constructor
  intro A E s v₁ v₂ _ _ r₁ r₂
  obtain ⟨t, rfl⟩ := flt_of r₁; obtain ⟨u, rfl⟩ := flt_of r₂
  refine AutoFloatOpsIf.mod ?_
  rw [if_neg (by rw [h]; exact Bool.false_ne_true)]
  exact ⟨kp_tok s _, rep_flt⟩
theorem BinOk.fsub_i (h : Float64.isInf (Float64.ofInt b) = false) : BinOk G k .Sub (.flt x) (.int b) (.flt (Float64.sub x (Float64.ofInt b))) := by
  constructor
  intro A E s v₁ v₂ _ _ r₁ r₂
  obtain ⟨t, rfl⟩ := flt_of r₁; obtain ⟨u, rfl⟩ := int_of r₂
  refine AutoFloatOpsIf.sub_fi ?_
  rw [if_neg (by rw [h]; exact Bool.false_ne_true)]
  exact ⟨kp_tok s _, rep_flt⟩
theorem BinOk.fmul_i (h : Float64.isInf (Float64.ofInt b) = false) : BinOk G k .Mult (.flt x) (.int b) (.flt (Float64.mul x (Float64.ofInt b))) := by
  constructor
  intro A E s v₁ v₂ _ _ r₁ r₂
  obtain ⟨t, rfl⟩ := flt_of r₁; obtain ⟨u, rfl⟩ := int_of r₂
  refine AutoFloatOpsIf.mul_fi ?_
  rw [if_neg (by rw [h]; exact Bool.false_ne_true)]
  exact ⟨kp_tok s _, rep_flt⟩
theorem BinOk.imul_f (h : Float64.isInf (Float64.ofInt b) = false) : BinOk G k .Mult (.int b) (.flt x) (.flt (Float64.mul (Float64.ofInt b) x)) := by
  constructor
  intro A E s v₁ v₂ _ _ r₁ r₂
  obtain ⟨t, rfl⟩ := int_of r₁; obtain ⟨u, rfl⟩ := flt_of r₂
  refine AutoFloatOpsIf.mul_if ?_
  rw [if_neg (by rw [h]; exact Bool.false_ne_true)]
  exact ⟨kp_tok s _, rep_flt⟩
theorem BinOk.fdiv_i (h : Float64.isInf (Float64.ofInt b) = false) (h0 : Float64.isZero (Float64.ofInt b) = false) : BinOk G k .Div (.flt x) (.int b) (.flt (Float64.div x (Float64.ofInt b))) := by
  constructor
  intro A E s v₁ v₂ _ _ r₁ r₂
  obtain ⟨t, rfl⟩ := flt_of r₁; obtain ⟨u, rfl⟩ := int_of r₂
  refine AutoFloatOpsIf.truediv_fi ?_
  rw [if_neg (by rw [h]; exact Bool.false_ne_true), if_neg (by rw [h0]; exact Bool.false_ne_true)]
  exact ⟨kp_tok s _, rep_flt⟩
theorem CmpOk.feq : CmpOk G k .Eq (.flt x) (.flt y) (Float64.cmp x y == some Ordering.eq) := by
  constructor
  intro A E s v₁ v₂ _ _ r₁ r₂
  obtain ⟨t, rfl⟩ := flt_of r₁; obtain ⟨u, rfl⟩ := flt_of r₂
  exact AutoFloatOps.eq_0 ⟨kp_refl s, rfl⟩
theorem CmpOk.fle : CmpOk G k .LtE (.flt x) (.flt y) (Float64.cmp x y == some Ordering.lt || Float64.cmp x y == some Ordering.eq) := by
  constructor
  intro A E s v₁ v₂ _ _ r₁ r₂
  obtain ⟨t, rfl⟩ := flt_of r₁; obtain ⟨u, rfl⟩ := flt_of r₂
  exact AutoFloatOps.le_0 ⟨kp_refl s, rfl⟩

/-! bools, texts, none -/
theorem CmpOk.beq {c d : Bool} : CmpOk G k .Eq (.bool c) (.bool d) (c == d) := by
  constructor
  intro A E s v₁ v₂ _ _ r₁ r₂
  rw [bool_of r₁, bool_of r₂]
  exact PyProof.Rows.eq_bool ⟨kp_refl s, rfl⟩
theorem CmpOk.bis {c d : Bool} : CmpOk G k .Is (.bool c) (.bool d) (c == d) := by
  constructor
  intro A E s v₁ v₂ _ _ r₁ r₂
  rw [bool_of r₁, bool_of r₂]
  exact PyProof.Rows.is_bool ⟨kp_refl s, rfl⟩
theorem CmpOk.seq {c d : Str} : CmpOk G k .Eq (.str c) (.str d) (c == d) := by
  constructor
  intro A E s v₁ v₂ _ _ r₁ r₂
  obtain ⟨t, rfl⟩ := str_of r₁; obtain ⟨u, rfl⟩ := str_of r₂
  exact PyProof.Rows.eq_str ⟨kp_refl s, rfl⟩
theorem CmpOk.sne {c d : Str} : CmpOk G k .NotEq (.str c) (.str d) (c != d) := by
  constructor
  intro A E s v₁ v₂ _ _ r₁ r₂
  obtain ⟨t, rfl⟩ := str_of r₁; obtain ⟨u, rfl⟩ := str_of r₂
  exact PyProof.Rows.ne_str ⟨kp_refl s, rfl⟩
noncomputable def isNone : D → Bool
  | .none => true
  | _ => false
noncomputable def notCst : D → Bool
  | .cst _ => false
  | _ => true
theorem CmpOk.isNone {d : D} (hd : notCst d = true := by rfl) : CmpOk G k .Is d .none (isNone d) := by
  constructor
  intro A E s v₁ v₂ _ _ r₁ r₂
  rw [none_of r₂]
  cases d with
  | none => rw [none_of r₁]; exact wpAny_is_self rfl ⟨kp_refl s, rfl⟩
  | bool b => rw [bool_of r₁]; exact wpAny_is_other rfl (by intro x; cases x) ⟨kp_refl s, rfl⟩
  | int i => obtain ⟨t, rfl⟩ := int_of r₁; exact wpAny_is_other rfl (by intro x; cases x) ⟨kp_refl s, rfl⟩
  | flt i => obtain ⟨t, rfl⟩ := flt_of r₁; exact wpAny_is_other rfl (by intro x; cases x) ⟨kp_refl s, rfl⟩
  | str i => obtain ⟨t, rfl⟩ := str_of r₁; exact wpAny_is_other rfl (by intro x; cases x) ⟨kp_refl s, rfl⟩
  | list l => obtain ⟨a, vs, rfl, _⟩ := list_of r₁; exact wpAny_is_other rfl (by intro x; cases x) ⟨kp_refl s, rfl⟩
  | arg l => obtain ⟨a, vs, rfl, _⟩ := arg_of r₁; exact wpAny_is_other rfl (by intro x; cases x) ⟨kp_refl s, rfl⟩
  | tup l => obtain ⟨a, vs, rfl, _⟩ := tup_of r₁; exact wpAny_is_other rfl (by intro x; cases x) ⟨kp_refl s, rfl⟩
  | ref a => rw [ref_of r₁]; exact wpAny_is_other rfl (by intro x; cases x) ⟨kp_refl s, rfl⟩
  | cst v => cases hd

theorem TruthOk.bool {c : Bool} : TruthOk G k (.bool c) c := by
  constructor
  intro A E s v _ _ r
  rw [bool_of r]
  exact wpAny_pure ⟨kp_refl s, rfl⟩
theorem TruthOk.int : TruthOk G k (.int a) (a != 0) := by
  constructor
  intro A E s v _ _ r
  obtain ⟨t, rfl⟩ := int_of r
  exact truthy_int ⟨kp_refl s, rfl⟩

/-! tests, and the like -/
variable {d d₁ d₂ : D} {e : Expr}
theorem Ev.ifT {t bo o : Expr} {pos : Pos} (ht : Tst G k g ρ t true) (h : Ev G k g ρ bo d) : Ev G k g ρ (.IfExp t bo o pos) d := .mk fun A E env s rm fe ha he =>
  IfExp_ (wpAny_mono (ht.run A E env s rm fe ha he) (fun c s₁ q => by
    obtain ⟨kp, rfl⟩ := q
    simp only [if_true]
    exact wpAny_mono (h.run A E env s₁ rm fe (ha.of kp) (he.keep (kp_keep kp))) (fun v s₂ z => ⟨kp_trans kp z.1, z.2⟩) fun _ _ e => e) fun _ _ e => e)
theorem Ev.ifF {t bo o : Expr} {pos : Pos} (ht : Tst G k g ρ t false) (h : Ev G k g ρ o d) : Ev G k g ρ (.IfExp t bo o pos) d := .mk fun A E env s rm fe ha he =>
  IfExp_ (wpAny_mono (ht.run A E env s rm fe ha he) (fun c s₁ q => by
    obtain ⟨kp, rfl⟩ := q
    simp only [Bool.false_eq_true, if_false]
    exact wpAny_mono (h.run A E env s₁ rm fe (ha.of kp) (he.keep (kp_keep kp))) (fun v s₂ z => ⟨kp_trans kp z.1, z.2⟩) fun _ _ e => e) fun _ _ e => e)
theorem Tst.not {t : Expr} {pos : Pos} {b : Bool} (ht : Tst G k g ρ t b) : Tst G k g ρ (.UnaryOp .Not t pos) (!b) := .mk fun A E env s rm fe ha he =>
  isTrue_not (wpAny_mono (ht.run A E env s rm fe ha he) (fun c s₁ q => ⟨q.1, by rw [q.2]⟩) fun _ _ e => e)
theorem Tst.andT {t : Expr} {r : List Expr} {pos : Pos} {b : Bool} (ht : Tst G k g ρ t true) (h : Tst G k g ρ (.BoolOp .And r pos) b) : Tst G k g ρ (.BoolOp .And (t :: r) pos) b := .mk fun A E env s rm fe ha he =>
  isTrue_and (wpAny_mono (ht.run A E env s rm fe ha he) (fun c s₁ q => by
    obtain ⟨kp, rfl⟩ := q
    simp only [if_true]
    exact wpAny_mono (h.run A E env s₁ rm fe (ha.of kp) (he.keep (kp_keep kp))) (fun v s₂ z => ⟨kp_trans kp z.1, z.2⟩) fun _ _ e => e) fun _ _ e => e)
theorem Tst.andF {t : Expr} {r : List Expr} {pos : Pos} (ht : Tst G k g ρ t false) : Tst G k g ρ (.BoolOp .And (t :: r) pos) false := .mk fun A E env s rm fe ha he =>
  isTrue_and (wpAny_mono (ht.run A E env s rm fe ha he) (fun c s₁ q => by
    obtain ⟨kp, rfl⟩ := q
    simp only [Bool.false_eq_true, if_false]
    exact ⟨kp, trivial⟩) fun _ _ e => e)
theorem Tst.and0 {pos : Pos} : Tst G k g ρ (.BoolOp .And [] pos) true := .mk fun A E env s rm fe ha he => isTrue_and_nil ⟨kp_refl s, rfl⟩
theorem Tst.orT {t : Expr} {r : List Expr} {pos : Pos} (ht : Tst G k g ρ t true) : Tst G k g ρ (.BoolOp .Or (t :: r) pos) true := .mk fun A E env s rm fe ha he =>
  isTrue_or (wpAny_mono (ht.run A E env s rm fe ha he) (fun c s₁ q => by
    obtain ⟨kp, rfl⟩ := q
    simp only [if_true]
    exact ⟨kp, trivial⟩) fun _ _ e => e)
theorem Tst.orF {t : Expr} {r : List Expr} {pos : Pos} {b : Bool} (ht : Tst G k g ρ t false) (h : Tst G k g ρ (.BoolOp .Or r pos) b) : Tst G k g ρ (.BoolOp .Or (t :: r) pos) b := .mk fun A E env s rm fe ha he =>
  isTrue_or (wpAny_mono (ht.run A E env s rm fe ha he) (fun c s₁ q => by
    obtain ⟨kp, rfl⟩ := q
    simp only [Bool.false_eq_true, if_false]
    exact wpAny_mono (h.run A E env s₁ rm fe (ha.of kp) (he.keep (kp_keep kp))) (fun v s₂ z => ⟨kp_trans kp z.1, z.2⟩) fun _ _ e => e) fun _ _ e => e)
theorem Tst.or0 {pos : Pos} : Tst G k g ρ (.BoolOp .Or [] pos) false := .mk fun A E env s rm fe ha he => isTrue_or_nil ⟨kp_refl s, rfl⟩
theorem Tst.plain {b : Bool} (h : Ev G k g ρ e d) (ht : TruthOk G k d b) (he : ∀ env whole, isTrue e env whole = (do let v ← whole; standAt e.pos; holding [v] (truthy v)) := by intro _ _; rfl) : Tst G k g ρ e b := .mk fun A E env s rm fe ha hr =>
  isTrue_plain (wpAny_mono (h.run A E env s rm fe ha hr) (fun v s₁ q => wpAny_mono (ht.run A E s₁ v rm (ha.of q.1) q.2) (fun c s₂ z => ⟨kp_trans q.1 z.1, z.2⟩) fun _ _ e => e) fun _ _ e => e) (he env _)
end
end Mine
end

section
open PySem PyProof.Rows
set_option Elab.async false
set_option linter.unusedVariables false
namespace Mine
set_option maxRecDepth 100000

/-! ## unpacking -/
theorem draw_walks {prog : Program} {w : World} {A : Around} {I : Addr} {fp wr : List Addr} {n : Nat} {P : Nat → Value → Prop} {St : Nat → Heap → Prop} (W : Walks prog w A I fp wr n P St) {E : Value → Shared → Prop} :
    ∀ (k i : Nat) (s : Shared) (Q : List Value → Shared → Prop), i + k ≤ n → St i s.heap →
      (∀ vs h' tk, vs.length = k → (∀ j v, vs[j]? = some v → P (i + j) v) → St (i + k) h' → (∀ b o, b ∉ wr → s.heap.get? b = some o → h'.get? b = some o) → Q vs { s with heap := h', toks := tk }) →
      wpAny (model prog w) A (draw (.ref I) k) Q E s
  | 0, i, s, Q, _, st, h => by
    show wpAny _ _ (pure []) Q E s
    exact wpAny_pure (h [] s.heap s.toks rfl (fun j v e => by simp at e) (by simpa using st) fun _ _ _ e => e)
  | k + 1, i, s, Q, hle, st, h => by
    show wpAny _ _ (pyNext (.ref I) >>= _) Q E s
    refine wpAny_bind (W.item i s _ _ (by lia) st fun v h₁ tk₁ hP st₁ k₁ => ?_)
    refine wpAny_bind (wpAny_holding (draw_walks W k (i + 1) _ _ (by lia) st₁ fun vs h₂ tk₂ hl hv st₂ k₂ => wpAny_pure ?_))
    refine h (v :: vs) h₂ tk₂ (by simp [hl]) (fun j u e => ?_) (by rw [show i + (k + 1) = i + 1 + k by lia]; exact st₂) fun b o hb e => k₂ b o hb (k₁ b o hb e)
    cases j with
    | zero => simp at e; subst e; simpa using hP
    | succ j => rw [show i + (j + 1) = i + 1 + j by lia]; exact hv j u (by simpa using e)

theorem unpackItems_list {prog : Program} {w : World} {A : Around} {E : Value → Shared → Prop} {s : Shared} {l : Addr} {vs : List Value} {Q : List Value → Shared → Prop} (hh : A.handled = none) (hl : s.heap.IsList l vs.toArray)
    (h : ∀ h' tk, (∀ b o, s.heap.get? b = some o → h'.get? b = some o) → Q vs { s with heap := h', toks := tk }) : wpAny (model prog w) A (unpackItems (.ref l) vs.length none) Q E s := by
  have hlt : l ≠ s.heap.objs.size := by obtain ⟨o, ho, _⟩ := hl; exact Nat.ne_of_lt (Heap.lt_size ho)
  unfold unpackItems
  refine wpAny_bind ?_
  unfold notIterableAtAll
  refine wpAny_bind (wpAny_specialOf hl.typeIs F.slot_list_iter.lookup ?_)
  refine wpAny_pure ?_
  simp only [Bool.false_eq_true, if_false]
  refine wpAny_bind (wpAny_holding (wpAny_pyIter_list hl ?_))
  have W := Walks.list (prog := prog) (w := w) hh s.heap.objs.size l hlt vs.toArray
  refine wpAny_bind (wpAny_holding (draw_walks W vs.length 0 _ _ (by simp) ⟨⟨_, Heap.get?_push_size _ rfl, rfl, rfl⟩, hl.push _⟩ fun us h₁ tk₁ hlen hv st k₁ => ?_))
  have e : us = vs := by
    apply List.ext_getElem? 
    intro j
    by_cases hj : j < us.length
    · have := hv j us[j] (by simp [hj])
      rw [List.getElem?_eq_getElem hj]
      simpa using this.symm
    · rw [List.getElem?_eq_none (by lia), List.getElem?_eq_none (by lia)]
  subst e
  rw [if_neg (by simp)]
  refine wpAny_bind (wpAny_holding (W.done _ _ _ (by simpa using st) fun h₂ tk₂ k₂ => ?_))
  simp only [Option.isSome_none, Bool.false_eq_true, if_false]
  refine wpAny_pure (h h₂ tk₂ fun b o e => ?_)
  have hb : b ∉ [s.heap.objs.size] := by simp; exact Nat.ne_of_lt (Heap.lt_size e)
  exact k₂ b o hb (k₁ b o hb (Heap.get?_push_of_some _ e))

section
variable {G : Glo} {k : Nat} {sc : Scope} {ρ : Names} {d : D}

theorem unpackItems_any {A : Around} {E : Value → Shared → Prop} {s : Shared} {v : Value} {ds : List D} (hh : A.handled = none) (hd : Rep G.H s.heap (.list ds) v ∨ Rep G.H s.heap (.tup ds) v) {Q : List Value → Shared → Prop}
    (h : ∀ vs s', Keeps s s' → Reps G.H s'.heap ds vs → Q vs s') : wpAny (model G.prog G.w) A (unpackItems v ds.length none) Q E s := by
  rcases hd with r | r
  · obtain ⟨a, vs, rfl, _, hl, rs⟩ := list_of r
    rw [← rs.length]
    exact unpackItems_list hh hl fun h' tk k => h vs _ ⟨h', tk, rfl, k⟩ (rs.keep k)
  · obtain ⟨a, vs, rfl, hl, rs⟩ := tup_of r
    have e : ds.length = vs.toArray.size := by rw [List.size_toArray, rs.length]
    rw [e]
    refine unpackItems_tuple hh hl fun h' k => ?_
    have kk : ∀ b o, s.heap.get? b = some o → h'.get? b = some o := fun b o e => k b o (Nat.ne_of_lt (Heap.lt_size e)) e
    exact h _ _ ⟨h', s.toks, rfl, kk⟩ (by simpa using rs.keep kk)

/-- each of the targets stores a name -/
inductive Tg (env : Env) : List Str → List (Value → Sem Unit) → Prop
  | nil : Tg env [] []
  | cons {x : Str} {t : Value → Sem Unit} {xs : List Str} {ts : List (Value → Sem Unit)} : (∀ (M : Model) (A : Around) (E : Value → Shared → Prop) (v : Value) (s : Shared) (Q : Unit → Shared → Prop), wpAny M A (storeName env x v) Q E s → wpAny M A (t v) Q E s) → Tg env xs ts → Tg env (x :: xs) (t :: ts)

theorem storeAll {A : Around} {E : Value → Shared → Prop} {s₀ : Shared} {env : Env} (de : DefEnv sc env) (hk : sc.kind = .function) {xs : List Str} {ts : List (Value → Sem Unit)} (ht : Tg env xs ts) :
    ∀ (ds : List D) (vs : List Value) (ρ : Names) (s : Shared) (Q : Unit → Shared → Prop), Frm G s₀ env ρ s → Reps G.H s.heap ds vs → xs.length = ds.length → xs.all (storable sc) = true →
    (∀ s', Frm G s₀ env ((xs.zip ds).reverse ++ ρ) s' → Held env s s' → Q () s') → wpAny (model G.prog G.w) A (assignInOrder ts vs) Q E s := by
  induction ht with
  | nil =>
    intro ds vs ρ s Q f r hl _ h
    cases ds with
    | nil => exact wpAny_pure (h s f .refl)
    | cons d ds => simp at hl
  | @cons x t xs ts h1 _ ih =>
    intro ds vs ρ s Q f r hl hs h
    cases ds with
    | nil => simp at hl
    | cons d ds =>
      unfold Reps at r
      obtain ⟨v, vs', rfl, r1, r2⟩ := r
      rw [List.all_cons, Bool.and_eq_true] at hs
      show wpAny _ A (holding vs' (t v) >>= fun _ => assignInOrder ts vs') Q E s
      refine wpAny_bind (wpAny_holding (h1 _ _ _ v s _ (f.store' (by rw [de.scope]; exact hk) (storable_of de hs.1) r1 fun s' f' hl1 tr => ?_)))
      refine ih ds vs' _ s' Q f' (tr _ _ r2) (by simpa using hl) hs.2 fun s'' f'' hl2 => h s'' ?_ (hl1.trans hl2)
      simpa using f''

noncomputable def namesOf : List Expr → Option (List Str)
  | [] => some []
  | .Name x _ :: r => (namesOf r).map (x :: ·)
  | _ => none
theorem names_cons {e : Expr} {r : List Expr} {xs : List Str} (h : namesOf (e :: r) = some xs) : ∃ x p ys, e = .Name x p ∧ namesOf r = some ys ∧ xs = x :: ys := by
  cases e with
  | Name x p =>
    obtain ⟨ys, hy, rfl⟩ := Option.map_eq_some_iff.mp (show (namesOf r).map (x :: ·) = some xs from h)
    exact ⟨x, p, ys, rfl, hy, rfl⟩
  | _ => exact nomatch (show Option.none = some xs from h)
theorem tg_of {env : Env} : ∀ {elts : List Expr} {xs : List Str}, namesOf elts = some xs → Tg env xs ((assignEach elts env).map (·.2)) ∧ (assignEach elts env).length = xs.length ∧ (assignEach elts env).findIdx? (·.1) = none
  | [], xs, h => by cases h; exact ⟨.nil, rfl, rfl⟩
  | e :: r, xs, h => by
    obtain ⟨x, p, ys, rfl, hy, rfl⟩ := names_cons h
    obtain ⟨a, b, c⟩ := tg_of (env := env) hy
    refine ⟨.cons (fun M A E v s Q h => wpAny_bind (wpAny_standAt (wpAny_bindName h))) a, ?_, ?_⟩
    · show _ + 1 = _; rw [b]; rfl
    · show (List.findIdx? _ ((false, assign (.Name x p) env) :: assignEach r env)) = none
      rw [List.findIdx?_cons]; simp [c]
theorem tg_bind {env : Env} : ∀ xs : List Str, Tg env xs (xs.map fun n => bindName env n)
  | [] => .nil
  | x :: xs => .cons (fun M A E v s Q h => wpAny_bindName h) (tg_bind xs)

/-- a, b = e : the value is unpacked, the names are stored in order -/
theorem St.tup {elts : List Expr} {n : Nat} {e : Expr} {tp pos : Pos} {ds : List D} {xs : List Str} (h : Ev G k sc.names ρ e (.list ds) ∨ Ev G k sc.names ρ e (.tup ds)) (hx : namesOf elts = some xs) (hl : xs.length = ds.length) (hs : xs.all (storable sc) = true)
    (h1 : ∀ env, swapsWithSole [.Tuple elts n tp] e pos.line env = pure false := by intro _; rfl) (h2 : ∀ env, DefEnv sc env → swappedStores [.Tuple elts n tp] e env = pure none := by intro _ _; rfl) (hk : sc.kind = .function := by rfl) :
    St G k sc ρ (.Assign [.Tuple elts n tp] e pos) ((xs.zip ds).reverse ++ ρ) := .mk fun A E s₀ env s rm de ha f => by
  have ev : wpAny (model G.prog G.w) A (eval e env) (fun v s' => Keeps s s' ∧ (Rep G.H s'.heap (.list ds) v ∨ Rep G.H s'.heap (.tup ds) v)) E s := by
    rcases h with h | h
    · exact wpAny_mono (h.run A E env s rm (de.fun hk) (ha.frm f) f.rep) (fun v s' q => ⟨q.1, .inl q.2⟩) fun _ _ e => e
    · exact wpAny_mono (h.run A E env s rm (de.fun hk) (ha.frm f) f.rep) (fun v s' q => ⟨q.1, .inr q.2⟩) fun _ _ e => e
  obtain ⟨tg, tl, ti⟩ := tg_of (env := env) hx
  refine Assign_Tuple (wpAny_mono ev (fun v s' q => ?_) fun _ _ e => e) (h1 env) (h2 env de)
  rw [arm_assign_Tuple]
  refine wpAny_bind (wpAny_standAt ?_)
  unfold PySem.unpack
  rw [tl, ti, hl]
  refine wpAny_bind (wpAny_holding (unpackItems_any rm.handled q.2 fun vs s'' kp rs => ?_))
  exact storeAll de hk tg ds vs ρ s'' _ ((f.of q.1).of kp) rs hl hs fun s3 f3 hl => ⟨rfl, f3, ((Held.of q.1).trans (Held.of kp)).trans hl⟩

theorem Reps.reverse {H : List Addr} {h : Heap} : ∀ {ds : List D} {vs : List Value}, Reps H h ds vs → Reps H h ds.reverse vs.reverse
  | [], vs, r => by unfold Reps at r; subst r; unfold Reps; rfl
  | d :: ds, vs, r => by
    unfold Reps at r
    obtain ⟨v, vs', rfl, r1, r2⟩ := r
    rw [List.reverse_cons, List.reverse_cons]
    refine Reps.append (Reps.reverse r2) ?_
    unfold Reps
    exact ⟨v, [], rfl, r1, by unfold Reps; rfl⟩

/-- a, b = x, y : the stores are exchanged -/
theorem St.swap {elts : List Expr} {n : Nat} {e : Expr} {tp pos : Pos} {ds : List D} {xs : List Str} (h : Ev G k sc.names ρ e (.tup ds)) (hl : xs.length = ds.length) (hs : xs.reverse.all (storable sc) = true)
    (h1 : ∀ env, swapsWithSole [.Tuple elts n tp] e pos.line env = pure false := by intro _; rfl) (h2 : ∀ env, DefEnv sc env → swappedStores [.Tuple elts n tp] e env = pure (some xs)) (hk : sc.kind = .function := by rfl) :
    St G k sc ρ (.Assign [.Tuple elts n tp] e pos) ((xs.reverse.zip ds.reverse).reverse ++ ρ) := .mk fun A E s₀ env s rm de ha f => by
  refine Assign_Tuple_swapped (names := xs) (wpAny_mono (h.run A E env s rm (de.fun hk) (ha.frm f) f.rep) (fun v s' q => ?_) fun _ _ e => e) (h1 env) (h2 env de)
  rw [hl]
  refine unpackItems_any rm.handled (.inr q.2) fun vs s'' kp rs => ?_
  refine storeAll de hk (tg_bind xs.reverse) ds.reverse vs.reverse ρ s'' _ ((f.of q.1).of kp) rs.reverse (by simp [hl]) hs fun s3 f3 hl => ⟨rfl, f3, ((Held.of q.1).trans (Held.of kp)).trans hl⟩
end
end Mine
end

section
open PySem PyProof.Rows
set_option Elab.async false
set_option linter.unusedVariables false
namespace Mine
set_option maxRecDepth 100000

/-! ## items -/
structure GetOk (G : Glo) (k : Nat) (d₁ d₂ d : D) : Prop where
  run : ∀ (A : Around) (E : Value → Shared → Prop) (s : Shared) (v₁ v₂ : Value), Room A k → At G s → Rep G.H s.heap d₁ v₁ → Rep G.H s.heap d₂ v₂ →
    (∃ T id, s.TypeIs v₁ T ∧ typeLookup (.type T) "__getitem__" = pure (some (.builtin id))) ∧
    wpAny (model G.prog G.w) A (getItem v₁ v₂) (fun v s' => Keeps s s' ∧ Rep G.H s'.heap d v) E s

section
variable {G : Glo} {k : Nat} {g : List (Str × NameKind)} {ρ : Names} {d d₁ d₂ : D}

theorem sub_tail {A : Around} {E : Value → Shared → Prop} {s : Shared} {value slice : Expr} {o i : Value} {ops : List Value} {T id : String} {Q : Value → Shared → Prop} (hT : s.TypeIs o T)
    (hl : typeLookup (.type T) "__getitem__" = pure (some (.builtin id))) (h : wpAny (model G.prog G.w) A (getItem o i) Q E s)
    (hs : subscripted slice false o i = operate ops (getItem o i)) :
    wpAny (model G.prog G.w) A (subscriptTail value slice o i) Q E s := by
  unfold subscriptTail
  refine wpAny_bind ?_
  rw [getitemInPython_of_ne hT.not_modules]
  refine wpAny_bind (wpAny_specialOf hT hl ?_)
  have fin : wpAny (model G.prog G.w) A (subscripted slice false o i) (fun r s₃ => wpAny (model G.prog G.w) A (letTemporaryGo value o r >>= fun _ => pure r) Q E s₃) E s := by
    rw [hs]
    exact wpAny_operating (wpAny_mono h (fun r s₃ h₃ => wpAny_bind (wpAny_letTemporaryGo (wpAny_pure h₃))) fun _ _ x => x)
  first
    | exact wpAny_pure (wpAny_bind fin)
    | exact wpAny_bind (wpAny_pure (wpAny_bind fin))
    | exact wpAny_bind fin

theorem Ev.sub {value slice : Expr} {pos : Pos} (h₁ : Ev G k g ρ value d₁) (h₂ : Ev G k g ρ slice d₂) (h : GetOk G k d₁ d₂ d)
    (hs : ∀ o i, subscripted slice false o i = operate [o, i] (getItem o i) := by intro _ _; rfl) : Ev G k g ρ (.Subscript value slice pos) d := .mk fun A E env s rm fe ha he =>
  Subscript_ (wpAny_mono (h₁.run A E env s rm fe ha he) (fun v₁ s₁ q₁ => wpAny_mono (h₂.run A E env s₁ rm fe (ha.of q₁.1) (he.keep (kp_keep q₁.1))) (fun v₂ s₂ q₂ => by
    obtain ⟨⟨T, id, hT, hl⟩, w⟩ := h.run A E s₂ v₁ v₂ rm ((ha.of q₁.1).of q₂.1) (q₁.2.keep (kp_keep q₂.1)) q₂.2
    exact sub_tail hT hl (wpAny_mono w (fun v s₃ q => ⟨kp_trans q₁.1 (kp_trans q₂.1 q.1), q.2⟩) fun _ _ e => e) (hs v₁ v₂)) fun _ _ e => e) fun _ _ e => e)

theorem GetOk.list {l : List D} {i : Int} (h0 : 0 ≤ i) (h1 : i < 2 ^ 63) (h : l[i.toNat]? = some d) : GetOk G k (.list l) (.int i) d := by
  constructor
  intro A E s v₁ v₂ rm ha r₁ r₂
  obtain ⟨a, vs, rfl, _, hl, rs⟩ := list_of r₁
  obtain ⟨t, rfl⟩ := int_of r₂
  obtain ⟨v, hv, rv⟩ := rs.get h
  exact ⟨⟨"list", _, hl.typeIs, list_getitem_lookup⟩, wpAny_getItem_list hl h0 h1 (by simpa using hv) ⟨kp_refl s, rv⟩⟩
theorem sidx {i : Int} {n : Nat} (h0 : 0 ≤ i) (h : i.toNat < n) : seqIndex? i n = some i.toNat := by
  unfold seqIndex?
  simp only [if_neg (show ¬ i < 0 by lia)]
  rw [if_pos]
  simp
  lia
theorem GetOk.tup {l : List D} {i : Int} (h0 : 0 ≤ i) (h1 : i < 2 ^ 63) (h : l[i.toNat]? = some d) : GetOk G k (.tup l) (.int i) d := by
  constructor
  intro A E s v₁ v₂ rm ha r₁ r₂
  obtain ⟨a, vs, rfl, hl, rs⟩ := tup_of r₁
  obtain ⟨t, rfl⟩ := int_of r₂
  obtain ⟨v, hv, rv⟩ := rs.get h
  have hlt : i.toNat < vs.length := by
    have := List.getElem?_eq_some_iff.mp hv
    exact this.1
  refine ⟨⟨"tuple", _, hl.typeIs, slot_tuple_getitem.lookup⟩, PyProof.Rows.getItem_tuple hl (by lia) h1 (j := i.toNat) ?_ (by simpa using hv) ⟨kp_refl s, rv⟩⟩
  exact sidx h0 (by simpa using hlt)
theorem GetOk.str {x : Str} {i : Int} {c : Nat} (h0 : 0 ≤ i) (h1 : i < 2 ^ 63) (h : x.cps[i.toNat]? = some c) : GetOk G k (.str x) (.int i) (.str ⟨#[c]⟩) := by
  constructor
  intro A E s v₁ v₂ rm ha r₁ r₂
  obtain ⟨t, rfl⟩ := str_of r₁
  obtain ⟨u, rfl⟩ := int_of r₂
  refine ⟨⟨"str", _, typeIs_str _ _ _, F.slot_str_getitem.lookup⟩, PyProof.Rows.getItem_str (c := c) ?_ ?_ ⟨kp_tok s _, rep_str⟩⟩
  · simp; lia
  · have hlt := (Array.getElem?_eq_some_iff.mp h).1
    rw [show x.length = x.cps.size from rfl, sidx h0 hlt]; exact h
end
end Mine
end

section
open PySem PyProof.Rows
set_option Elab.async false
set_option linter.unusedVariables false
namespace Mine
set_option maxRecDepth 100000

/-! ## walking over a value -/
/-- what every later heap keeps of h: the sequences but those that are written to -/
noncomputable def Later (G : Glo) (h h' : Heap) : Prop := ∀ b o its n, (b ∉ G.H ∨ o.cls = .type "tuple") → o.data = .seq its n → h.get? b = some o → h'.get? b = some o
noncomputable def Lasts (G : Glo) (h : Heap) (d : D) (v : Value) : Prop := ∀ h', Later G h h' → Rep G.H h' d v
theorem Later.of {G : Glo} {h h' : Heap} (k : ∀ b o, h.get? b = some o → h'.get? b = some o) : Later G h h' := fun b o _ _ _ _ e => k b o e
theorem Later.trans {G : Glo} {h h' h'' : Heap} (a : Later G h h') (b : Later G h' h'') : Later G h h'' := fun c o i n q d e => b c o i n q d (a c o i n q d e)
theorem Rep.lasts {G : Glo} {h : Heap} {d : D} {v : Value} (r : Rep G.H h d v) : Lasts G h d v := fun h' l =>
  Rep.mono (fun b o its n hb hd e => l b o its n (.inl hb) hd e) (fun b o its n hc hd e => l b o its n (.inr hc) hd e) r
theorem Reps.lasts {G : Glo} {h : Heap} {d : List D} {v : List Value} (r : Reps G.H h d v) : ∀ h', Later G h h' → Reps G.H h' d v := fun h' l =>
  Reps.mono (fun b o its n hb hd e => l b o its n (.inl hb) hd e) (fun b o its n hc hd e => l b o its n (.inr hc) hd e) r
theorem Rep.later {G : Glo} {h h' : Heap} {d : D} {v : Value} (r : Rep G.H h d v) (l : Later G h h') : Rep G.H h' d v := r.lasts h' l
theorem Lasts.now {G : Glo} {h : Heap} {d : D} {v : Value} (l : Lasts G h d v) : Rep G.H h d v := l h (.of fun _ _ e => e)

/-- the iterator I gives the data ds, one by one; s₁ is the state before it was made -/
noncomputable def calmIter (n : String) : Bool := !["enumerate", "zip", "dict_itemiterator", "dict_reverseitemiterator", "odict_iterator", "itertools.zip_longest", "itertools.pairwise"].contains n
structure GivesX (X : List Addr) (G : Glo) (A : Around) (ds : List D) (s₁ : Shared) (it : Value) (s₂ : Shared) : Prop where
  ex : ∃ I fp wr P St, it = .ref I ∧ Walks G.prog G.w A I fp wr ds.length P St ∧ St 0 s₂.heap ∧ (∀ b ∈ fp, b < s₂.heap.objs.size) ∧ (∀ b ∈ wr, s₁.heap.get? b = none) ∧
    (∀ b ∈ fp, b ∈ wr ∨ ∃ o its n, s₁.heap.get? b = some o ∧ o.data = .seq its n ∧ b ∉ X) ∧
    (∀ i h, St i h → ∀ b ∈ wr, ∀ o its n, h.get? b = some o → ¬ Hard o its n) ∧ (∀ i v, P i v → ∃ d, ds[i]? = some d ∧ Lasts G s₁.heap d v) ∧
    (∀ i h, St i h → ∃ o n, h.get? I = some o ∧ o.cls = .type n ∧ calmIter n = true) ∧ ∀ b ∈ wr, s₁.heap.objs.size ≤ b
noncomputable abbrev Gives' := GivesX []
structure ItrX (X : List Addr) (G : Glo) (k : Nat) (g : List (Str × NameKind)) (ρ : Names) (e : Expr) (ds : List D) : Prop where
  fold : ∀ x env, foldedSetIterable e env x = pure x
  size : ds.length ≤ 1000
  run : ∀ (A : Around) (E : Value → Shared → Prop) (env : Env) (s : Shared), Room A k → FunEnv g env → At G s → EnvRep G.H s.heap env ρ →
    wpAny (model G.prog G.w) A (eval e env) (fun xv s₁ => Keeps s s₁ ∧ wpAny (model G.prog G.w) A (pyIter xv) (fun it s₂ => Keeps s₁ s₂ ∧ GivesX X G A ds s₁ it s₂) E s₁) E s
noncomputable abbrev Itr := ItrX []

section
variable {G : Glo} {k : Nat} {g : List (Str × NameKind)} {ρ : Names} {d : D} {ds : List D}

theorem gives_at {X : List Addr} {A : Around} {E : Value → Shared → Prop} {s : Shared} {a : Addr} {vs : List Value} (hh : A.handled = none) (hX : a ∉ X) (hl : s.heap.IsList a vs.toArray) (rs : Reps G.H s.heap ds vs) (Q : Value → Shared → Prop)
    (h : ∀ it s₂, Keeps s s₂ → GivesX X G A ds s it s₂ → Q it s₂) : wpAny (model G.prog G.w) A (pyIter (.ref a)) Q E s := by
  have hlt : a < s.heap.objs.size := by obtain ⟨o, ho, _⟩ := hl; exact Heap.lt_size ho
  have hlen := rs.length
  have W := Walks.list (prog := G.prog) (w := G.w) (A := A) hh s.heap.objs.size a (Nat.ne_of_lt hlt) vs.toArray
  rw [show vs.toArray.size = ds.length by rw [List.size_toArray, hlen]] at W
  refine wpAny_pyIter_list hl (h _ _ (kp_push s _ s.toks) ⟨_, _, _, _, _, rfl, W, ⟨⟨_, Heap.get?_push_size _ rfl, rfl, rfl⟩, hl.push _⟩, ?_, ?_, ?_, ?_, ?_, fun i h st => let ⟨o, ho, hc, _⟩ := st.1; ⟨o, _, ho, hc, by decide⟩, fun b hb => by simp at hb; rw [hb]; exact Nat.le_refl _⟩)
  · intro b hb
    show b < (s.heap.push _).objs.size
    rw [Heap.size_push]
    simp at hb
    rcases hb with rfl | rfl
    · exact Nat.lt_succ_self _
    · exact Nat.lt_succ_of_lt hlt
  · intro b hb; simp at hb; subst hb
    cases e : s.heap.get? s.heap.objs.size with
    | none => rfl
    | some o => exact absurd (Heap.lt_size e) (Nat.lt_irrefl _)
  · intro b hb; simp at hb
    rcases hb with rfl | rfl
    · exact .inl (by simp)
    · obtain ⟨o, ho, _, n, hd⟩ := hl
      exact .inr ⟨o, _, n, ho, hd, hX⟩
  · intro i h st b hb o its n e hd
    simp at hb; subst hb
    obtain ⟨o', ho', hc', hd'⟩ := st.1
    rw [e] at ho'; cases ho'
    rcases hd with hd | ⟨_, hd⟩
    · rw [hd'] at hd; cases hd
    · rw [hc'] at hd; rcases hd with hd | hd <;> simp at hd
  · intro i v hv
    have hi : i < ds.length := by rw [← hlen]; have := (Array.getElem?_eq_some_iff.mp hv).1; simpa using this
    obtain ⟨u, hu, ru⟩ := rs.get (i := i) (d := ds[i]) (by simp [hi])
    have : u = v := by simp at hv; rw [hu] at hv; cases hv; rfl
    subst this
    exact ⟨_, by simp [hi], ru.lasts⟩
theorem gives_list {X : List Addr} (hX : ∀ x ∈ X, x ∈ G.H) {A : Around} {E : Value → Shared → Prop} {s : Shared} {v : Value} (hh : A.handled = none) (r : Rep G.H s.heap (.list ds) v) (Q : Value → Shared → Prop)
    (h : ∀ it s₂, Keeps s s₂ → GivesX X G A ds s it s₂ → Q it s₂) : wpAny (model G.prog G.w) A (pyIter v) Q E s := by
  obtain ⟨a, vs, rfl, hnH, hl, rs⟩ := list_of r
  exact gives_at hh (fun q => hnH (hX _ q)) hl rs Q h

theorem gives_tup {A : Around} {E : Value → Shared → Prop} {s : Shared} {v : Value} (hh : A.handled = none) (r : Rep G.H s.heap (.tup ds) v) (Q : Value → Shared → Prop)
    (h : ∀ it s₂, Keeps s s₂ → Gives' G A ds s it s₂ → Q it s₂) : wpAny (model G.prog G.w) A (pyIter v) Q E s := by
  obtain ⟨a, vs, rfl, hl, rs⟩ := tup_of r
  have hlt : a < s.heap.objs.size := by obtain ⟨o, ho, _⟩ := hl; exact Heap.lt_size ho
  have hlen := rs.length
  have W := Walks.tuple (prog := G.prog) (w := G.w) (A := A) hh s.heap.objs.size a (Nat.ne_of_lt hlt) vs.toArray
  rw [show vs.toArray.size = ds.length by rw [List.size_toArray, hlen]] at W
  refine wpAny_pyIter_tuple hl (h _ _ (kp_push s _ s.toks) ⟨_, _, _, _, _, rfl, W, ⟨⟨_, Heap.get?_push_size _ rfl, rfl, rfl⟩, hl.push _⟩, ?_, ?_, ?_, ?_, ?_, fun i h st => let ⟨o, ho, hc, _⟩ := st.1; ⟨o, _, ho, hc, by decide⟩, fun b hb => by simp at hb; rw [hb]; exact Nat.le_refl _⟩)
  · intro b hb
    show b < (s.heap.push _).objs.size
    rw [Heap.size_push]
    simp at hb
    rcases hb with rfl | rfl
    · exact Nat.lt_succ_self _
    · exact Nat.lt_succ_of_lt hlt
  · intro b hb; simp at hb; subst hb
    cases e : s.heap.get? s.heap.objs.size with
    | none => rfl
    | some o => exact absurd (Heap.lt_size e) (Nat.lt_irrefl _)
  · intro b hb; simp at hb
    rcases hb with rfl | rfl
    · exact .inl (by simp)
    · obtain ⟨o, ho, hc, n, hd⟩ := hl
      exact .inr ⟨o, _, n, ho, hd, by simp⟩
  · intro i h st b hb o its n e hd
    simp at hb; subst hb
    obtain ⟨o', ho', hc', hd'⟩ := st.1
    rw [e] at ho'; cases ho'
    rcases hd with hd | ⟨_, hd⟩
    · rw [hd'] at hd; cases hd
    · rw [hc'] at hd; rcases hd with hd | hd <;> simp at hd
  · intro i v hv
    have hi : i < ds.length := by rw [← hlen]; have := (Array.getElem?_eq_some_iff.mp hv).1; simpa using this
    obtain ⟨u, hu, ru⟩ := rs.get (i := i) (d := ds[i]) (by simp [hi])
    have : u = v := by simp at hv; rw [hu] at hv; cases hv; rfl
    subst this
    exact ⟨_, by simp [hi], ru.lasts⟩

theorem Itr.list {e : Expr} (h : Ev G k g ρ e (.list ds)) (hz : ds.length ≤ 1000) (hf : ∀ x env, foldedSetIterable e env x = pure x := by intro _ _; rfl) : Itr G k g ρ e ds := ⟨hf, hz, fun A E env s rm fe ha he =>
  wpAny_mono (h.run A E env s rm fe ha he) (fun v s₁ q => ⟨q.1, gives_list (by simp) rm.handled q.2 _ fun _ _ a b => ⟨a, b⟩⟩) fun _ _ e => e⟩
theorem Itr.tup {e : Expr} (h : Ev G k g ρ e (.tup ds)) (hz : ds.length ≤ 1000) (hf : ∀ x env, foldedSetIterable e env x = pure x := by intro _ _; rfl) : Itr G k g ρ e ds := ⟨hf, hz, fun A E env s rm fe ha he =>
  wpAny_mono (h.run A E env s rm fe ha he) (fun v s₁ q => ⟨q.1, gives_tup rm.handled q.2 _ fun _ _ a b => ⟨a, b⟩⟩) fun _ _ e => e⟩
noncomputable def intsD (l : List Int) : List D := l.map .int
noncomputable def upTo (n : Nat) : List D := (List.range n).map fun (i : Nat) => D.int (i : Int)
theorem gives_range {X : List Addr} {A : Around} {E : Value → Shared → Prop} {s : Shared} {r : Addr} {n : Nat} {t u v : Tok} (hh : A.handled = none) (hr : IsRange s.heap r 0 n 1 t u v) (hz : n ≤ 1000) (Q : Value → Shared → Prop)
    (h : ∀ it s₂, Keeps s s₂ → GivesX X G A (upTo n) s it s₂ → Q it s₂) : wpAny (model G.prog G.w) A (pyIter (.ref r)) Q E s := by
  have hsize : Builtin.Range.rangeSize 0 n 1 = n := by rw [rangeSize_nat]; lia
  have hsm : Builtin.Range.small 0 n 1 = true := by
    unfold Builtin.Range.small
    rw [hsize]
    unfold Builtin.Range.rangeFitsLong
    simp
    lia
  refine wpAny_pyIter_range hr hsm ?_
  rw [hsize]
  have W := (Walks.range (prog := G.prog) (w := G.w) (A := A) hh s.heap.objs.size 0 1 n).bound
  refine h _ _ (kp_push s _ s.toks) ⟨s.heap.objs.size, [s.heap.objs.size], [s.heap.objs.size], _, _, rfl, by simpa [upTo] using W, ?_, ?_, ?_, ?_, ?_, ?_, fun i h st => ⟨_, _, st, rfl, by decide⟩, fun b hb => by simp at hb; rw [hb]; exact Nat.le_refl _⟩
  · show (s.heap.push _).get? _ = some _
    rw [Heap.get?_push_size _ rfl]; simp
  · intro b hb; simp at hb; subst hb; show _ < (Heap.push _ _).objs.size; rw [Heap.size_push]; exact Nat.lt_succ_self _
  · intro b hb; simp at hb; subst hb
    cases e : s.heap.get? s.heap.objs.size with
    | none => rfl
    | some o => exact absurd (Heap.lt_size e) (Nat.lt_irrefl _)
  · intro b hb; exact .inl hb
  · intro i h st b hb o its n e hd
    simp at hb; subst hb
    have st' : h.get? _ = some _ := st
    rw [e] at st'; cases st'; rcases hd with hd | ⟨_, hd | hd⟩ <;> simp at hd
  · intro i v hP
    obtain ⟨hi, t, rfl⟩ := hP
    refine ⟨.int i, by simp [upTo, hi], fun h' _ => ?_⟩
    exact rep_int
/-- for i in range(n) -/
theorem Itr.range {X : List Addr} {e : Expr} {p pos : Pos} {n : Nat} (hx : GlobIs G "range" (.type "range")) (ev : Evs G k g ρ [e] [.int n]) (hz : n ≤ 1000) (hk : g.lookup (Str.ofString "range") = some .globalImplicit := by rfl) : ItrX X G k g ρ (.Call (.Name "range" p) [e] [] pos) (upTo n) := by
  refine ⟨fun _ _ => rfl, by simpa [upTo] using hz, fun A E env s rm fe at' he => ?_⟩
  refine Call_Name rfl (glob_name hx fe at' hk (by decide) (callWith_any (ev.run A E env s pos rm fe at' he).1 (.type "range") (wpAny_mono (ev.run A E env s pos rm fe at' he).2 (fun vs s' q => ⟨at'.of q.1, ?_⟩) fun _ _ e => e)))
  obtain ⟨kp, r⟩ := q
  unfold Reps at r
  obtain ⟨v, vs', rfl, r1, r2⟩ := r
  unfold Reps at r2; subst r2
  obtain ⟨t, rfl⟩ := int_of r1
  refine call_range_1 ⟨kp_trans kp (kp_push s' _ _), ?_⟩
  exact gives_range rm.handled (IsRange.new _ _ _ _ _ _ _) hz _ fun _ _ a b => ⟨a, b⟩
end
end Mine
end

section
open PySem PyProof.Rows
set_option Elab.async false
set_option linter.unusedVariables false
namespace Mine
set_option maxRecDepth 100000

/-! ## comprehensions -/
noncomputable def closOf (env : Env) (names : List (Str × NameKind)) (acc : List (Str × Addr)) : List (Str × Addr) :=
  names.foldl (fun cs p => if p.2 == .free then (p.1, (env.cells.lookup p.1).getD 0) :: cs else cs) acc
theorem closure_eq {scope : Scope} {env : Env} (h : ∀ p ∈ scope.names, p.2 = .free → ∃ c, env.cells.lookup p.1 = some c) : closureFor scope env = pure (closOf env scope.names []) := by
  unfold closureFor
  generalize scope.names = ns at h
  have key : ∀ (ns : List (Str × NameKind)) (acc : List (Str × Addr)), (∀ p ∈ ns, p.2 = .free → ∃ c, env.cells.lookup p.1 = some c) →
      (forIn ns acc (fun x cs => match x with | (name, kind) => if (kind == NameKind.free) = true then do let a ← cellOf env name; pure (ForInStep.yield ((name, a) :: cs)) else pure (ForInStep.yield cs)) : Sem _) = pure (closOf env ns acc) := by
    intro ns
    induction ns with
    | nil => intro acc _; rfl
    | cons p r ih =>
      intro acc hp
      obtain ⟨n, kd⟩ := p
      rw [List.forIn_cons]
      have hr := fun acc => ih acc fun p hp' => hp p (List.mem_cons_of_mem _ hp')
      cases hk : kd == NameKind.free with
      | true =>
        obtain ⟨c, hc⟩ := hp (n, kd) List.mem_cons_self (by simpa using hk)
        have e : cellOf env n = pure c := by unfold cellOf; rw [hc]
        simp only [hk, e]
        show (forIn r ((n, c) :: acc) _ : Sem _) = _
        rw [hr]
        have hc' : List.lookup n env.cells = some c := hc
        simp only [closOf, List.foldl_cons, hk, hc', if_true, Option.getD_some]
      | false =>
        simp only [hk]
        show (forIn r acc _ : Sem _) = _
        rw [hr]
        simp only [closOf, List.foldl_cons, hk, Bool.false_eq_true, if_false]
  exact (congrArg (· >>= pure) (key ns [] h))
theorem closOf_lookup {env : Env} {x : Str} {c : Addr} (hc : env.cells.lookup x = some c) : ∀ (ns : List (Str × NameKind)) (acc : List (Str × Addr)), ((x, NameKind.free) ∈ ns ∨ acc.lookup x = some c) → (closOf env ns acc).lookup x = some c
  | [], acc, h => by
    rcases h with h | h
    · cases h
    · exact h
  | (n, kd) :: r, acc, h => by
    show (closOf env r _).lookup x = some c
    refine closOf_lookup hc r _ ?_
    dsimp only
    by_cases hk : (kd == NameKind.free) = true
    · rw [if_pos hk, List.lookup_cons]
      cases hb : x == n with
      | true => right; have : x = n := beq_iff_eq.mp hb; subst this; rw [hc]; rfl
      | false =>
        rcases h with h | h
        · rcases List.mem_cons.mp h with h | h
          · cases h; simp at hb
          · exact .inl h
        · exact .inr h
    · rw [if_neg hk]
      rcases h with h | h
      · rcases List.mem_cons.mp h with h | h
        · cases h; exact absurd rfl hk
        · exact .inl h
      · exact .inr h
theorem lookup_relabel_other {env : Env} {kd : NameKind} (hkd : kd ≠ .free) : ∀ {names : List (Str × NameKind)} {x : Str}, names.lookup x = some kd →
    (names.map fun (n, k) => if (k == NameKind.free && env.scope.kind == .function && env.kindOf n == some .cell) then (n, NameKind.cell) else (n, k)).lookup x = some kd
  | [], _, h => by simp at h
  | (n, k) :: r, x, h => by
    have ih := @lookup_relabel_other env kd hkd r x
    show List.lookup x ((if (k == NameKind.free && env.scope.kind == .function && env.kindOf n == some .cell) = true then (n, NameKind.cell) else (n, k)) :: _) = _
    cases hx : x == n with
    | true =>
      simp only [List.lookup_cons, hx] at h
      cases h
      have : (kd == NameKind.free) = false := by simpa using hkd
      simp [this, List.lookup_cons, hx]
    | false =>
      simp only [List.lookup_cons, hx] at h
      by_cases hc : (k == NameKind.free && env.scope.kind == .function && env.kindOf n == some .cell) = true
      · rw [if_pos hc]; simp only [List.lookup_cons, hx]; exact ih h
      · rw [if_neg hc]; simp only [List.lookup_cons, hx]; exact ih h
theorem lookup_relabel_free {env : Env} (hf : env.scope.kind = .function) : ∀ {names : List (Str × NameKind)} {x : Str}, names.lookup x = some .free → env.kindOf x = some .cell →
    (names.map fun (n, k) => if (k == NameKind.free && env.scope.kind == .function && env.kindOf n == some .cell) then (n, NameKind.cell) else (n, k)).lookup x = some .cell
  | [], _, h, _ => by simp at h
  | (n, k) :: r, x, h, hx' => by
    have ih := @lookup_relabel_free env hf r x
    show List.lookup x ((if (k == NameKind.free && env.scope.kind == .function && env.kindOf n == some .cell) = true then (n, NameKind.cell) else (n, k)) :: _) = _
    cases hx : x == n with
    | true =>
      simp only [List.lookup_cons, hx] at h
      cases h
      have : x = n := beq_iff_eq.mp hx
      subst this
      simp [hf, hx']
    | false =>
      simp only [List.lookup_cons, hx] at h
      by_cases hc : (k == NameKind.free && env.scope.kind == .function && env.kindOf n == some .cell) = true
      · rw [if_pos hc]; simp only [List.lookup_cons, hx]; exact ih h hx'
      · rw [if_neg hc]; simp only [List.lookup_cons, hx]; exact ih h hx'
theorem mem_of_lookup' {α : Type} {x : Str} {v : α} : ∀ {l : List (Str × α)}, l.lookup x = some v → (x, v) ∈ l
  | [], h => by cases h
  | (n, u) :: r, h => by
    rw [List.lookup_cons] at h
    cases hb : x == n with
    | true => rw [hb] at h; cases h; have : x = n := beq_iff_eq.mp hb; subst this; exact List.mem_cons_self
    | false => rw [hb] at h; exact List.mem_cons_of_mem _ (mem_of_lookup' h)

/-- the free names of a comprehension are cells that are bound -/
structure FreeOk (env : Env) (scope : Scope) : Prop where
  ex : ∀ p ∈ scope.names, p.2 = .free → env.kindOf p.1 = some .cell ∧ ∃ c, env.cells.lookup p.1 = some c

theorem comp_fun {scope : Scope} {env : Env} {g : List (Str × NameKind)} {C : Addr} {cl : List (Str × Addr)} (fe : FunEnv g env) (hk : scope.kind = .function) : FunEnv scope.names (compEnvC scope cl C env) :=
  ⟨hk, fe.globals, fe.builtins, fun x kd hk hx => lookup_relabel_other hk hx⟩

section
variable {G : Glo} {k : Nat} {g : List (Str × NameKind)} {ρ : Names} {d : D} {ds : List D}

/-- the names seen within the comprehension: its own, and the free ones -/
noncomputable def freeOf (scope : Scope) (ρ : Names) : Names := ρ.filter fun p => scope.names.lookup p.1 == some .free
theorem lookup_freeOf {scope : Scope} {x : Str} {d : D} : ∀ {ρ : Names}, (freeOf scope ρ).lookup x = some d → ρ.lookup x = some d ∧ scope.names.lookup x = some .free
  | [], h => by cases h
  | (n, u) :: r, h => by
    unfold freeOf at h
    rw [List.filter_cons] at h
    rw [List.lookup_cons]
    by_cases hf : (scope.names.lookup n == some NameKind.free) = true
    · rw [if_pos hf, List.lookup_cons] at h
      cases hb : x == n with
      | true =>
        rw [hb] at h
        have : x = n := beq_iff_eq.mp hb
        subst this
        exact ⟨h, beq_iff_eq.mp hf⟩
      | false => rw [hb] at h; exact lookup_freeOf (ρ := r) h
    · rw [if_neg hf] at h
      have := lookup_freeOf (ρ := r) h
      cases hb : x == n with
      | true =>
        have e : x = n := beq_iff_eq.mp hb
        subst e
        rw [this.2] at hf; exact absurd rfl hf
      | false => exact this

theorem comp_env {scope : Scope} {env : Env} {s s₃ : Shared} {C : Addr} {x : Str} {v : Value} {m : Str → Option Value} (fe : FunEnv g env) (he : EnvRep G.H s.heap env ρ) (fo : FreeOk env scope) (hx : scope.names.lookup x = some .local)
    (hn : s₃.heap.Ns C m) (hm : m x = some v) (kk : ∀ b o, s.heap.get? b = some o → s₃.heap.get? b = some o) (r : Rep G.H s₃.heap d v) :
    EnvRep G.H s₃.heap (compEnvC scope (closOf env scope.names []) C env) ((x, d) :: freeOf scope ρ) := by
  intro y e hy
  rw [List.lookup_cons] at hy
  cases hb : y == x with
  | true =>
    rw [hb] at hy; cases hy
    have : y = x := beq_iff_eq.mp hb
    subst this
    exact ⟨v, .inl ⟨lookup_relabel_other (by decide) hx, m, hn, hm⟩, r⟩
  | false =>
    rw [hb] at hy
    obtain ⟨h1, h2⟩ := lookup_freeOf hy
    obtain ⟨u, hs, ru⟩ := he y e h1
    obtain ⟨hk, c, hc⟩ := fo.ex _ (mem_of_lookup' h2) rfl
    have hk : env.kindOf y = some .cell := hk
    have hc : env.cells.lookup y = some c := hc
    rcases hs with ⟨a, _⟩ | ⟨a, c', e', i⟩ | ⟨a, _⟩
    · rw [hk] at a; cases a
    rotate_left
    · rw [hk] at a; cases a
    · rw [hc] at e'; cases e'
      exact ⟨u, .inr (.inl ⟨lookup_relabel_free fe.kind h2 hk, c, closOf_lookup hc _ _ (.inl (mem_of_lookup' h2)), i.keeps kk⟩), ru.keep kk⟩

mutual
noncomputable def D.solid : D → Bool
  | .none | .bool _ | .int _ | .flt _ | .str _ => true
  | .list l => D.solids l
  | .tup l => D.solids l
  | .ref _ | .arg _ | .cst _ => false
noncomputable def D.solids : List D → Bool
  | [] => true
  | d :: r => d.solid && D.solids r
end
/-- the plain datum that a value that is no reference stands for -/
noncomputable def rdV : Value → D
  | .bool b => .bool b
  | .int i _ => .int i
  | .float x _ => .flt x
  | .str x _ => .str x
  | _ => .none
noncomputable def refV : Value → Bool
  | .ref _ => true
  | _ => false
/-- the object at a is the list or the tuple of vs -/
noncomputable def SeqAt (h : Heap) (T : String) (v : Value) (vs : List Value) : Prop := ∃ a o n, v = .ref a ∧ h.get? a = some o ∧ o.cls = .type T ∧ o.data = .seq vs.toArray n
theorem SeqAt.uniq {h : Heap} {T T' : String} {v : Value} {vs us : List Value} (p : SeqAt h T v vs) (q : SeqAt h T' v us) : T = T' ∧ vs = us := by
  obtain ⟨a, o, n, rfl, ho, hc, hd⟩ := p
  obtain ⟨a', o', n', e, ho', hc', hd'⟩ := q
  cases e
  rw [ho] at ho'; cases ho'
  rw [hc] at hc'; cases hc'
  rw [hd] at hd'
  injection hd' with e1
  exact ⟨rfl, List.toArray_inj e1⟩
theorem SeqAt.ref {h : Heap} {T : String} {v : Value} {vs : List Value} (p : SeqAt h T v vs) : refV v = true := by
  obtain ⟨a, o, n, rfl, _⟩ := p; rfl
theorem Rep.kinds {H : List Addr} {h : Heap} {d : D} {v : Value} (hd : d.solid = true) (r : Rep H h d v) :
    (rdV v = d ∧ refV v = false) ∨ (∃ l vs, d = .list l ∧ SeqAt h "list" v vs ∧ Reps H h l vs) ∨ (∃ l vs, d = .tup l ∧ SeqAt h "tuple" v vs ∧ Reps H h l vs) := by
  cases d with
  | none => unfold Rep at r; subst r; exact .inl ⟨rfl, rfl⟩
  | bool b => unfold Rep at r; subst r; exact .inl ⟨rfl, rfl⟩
  | int i => unfold Rep at r; obtain ⟨t, rfl⟩ := r; exact .inl ⟨rfl, rfl⟩
  | flt i => unfold Rep at r; obtain ⟨t, rfl⟩ := r; exact .inl ⟨rfl, rfl⟩
  | str i => unfold Rep at r; obtain ⟨t, rfl⟩ := r; exact .inl ⟨rfl, rfl⟩
  | list l =>
    unfold Rep at r; obtain ⟨a, vs, rfl, _, pl, rs⟩ := r
    obtain ⟨o, ho, hc, n, hdd⟩ := pl.isList
    exact .inr (.inl ⟨l, vs, rfl, ⟨a, o, n, rfl, ho, hc, hdd⟩, rs⟩)
  | tup l =>
    unfold Rep at r; obtain ⟨a, vs, rfl, ⟨o, ho, hc, n, hdd⟩, rs⟩ := r
    exact .inr (.inr ⟨l, vs, rfl, ⟨a, o, n, rfl, ho, hc, hdd⟩, rs⟩)
  | ref _ => exact Bool.noConfusion (hd : false = true)
  | arg _ => exact Bool.noConfusion (hd : false = true)
  | cst _ => exact Bool.noConfusion (hd : false = true)
theorem Rep.scal_inj {H : List Addr} {h : Heap} {d e : D} {v : Value} (q : rdV v = d ∧ refV v = false) (he : e.solid = true) (r' : Rep H h e v) : d = e := by
  rcases Rep.kinds he r' with ⟨a, _⟩ | ⟨_, _, _, p, _⟩ | ⟨_, _, _, p, _⟩
  · exact q.1.symm.trans a
  · exact absurd (q.2.symm.trans p.ref) (by decide)
  · exact absurd (q.2.symm.trans p.ref) (by decide)
theorem list_tuple : ("list" : String) ≠ "tuple" := by decide
mutual
theorem Rep.inj {H : List Addr} {h : Heap} : ∀ {d e : D} {v : Value}, d.solid = true → e.solid = true → Rep H h d v → Rep H h e v → d = e
  | .list l, e, v, hd, he, r, r' => by
    rcases Rep.kinds hd r with ⟨a, _⟩ | ⟨_, vs, q, p, rs⟩ | ⟨_, _, q, _⟩
    · cases v <;> cases a
    · cases q
      rcases Rep.kinds he r' with ⟨_, a⟩ | ⟨l', us, rfl, p', rs'⟩ | ⟨_, _, _, p', _⟩
      · exact absurd (a.symm.trans p.ref) (by decide)
      · obtain ⟨_, rfl⟩ := p.uniq p'
        rw [Reps.inj hd he rs rs']
      · exact absurd (p.uniq p').1 list_tuple
    · cases q
  | .tup l, e, v, hd, he, r, r' => by
    rcases Rep.kinds hd r with ⟨a, _⟩ | ⟨_, _, q, _⟩ | ⟨_, vs, q, p, rs⟩
    · cases v <;> cases a
    · cases q
    · cases q
      rcases Rep.kinds he r' with ⟨_, a⟩ | ⟨_, _, _, p', _⟩ | ⟨l', us, rfl, p', rs'⟩
      · exact absurd (a.symm.trans p.ref) (by decide)
      · exact absurd (p.uniq p').1 list_tuple.symm
      · obtain ⟨_, rfl⟩ := p.uniq p'
        rw [Reps.inj hd he rs rs']
  | .none, e, v, hd, he, r, r' => Rep.scal_inj ⟨by unfold Rep at r; subst r; rfl, by unfold Rep at r; subst r; rfl⟩ he r'
  | .bool b, e, v, hd, he, r, r' => Rep.scal_inj ⟨by unfold Rep at r; subst r; rfl, by unfold Rep at r; subst r; rfl⟩ he r'
  | .int i, e, v, hd, he, r, r' => by unfold Rep at r; obtain ⟨t, rfl⟩ := r; exact Rep.scal_inj ⟨rfl, rfl⟩ he r'
  | .flt x, e, v, hd, he, r, r' => by unfold Rep at r; obtain ⟨t, rfl⟩ := r; exact Rep.scal_inj ⟨rfl, rfl⟩ he r'
  | .str x, e, v, hd, he, r, r' => by unfold Rep at r; obtain ⟨t, rfl⟩ := r; exact Rep.scal_inj ⟨rfl, rfl⟩ he r'
  | .ref _, e, v, hd, he, r, r' => Bool.noConfusion (hd : false = true)
  | .arg _, e, v, hd, he, r, r' => Bool.noConfusion (hd : false = true)
  | .cst _, e, v, hd, he, r, r' => Bool.noConfusion (hd : false = true)
theorem Reps.inj {H : List Addr} {h : Heap} : ∀ {ds es : List D} {vs : List Value}, D.solids ds = true → D.solids es = true → Reps H h ds vs → Reps H h es vs → ds = es
  | [], [], _, _, _, _, _ => rfl
  | [], e :: es, vs, _, _, r, r' => by
    unfold Reps at r r'
    obtain ⟨_, _, h, _⟩ := r'
    rw [r] at h; cases h
  | d :: ds, [], vs, _, _, r, r' => by
    unfold Reps at r r'
    obtain ⟨_, _, h, _⟩ := r
    rw [r'] at h; cases h
  | d :: ds, e :: es, vs, hd, he, r, r' => by
    unfold Reps at r r'
    obtain ⟨v, us, rfl, r1, r2⟩ := r
    obtain ⟨v', us', h, r1', r2'⟩ := r'
    cases h
    simp only [D.solids, Bool.and_eq_true] at hd he
    rw [Rep.inj hd.1 he.1 r1 r1', Reps.inj hd.2 he.2 r2 r2']
end
end
end Mine
end

section
open PySem PyProof.Rows
set_option Elab.async false
set_option linter.unusedVariables false
namespace Mine
set_option maxRecDepth 100000

theorem At.hp {G : Glo} {s s' : Shared} (a : At G s) (kk : ∀ b o, s.heap.get? b = some o → s'.heap.get? b = some o) : At G s' :=
  ⟨fun b o e => kk b o (a.keep b o e), fun b hb => (a.live b hb).imp fun o e => kk _ _ e, fun b hb => (a.fl b hb).imp fun o e => kk _ _ e, G.invk _ _ kk a.inv⟩

/-- the ifs of a comprehension come out b -/
structure Ifs (G : Glo) (k : Nat) (g : List (Str × NameKind)) (ρ : Names) (cs : List Expr) (b : Bool) : Prop where
  run : ∀ (A : Around) (E : Value → Shared → Prop) (env : Env) (s : Shared), Room A k → FunEnv g env → At G s → EnvRep G.H s.heap env ρ →
    wpAny (model G.prog G.w) A (forIn cs true fun c r => if r = true then do let ok ← isTrue c env (eval c env); pure (ForInStep.yield ok) else pure (ForInStep.yield r)) (fun v s' => v = b ∧ Keeps s s') E s

noncomputable def D.scalar : D → Bool
  | .none | .bool _ | .int _ | .flt _ | .str _ | .ref _ | .cst _ => true
  | _ => false
theorem Rep.scal {H H' : List Addr} {h h' : Heap} {d : D} {v : Value} (hd : d.scalar = true) (r : Rep H h d v) : Rep H' h' d v := by
  cases d <;> simp only [D.scalar, Bool.false_eq_true] at hd <;> unfold Rep at r ⊢ <;> exact r

section
variable {G : Glo} {k : Nat} {g : List (Str × NameKind)} {ρ : Names} {d : D} {ds : List D}
theorem Ifs.nil : Ifs G k g ρ [] true := .mk fun A E env s _ _ _ _ => by
  show wpAny _ _ (pure true) _ _ _
  exact wpAny_pure ⟨rfl, kp_refl s⟩
theorem Ifs.one {c : Expr} {b : Bool} (h : Tst G k g ρ c b) : Ifs G k g ρ [c] b := .mk fun A E env s rm fe ha he => by
  simp only [List.forIn_cons, List.forIn_nil, if_true]
  refine wpAny_bind (wpAny_bind (wpAny_mono (h.run A E env s rm fe ha he) (fun v s' q => ?_) fun _ _ e => e))
  exact wpAny_pure (wpAny_pure ⟨q.2, q.1⟩)

/-- the element of a comprehension: a plain datum, or the thing itself -/
inductive Elt (G : Glo) (k : Nat) (g : List (Str × NameKind)) (ρ : Names) (e : Expr) (x : Str) (d d' : D) : Prop
  | scal : Ev G k g ρ e d' → d'.scalar = true → Elt G k g ρ e x d d'
  | self (p : Pos) : e = .Name x p → (x == ("__debug__" : Str)) = false → d' = d → Elt G k g ρ e x d d'

theorem reps_of {h' : Heap} {pd : D → Bool} {out : D → D} {F : Value → Value → Prop} {p : Value → Bool} : ∀ {es : List D} {vs ys : List Value}, vs.length = es.length → (∀ (j : Nat) (v : Value), vs[j]? = some v → ∃ d, es[j]? = some d ∧ p v = pd d ∧ ∀ y, pd d = true → F v y → Rep G.H h' (out d) y) →
    Paired F (vs.filter p) ys → Reps G.H h' ((es.filter pd).map out) ys
  | [], vs, ys, hl, _, P => by
    have : vs = [] := List.length_eq_zero_iff.mp hl
    subst this
    cases P; unfold Reps; rfl
  | d :: es, [], ys, hl, _, P => by cases hl
  | d :: es, v :: vs, ys, hl, h, P => by
    obtain ⟨d', e, e1, e2⟩ := h 0 v rfl
    cases e
    have ih := fun {ys} => reps_of (h' := h') (pd := pd) (out := out) (F := F) (p := p) (es := es) (vs := vs) (ys := ys) (by simpa using hl) (fun j u hu => h (j + 1) u (by simpa using hu))
    rw [List.filter_cons] at P ⊢
    rw [e1] at P
    cases hp : pd d with
    | true =>
      rw [hp] at P
      simp only [if_true] at P ⊢
      cases P with
      | cons a b =>
        rw [List.map_cons]; unfold Reps
        exact ⟨_, _, rfl, e2 _ hp a, ih b⟩
    | false =>
      rw [hp] at P
      simp only [Bool.false_eq_true, if_false] at P ⊢
      exact ih P

/-- the walk of a comprehension, whatever takes its list -/
theorem comp_quiet {elt : Expr} {x : Str} {ifs : List Expr} {scope : Scope} (pd : D → Bool) (out : D → D) (hkind : scope.kind = .function) (hx : scope.names.lookup x = some .local) (hso : D.solids ds = true)
    (tests : ∀ d ∈ ds, Ifs G k scope.names ((x, d) :: freeOf scope ρ) ifs (pd d)) (helt : ∀ d ∈ ds, pd d = true → Elt G k scope.names ((x, d) :: freeOf scope ρ) elt x d (out d))
    {A : Around} {env : Env} {s s₁ s₂ : Shared} {it : Value} (rm : Room A k) (fe : FunEnv g env) (ha : At G s) (he : EnvRep G.H s.heap env ρ) (fo : FreeOk env scope) (k1 : Keeps s s₁) (k2 : Keeps s₁ s₂) (gv : Gives' G A ds s₁ it s₂) :
    ∃ I fp wr P St p F, it = .ref I ∧ Walks G.prog G.w A I fp wr ds.length P St ∧ St 0 s₂.heap ∧ (∀ b ∈ fp, b < s₂.heap.objs.size) ∧ (∀ b ∈ wr, s₁.heap.get? b = none) ∧
      QuietOnC G.prog G.w A env scope (closOf env scope.names []) x ifs elt wr P p F s₂ ∧
      ∀ (ys : List Value) (vs : List Value) (h' : Heap), vs.length = ds.length → (∀ (j : Nat) (v : Value), vs[j]? = some v → P j v) → Paired F (vs.filter p) ys → Later G s₁.heap h' → Reps G.H h' ((ds.filter pd).map out) ys := by
  classical
  obtain ⟨I, fp, wr, P, St, rfl, W, hst, hfp, hwr, _, _, hP, _⟩ := gv
  have uniq : ∀ {d d' : D} {v : Value}, d ∈ ds → d' ∈ ds → Lasts G s₁.heap d v → Lasts G s₁.heap d' v → d = d' := by
    have sol : ∀ {l : List D} {d : D}, D.solids l = true → d ∈ l → d.solid = true := by
      intro l
      induction l with
      | nil => intro d _ h; cases h
      | cons a l ih =>
        intro d h hm
        simp only [D.solids, Bool.and_eq_true] at h
        rcases List.mem_cons.mp hm with rfl | hm
        · exact h.1
        · exact ih h.2 hm
    intro d d' v h1 h2 l1 l2
    exact Rep.inj (sol hso h1) (sol hso h2) l1.now l2.now
  let p : Value → Bool := fun v => decide (∃ d ∈ ds, Lasts G s₁.heap d v ∧ pd d = true)
  let F : Value → Value → Prop := fun v y => ∀ d ∈ ds, Lasts G s₁.heap d v → pd d = true → Lasts G s₁.heap (out d) y
  have pv : ∀ {d : D} {v : Value}, d ∈ ds → Lasts G s₁.heap d v → p v = pd d := by
    intro d v hd l
    show decide _ = _
    cases hpd : pd d with
    | true => exact decide_eq_true ⟨d, hd, l, hpd⟩
    | false =>
      refine decide_eq_false fun ⟨d', hd', l', hp'⟩ => ?_
      rw [uniq hd hd' l l', hp'] at hpd; cases hpd
  have kk1 := kp_keep k1
  have old : ∀ {s₃ : Shared}, (∀ b o, b ∉ wr → s₂.heap.get? b = some o → s₃.heap.get? b = some o) → ∀ b o, s₁.heap.get? b = some o → s₃.heap.get? b = some o := fun h b o e =>
    h b o (fun hb => by rw [hwr b hb] at e; cases e) (kp_keep k2 b o e)
  refine ⟨I, fp, wr, P, St, p, F, rfl, W, hst, hfp, hwr, ⟨?_, ?_⟩, ?_⟩
  · intro C i v s₃ m₃ E' hC hv hn hm hk htk
    obtain ⟨d, hd, hl⟩ := hP i v hv
    have hmem := List.mem_of_getElem? hd
    have o3 := old hk
    rw [pv hmem hl]
    exact (tests d hmem).run A E' _ s₃ rm (comp_fun fe hkind) (ha.hp fun b o e => o3 b o (kk1 b o e)) (comp_env fe he fo hx hn hm (fun b o e => o3 b o (kk1 b o e)) (hl _ (.of o3)))
  · intro C i v s₃ m₃ E' hC hv hpv hn hm hk htk
    obtain ⟨d, hd, hl⟩ := hP i v hv
    have hmem := List.mem_of_getElem? hd
    have o3 := old hk
    rw [pv hmem hl] at hpv
    rcases helt d hmem hpv with ⟨ev, sc⟩ | ⟨p', rfl, hdb, ho⟩
    · refine wpAny_mono (ev.run A E' _ s₃ rm (comp_fun fe hkind) (ha.hp fun b o e => o3 b o (kk1 b o e)) (comp_env fe he fo hx hn hm (fun b o e => o3 b o (kk1 b o e)) (hl _ (.of o3)))) (fun y s₄ q => ⟨?_, q.1⟩) fun _ _ e => e
      intro d' hd' l' _ h'' _
      rw [← uniq hmem hd' hl l']
      exact q.2.scal sc
    · refine wpAny_Name (wpAny_loadName_local hkind (lookup_relabel_other (by decide) hx) hn hm ⟨?_, kp_refl s₃⟩) hdb
      intro d' hd' l' hp'
      rw [← uniq hmem hd' hl l'] at hp' ⊢
      rw [ho]; exact hl
  · intro ys vs h' hlen hvs hpr lt
    refine reps_of hlen (fun j v hv => ?_) hpr
    obtain ⟨d, hd, hl⟩ := hP j v (hvs j v hv)
    have hmem := List.mem_of_getElem? hd
    exact ⟨d, hd, pv hmem hl, fun y hp hF => hF d hmem hl hp h' lt⟩

theorem le_sizeLine {n : Nat} (h : n ≤ 1000) : n ≤ sizeLine := by rw [sizeLine_eq]; lia

/-- every free name of the comprehension is a bound cell of the frame -/
noncomputable def freesOk (scope : Scope) (g : List (Str × NameKind)) (ρ : Names) : Bool := scope.names.all fun p => p.2 != .free || (g.lookup p.1 == some .cell && (ρ.lookup p.1).isSome)
theorem FreeOk.of {scope : Scope} {env : Env} {H : List Addr} {h : Heap} (hf : freesOk scope g ρ = true) (fe : FunEnv g env) (he : EnvRep H h env ρ) : FreeOk env scope := ⟨fun p hp hk => by
  have := List.all_eq_true.mp hf p hp
  rw [hk] at this
  rw [Bool.or_eq_true] at this
  rcases this with h | h
  · cases h
  · rw [Bool.and_eq_true] at h
    have h1 := fe.names p.1 _ (by decide) (beq_iff_eq.mp h.1)
    refine ⟨h1, ?_⟩
    obtain ⟨d, hd⟩ := Option.isSome_iff_exists.mp h.2
    obtain ⟨v, hs, _⟩ := he _ _ hd
    rcases hs with ⟨a, _⟩ | ⟨a, c, e', i⟩ | ⟨a, _⟩
    · rw [h1] at a; cases a
    · exact ⟨c, e'⟩
    · rw [h1] at a; cases a⟩

theorem ev_comp {elt iter : Expr} {x : Str} {px : Pos} {ifs : List Expr} {scope : Scope} {pos : Pos} (pd : D → Bool) (out : D → D) (hit : Itr G k g ρ iter ds) (hso : D.solids ds = true)
    (tests : ∀ d ∈ ds, Ifs G k scope.names ((x, d) :: freeOf scope ρ) ifs (pd d)) (helt : ∀ d ∈ ds, pd d = true → Elt G k scope.names ((x, d) :: freeOf scope ρ) elt x d (out d))
    (hfree : freesOk scope g ρ = true := by rfl)
    (hcell : ∀ y ∈ scope.names, y.2 ≠ .cell := by decide +kernel) (hkind : scope.kind = .function := by rfl)
    (hnames : ∀ y ∈ scope.names, y.2 = .local → scope.names.lookup y.1 = some .local := by decide +kernel) (hx : scope.names.lookup x = some .local := by rfl) :
    Ev G k g ρ (.ListComp elt [⟨.Name x px, iter, ifs, 0⟩] scope pos) (.list ((ds.filter pd).map out)) := .mk fun A E env s rm fe ha he => by
  have fo := FreeOk.of hfree fe he
  rw [eval_ListComp]
  refine wpAny_comprehension_free (use := none) rfl (fun x => hit.fold x env) (closure_eq fun p hp h => (fo.ex p hp h).2) hkind hnames (wpAny_mono (hit.run A E env s rm fe ha he) (fun xv s₁ q => wpAny_mono q.2 (fun it s₂ q2 => ?_) fun _ _ e => e) fun _ _ e => e)
  have k1 := q.1
  have k2 := q2.1
  obtain ⟨I, fp, wr, P, St, p, F, rfl, W, hst, hfp, hwr, hq, fin⟩ := comp_quiet pd out hkind hx hso tests helt rm fe ha he fo q.1 q2.1 q2.2
  refine comp_block_walkC (RR := fun acc C => compPost (model G.prog G.w) A E none (fun v s' => Keeps s s' ∧ Rep G.H s'.heap (.list ((ds.filter pd).map out)) v) acc C) W (le_sizeLine hit.size) p F hcell hkind hx hst hfp hq ?_
  intro D C h' tk m' ys vs hD hC hDC hn hl hpl hlen hP hF hk
  refine ⟨m', hn, fun h'' hs'' => ?_⟩
  have kk : ∀ b o, s₁.heap.get? b = some o → h''.get? b = some o := fun b o e => by
    have e2 := kp_keep k2 b o e
    exact hs''.extBut b o (by rintro rfl; rw [hC] at e2; cases e2) (hk b o (fun hb => by rw [hwr b hb] at e; cases e) e2)
  have kp : Keeps s₁ { s₂ with heap := h'', toks := tk } := by
    obtain ⟨h₂, tk₂, e2, _⟩ := k2
    exact ⟨h'', tk, by rw [e2], kk⟩
  refine ⟨kp_trans k1 kp, ?_⟩
  unfold Rep
  refine ⟨D, ys.toList, rfl, fun hm => ?_, by simpa using hpl.extBut hs''.extBut hDC, fin ys.toList vs h'' hlen hP hF (.of kk)⟩
  obtain ⟨o, e⟩ := (ha.hp fun b o e => kp_keep k2 b o (kp_keep k1 b o e)).live D hm
  rw [hD] at e; cases e

/-- objects that are no sequences, no frame and no cell may change -/
theorem Frm.but {s₀ s : Shared} {env : Env} {ρ : Names} {wr : List Addr} {h' : Heap} {tk : Nat} (f : Frm G s₀ env ρ s) (kk : ∀ b o, b ∉ wr → s.heap.get? b = some o → h'.get? b = some o) (n1 : env.locals ∉ wr) (n2 : ∀ n c, env.cells.lookup n = some c → c ∉ wr)
    (n3 : ∀ b ∈ wr, s₀.heap.get? b = none) (n4 : ∀ b ∈ wr, ∀ o its n, s.heap.get? b = some o → ¬ Hard o its n) (n5 : ∀ c ∈ wr, c ∉ G.F ∧ c ∉ G.H) : Frm G s₀ env ρ { s with heap := h', toks := tk } := by
  obtain ⟨m, cm, I, h⟩ := f.ex
  obtain ⟨h₁, tk₁, es⟩ := I.toInCall.same
  have lt : ∀ {d : D} {v : Value}, Rep G.H s.heap d v → Rep G.H h' d v := fun r => r.later fun b o its n _ hd e => kk b o (fun hb => n4 b hb o its n e (.inl hd)) e
  have at' : At G { s with heap := h', toks := tk } := f.at_but n3 n5 n4 kk
  refine ⟨f.base, at', f.off, m, cm, ⟨⟨⟨h', tk, by rw [es]⟩, I.toInCall.ns.at' fun o e => kk _ o n1 e, fun b o e => kk b o (fun hb => by rw [n3 b hb] at e; cases e) (I.toInCall.keep b o e), I.toInCall.fresh⟩, fun n c hc => ?_, I.apart, I.above⟩, fun x d e => ?_⟩
  · obtain ⟨o, ho, hd⟩ := I.cell n c hc
    exact ⟨o, kk _ o (n2 n c hc) ho, hd⟩
  · obtain ⟨v, b, r⟩ := h x d e
    exact ⟨v, b, lt r⟩
theorem Frm.store_local {s₀ s : Shared} {env : Env} {ρ : Names} {x : Str} {d : D} {v : Value} (f : Frm G s₀ env ρ s) (hl : env.kindOf x = some .local) (r : Rep G.H s.heap d v) :
    ∃ m, s.heap.Ns env.locals m ∧ ∀ h' tk, h'.Ns env.locals (fun z => if z = x then some v else m z) → Heap.SameBut env.locals s.heap h' → Frm G s₀ env ((x, d) :: ρ) { s with heap := h', toks := tk } := by
  obtain ⟨m, cm, I, hr⟩ := f.ex
  obtain ⟨h₁, tk₁, es⟩ := I.toInCall.same
  refine ⟨m, I.toInCall.ns, fun h' tk hn' hs' => ⟨f.base, f.at_locals (tk := tk) (fun b o hb e => hs'.extBut b o hb e), f.off, _, cm, ⟨⟨⟨h', _, by rw [es]⟩, hn', fun b o e => ?_, I.toInCall.fresh⟩, fun n c hc => ?_, I.apart, I.above⟩, fun y e hy => ?_⟩⟩
  · exact hs'.extBut b o (Nat.ne_of_lt (Nat.lt_of_lt_of_le (Heap.lt_size e) I.toInCall.fresh)) (I.toInCall.keep b o e)
  · exact (I.cell n c hc).sameBut hs' (Nat.ne_of_gt (I.above n c (mem_of_lookup hc)))
  · obtain ⟨oL, es', ep, hoL, hdL, _⟩ := I.toInCall.ns
    have tr : ∀ {d : D} {v : Value}, Rep G.H s.heap d v → Rep G.H h' d v := fun r => Rep.mono
      (fun b o its n _ hd e => hs'.extBut b o (by rintro rfl; rw [hoL] at e; cases e; rw [hdL] at hd; cases hd) e)
      (fun b o its n _ hd e => hs'.extBut b o (by rintro rfl; rw [hoL] at e; cases e; rw [hdL] at hd; cases hd) e) r
    rw [List.lookup_cons] at hy
    cases hb : y == x with
    | true =>
      rw [hb] at hy; cases hy
      have : y = x := beq_iff_eq.mp hb
      subst this
      exact ⟨v, .inl ⟨hl, by simp⟩, tr r⟩
    | false =>
      rw [hb] at hy
      obtain ⟨u, b, ru⟩ := hr y e hy
      have hne : y ≠ x := fun q => by rw [q] at hb; simp at hb
      refine ⟨u, ?_, tr ru⟩
      rcases b with ⟨a, b⟩ | b
      · exact .inl ⟨a, by simp [hne, b]⟩
      · exact .inr b
theorem Frm.places {s₀ s : Shared} {env : Env} {ρ : Names} (f : Frm G s₀ env ρ s) : (∃ o es ep, s.heap.get? env.locals = some o ∧ o.data = .dict es ep) ∧ (∀ n c, env.cells.lookup n = some c → ∃ o v, s.heap.get? c = some o ∧ o.data = .cell v) ∧ ∀ b o, s₀.heap.get? b = some o → s.heap.get? b = some o := by
  obtain ⟨m, cm, I, h⟩ := f.ex
  refine ⟨?_, fun n c hc => ?_, I.toInCall.keep⟩
  · obtain ⟨o, es, ep, ho, hd, _⟩ := I.toInCall.ns
    exact ⟨o, es, ep, ho, hd⟩
  · obtain ⟨o, ho, hd⟩ := I.cell n c hc
    exact ⟨o, _, ho, hd⟩
theorem Frm.seqL {s₀ s : Shared} {env : Env} {ρ : Names} (f : Frm G s₀ env ρ s) {b : Addr} {o : Obj} {its : Array Value} {n : Nat} (ho : s.heap.get? b = some o) (hd : o.data = .seq its n) : b ≠ env.locals ∧ ∀ n c, env.cells.lookup n = some c → b ≠ c := by
  obtain ⟨⟨oL, esL, epL, hoL, hdL⟩, hce, _⟩ := f.places
  refine ⟨fun e => ?_, fun n c hc e => ?_⟩
  · subst e; rw [hoL] at ho; cases ho; rw [hdL] at hd; cases hd
  · subst e
    obtain ⟨o', v, ho', hd'⟩ := hce n _ hc
    rw [ho'] at ho; cases ho; rw [hd'] at hd; cases hd
theorem Frm.nL {s₀ s : Shared} {env : Env} {ρ : Names} (f : Frm G s₀ env ρ s) {wr : List Addr} (live : ∀ a o, s.heap.get? a = some o → a ∉ wr) : env.locals ∉ wr := by
  obtain ⟨⟨oL, _, _, hoL, _⟩, _⟩ := f.places
  exact live _ _ hoL
theorem Frm.nC {s₀ s : Shared} {env : Env} {ρ : Names} (f : Frm G s₀ env ρ s) {wr : List Addr} (live : ∀ a o, s.heap.get? a = some o → a ∉ wr) (n : Str) (c : Addr) (hc : env.cells.lookup n = some c) : c ∉ wr := by
  obtain ⟨_, hce, _⟩ := f.places
  obtain ⟨o, _, ho, _⟩ := hce n c hc
  exact live _ _ ho
theorem Frm.n0 {s₀ s : Shared} {env : Env} {ρ : Names} (f : Frm G s₀ env ρ s) {wr : List Addr} (live : ∀ a o, s.heap.get? a = some o → a ∉ wr) (b : Addr) (hb : b ∈ wr) : s₀.heap.get? b = none := by
  cases e : s₀.heap.get? b with
  | none => rfl
  | some o => exact absurd hb (live _ _ (f.places.2.2 _ _ e))
theorem Frm.n5 {s₀ s : Shared} {env : Env} {ρ : Names} (f : Frm G s₀ env ρ s) {wr : List Addr} (live : ∀ a o, s.heap.get? a = some o → a ∉ wr) (c : Addr) (hc : c ∈ wr) : c ∉ G.F ∧ c ∉ G.H := by
  refine ⟨fun q => ?_, fun q => ?_⟩
  · obtain ⟨o, e⟩ := f.at_.fl c q; exact live _ _ e hc
  · obtain ⟨o, e⟩ := f.at_.live c q; exact live _ _ e hc
theorem Frm.apL {s₀ s : Shared} {env : Env} {ρ : Names} (f : Frm G s₀ env ρ s) {wr : List Addr} (live : ∀ a o, s.heap.get? a = some o → a ∉ wr) {b : Addr} (h : b ∈ wr) : b ≠ env.locals ∧ ∀ n c, env.cells.lookup n = some c → b ≠ c :=
  ⟨fun e => f.nL live (e ▸ h), fun n c hc e => f.nC live n c hc (e ▸ h)⟩
theorem Frm.fpL {s₀ s : Shared} {env : Env} {ρ : Names} (f : Frm G s₀ env ρ s) {fp wr X : List Addr} (live : ∀ a o, s.heap.get? a = some o → a ∉ wr)
    (hfo : ∀ b ∈ fp, b ∈ wr ∨ ∃ o its n, s.heap.get? b = some o ∧ o.data = .seq its n ∧ b ∉ X) (b : Addr) (hb : b ∈ fp) : b ≠ env.locals ∧ ∀ n c, env.cells.lookup n = some c → b ≠ c := by
  rcases hfo b hb with h | ⟨o, its, n, ho, hd, _⟩
  · exact f.apL live h
  · exact f.seqL ho hd
theorem Frm.size {s₀ s : Shared} {env : Env} {ρ : Names} (f : Frm G s₀ env ρ s) : s₀.heap.objs.size ≤ env.locals := by
  obtain ⟨m, cm, Ic, _⟩ := f.ex
  exact Ic.toInCall.fresh
theorem Frm.n0ge {s₀ s s₁ s₂ : Shared} {env : Env} {ρ ρ' : Names} {G' : Glo} (f : Frm G s₀ env ρ s) (f' : Frm G' s₁ env ρ' s₂) {wr : List Addr} (hge : ∀ b ∈ wr, s.heap.objs.size ≤ b) (b : Addr) (hb : b ∈ wr) : s₁.heap.get? b = none := by
  obtain ⟨⟨oL, _, _, hoL, _⟩, _⟩ := f.places
  obtain ⟨m, cm, Ic, _⟩ := f'.ex
  have e2 : s₁.heap.objs.size ≤ env.locals := Ic.toInCall.fresh
  exact Heap.get?_none_of_le (Nat.le_trans e2 (Nat.le_trans (Nat.le_of_lt (Heap.lt_size hoL)) (hge b hb)))

/-- y = [elt for x in iter if ...] : the store comes before the comprehension's own names go -/
theorem st_comp {sc : Scope} {elt iter : Expr} {x y : Str} {px py : Pos} {ifs : List Expr} {scope : Scope} {pos spos : Pos} (pd : D → Bool) (out : D → D) (hit : Itr G k sc.names ρ iter ds) (hso : D.solids ds = true)
    (tests : ∀ d ∈ ds, Ifs G k scope.names ((x, d) :: freeOf scope ρ) ifs (pd d)) (helt : ∀ d ∈ ds, pd d = true → Elt G k scope.names ((x, d) :: freeOf scope ρ) elt x d (out d))
    (hy : sc.names.lookup y = some .local := by rfl) (hsw : ∀ env, DefEnv sc env → swapsWith (.ListComp elt [⟨.Name x px, iter, ifs, 0⟩] scope pos) (some (.Name y py)) spos.line env = pure true) (hfree : freesOk scope sc.names ρ = true := by rfl)
    (hcell : ∀ y ∈ scope.names, y.2 ≠ .cell := by decide +kernel) (hkind : scope.kind = .function := by rfl)
    (hnames : ∀ y ∈ scope.names, y.2 = .local → scope.names.lookup y.1 = some .local := by decide +kernel) (hx : scope.names.lookup x = some .local := by rfl) (hsk : sc.kind = .function := by rfl) :
    St G k sc ρ (.Assign [.Name y py] (.ListComp elt [⟨.Name x px, iter, ifs, 0⟩] scope pos) spos) ((y, .list ((ds.filter pd).map out)) :: ρ) := .mk fun A E s₀ env s rm de ha f => by
  have fe := de.fun hsk
  have he := f.rep
  have has := ha.frm f
  have fo := FreeOk.of hfree fe he
  rw [exec_Assign_Name_used _ _ _ _ (hsw env de)]
  refine wpAny_bind (wpAny_standAt (wpAny_bind ?_))
  show wpAny _ A (do let _ ← comprehension (.ListComp elt [⟨.Name x px, iter, ifs, 0⟩] scope pos) scope env _ (newList []) false (eval iter env) (some (assign (.Name y py) env))) _ _ s
  refine wpAny_bind (wpAny_mono (wpAny_comprehension_free (use := some (assign (.Name y py) env)) (Q := fun _ s' => Frm G s₀ env ((y, .list ((ds.filter pd).map out)) :: ρ) s' ∧ Held env s s') rfl (fun x => hit.fold x env) (closure_eq fun p hp h => (fo.ex p hp h).2) hkind hnames (wpAny_mono (hit.run A E env s rm fe has he) (fun xv s₁ q => wpAny_mono q.2 (fun it s₂ q2 => ?_) fun _ _ e => e) fun _ _ e => e))
    (fun _ s' hq => wpAny_pure (wpAny_pure ⟨rfl, hq⟩)) fun _ _ e => e)
  have k1 := q.1
  have k2 := q2.1
  obtain ⟨I, fp, wr, P, St, p, F, rfl, W, hst, hfp, hwr, hq, fin⟩ := comp_quiet pd out hkind hx hso tests helt rm fe has he fo q.1 q2.1 q2.2
  refine comp_block_walkC (RR := fun acc C => compPost (model G.prog G.w) A E (some (assign (.Name y py) env)) (fun _ s' => Frm G s₀ env ((y, .list ((ds.filter pd).map out)) :: ρ) s' ∧ Held env s s') acc C) W (le_sizeLine hit.size) p F hcell hkind hx hst hfp hq ?_
  intro D C h' tk m' ys vs hD hC hDC hn hl hpl hlen hP hF hk
  show wpAny _ A (assign (.Name y py) env (.ref D)) _ _ _
  have kk : ∀ b o, s₁.heap.get? b = some o → h'.get? b = some o := fun b o e => by
    have e2 := kp_keep k2 b o e
    exact hk b o (fun hb => by rw [hwr b hb] at e; cases e) e2
  have kp : Keeps s₁ { s₂ with heap := h', toks := tk } := by
    obtain ⟨h₂, tk₂, e2, _⟩ := k2
    exact ⟨h', tk, by rw [e2], kk⟩
  have f' := (f.of k1).of kp
  have rD : Rep G.H h' (.list ((ds.filter pd).map out)) (.ref D) := by
    unfold Rep
    refine ⟨D, ys.toList, rfl, fun hm => ?_, by simpa using hpl, fin ys.toList vs h' hlen hP hF (.of kk)⟩
    obtain ⟨o, e⟩ := (has.hp fun b o e => kp_keep k2 b o (kp_keep k1 b o e)).live D hm
    rw [hD] at e; cases e
  obtain ⟨⟨oL, esL, epL, hoL, hdL⟩, hce, hs0⟩ := f.places
  have hCo : ∀ b o, s.heap.get? b = some o → b ≠ C := fun b o e => by
    rintro rfl
    rw [kp_keep k2 _ _ (kp_keep k1 _ _ e)] at hC; cases hC
  have hyk : env.kindOf y = some .local := fe.names y _ (by decide) hy
  obtain ⟨mL, hnL, put⟩ := f'.store_local hyk rD
  refine wpAny_assign_Name (wpAny_storeName_local hyk hnL (fun h₂ hn₂ hs₂ => ?_) (by rw [fe.kind]; rfl))
  have hLC := hCo _ _ hoL
  have hnC := hn.sameBut hs₂ (Ne.symm hLC)
  refine ⟨m', hnC, fun h₃ hs₃ => ?_⟩
  refine ⟨?_, ⟨fun b o h1 _ e => hs₃.extBut b o (hCo _ _ e) (hs₂.extBut b o h1 (kk b o (kp_keep k1 b o e)))⟩⟩
  refine (put h₂ _ hn₂ hs₂).but (wr := [C]) (fun b o hb e => hs₃.extBut b o (by simpa using hb) e) (by simpa using hLC) (fun n c hc => ?_) (fun b hb => ?_) (fun b hb o its n e hd => ?_) (fun b hb => ?_)
  · obtain ⟨o, v, ho, _⟩ := hce n c hc
    simpa using hCo _ _ ho
  · have hb := List.mem_singleton.mp hb
    subst hb
    cases e : s₀.heap.get? b with
    | none => rfl
    | some o => exact absurd rfl (hCo _ _ (hs0 _ _ e))
  · have hb := List.mem_singleton.mp hb
    subst hb
    obtain ⟨o', es, ep, ho', hd', _⟩ := hnC
    rw [ho'] at e; cases e
    rcases hd with hd | ⟨hd, _⟩ <;> (rw [hd'] at hd; cases hd)
  · have hb := List.mem_singleton.mp hb
    subst hb
    refine ⟨fun q => ?_, fun q => ?_⟩
    · obtain ⟨o, e⟩ := has.fl _ q; exact hCo _ _ e rfl
    · obtain ⟨o, e⟩ := has.live _ q; exact hCo _ _ e rfl
end
end Mine
end

section
open PySem PyProof.Rows
set_option Elab.async false
set_option linter.unusedVariables false
namespace Mine
set_option maxRecDepth 100000

/-! ## for -/
theorem letGo_calm {prog : Program} {w : World} {A : Around} {E : Value → Shared → Prop} {s : Shared} {target : Expr} {I : Addr} {v : Value} {o : Obj} {n : String} {Q : Unit → Shared → Prop} (ho : s.heap.get? I = some o) (hc : o.cls = .type n) (hn : calmIter n = true) (h : Q () s) :
    wpAny (model prog w) A (letOwnedTupleGo target (.ref I) v) Q E s := by
  have hn' : ["enumerate", "zip", "dict_itemiterator", "dict_reverseitemiterator", "odict_iterator", "itertools.zip_longest", "itertools.pairwise"].contains n = false := by
    unfold calmIter at hn; simpa using hn
  have key : ∀ a : Addr, wpAny (model prog w) A (do
      let o ← load I
      match o.cls, o.data with
      | .type n, .fields vs =>
        if ["enumerate", "zip", "dict_itemiterator", "dict_reverseitemiterator", "odict_iterator", "itertools.zip_longest", "itertools.pairwise"].contains n && vs[0]? == some (rawInt a) then
          rule "for.unpacks-the-owned-tuple"
          updateField I 0 .none
      | _, _ => pure ()) Q E s := by
    intro a
    refine wpAny_bind (wpAny_load ho ?_)
    rw [hc]
    cases hd : o.data with
    | fields vs =>
      show wpAny _ _ (if (_ && _) = true then _ else _) _ _ _
      rw [hn']
      exact wpAny_pure h
    | _ => exact wpAny_pure h
  cases target with
  | Tuple elts x p => 
    cases v with
    | ref a => exact key a
    | _ => exact wpAny_pure h
  | List elts p =>
    cases v with
    | ref a => exact key a
    | _ => exact wpAny_pure h
  | _ => exact wpAny_pure h

/-- the target takes d, which names it as δ says -/
structure Put (G : Glo) (k : Nat) (sc : Scope) (target : Expr) (d : D) (δ : Names) : Prop where
  run : ∀ (A : Around) (E : Value → Shared → Prop) (s₀ : Shared) (env : Env) (ρ : Names) (s : Shared) (v : Value) (Q : Unit → Shared → Prop), Room A k → DefEnv sc env → Bs G s₀ → Frm G s₀ env ρ s → Rep G.H s.heap d v →
    (∀ s', Frm G s₀ env (δ ++ ρ) s' → Held env s s' → Q () s') → wpAny (model G.prog G.w) A (assign target env v) Q E s
noncomputable def Sub (ρ' ρ : Names) : Prop := ∀ x d, ρ'.lookup x = some d → ρ.lookup x = some d
theorem Frm.weak {G : Glo} {s₀ s : Shared} {env : Env} {ρ ρ' : Names} (f : Frm G s₀ env ρ s) (h : Sub ρ' ρ) : Frm G s₀ env ρ' s := by
  obtain ⟨m, cm, I, hh⟩ := f.ex
  exact ⟨f.base, f.at_, f.off, m, cm, I, fun x d e => hh x d (h x d e)⟩

section
variable {G : Glo} {k : Nat} {sc : Scope} {ρ ρ' : Names} {d : D} {ds : List D}
theorem Put.name {x : Str} {p : Pos} (hx : storable sc x = true := by decide +kernel) (hk : sc.kind = .function := by rfl) : Put G k sc (.Name x p) d [(x, d)] := .mk fun A E s₀ env ρ s v Q rm de ha f r h =>
  wpAny_assign_Name (f.store (de.fun hk).kind (storable_of de hx) r fun s' f' hl => h s' f' hl)
theorem Put.tup {elts : List Expr} {n : Nat} {p : Pos} {xs : List Str} (hd : d = .list ds ∨ d = .tup ds) (hx : namesOf elts = some xs) (hl : xs.length = ds.length) (hs : xs.all (storable sc) = true) (hk : sc.kind = .function := by rfl) :
    Put G k sc (.Tuple elts n p) d (xs.zip ds).reverse := .mk fun A E s₀ env ρ s v Q rm de ha f r h => by
  obtain ⟨tg, tl, ti⟩ := tg_of (env := env) hx
  rw [arm_assign_Tuple]
  refine wpAny_bind (wpAny_standAt ?_)
  unfold PySem.unpack
  rw [tl, ti, hl]
  refine wpAny_bind (wpAny_holding (unpackItems_any rm.handled (by rcases hd with rfl | rfl; exact .inl r; exact .inr r) fun vs s'' kp rs => ?_))
  exact storeAll de hk tg ds vs ρ s'' _ (f.of kp) rs hl hs fun s3 f3 hl => h s3 f3 ((Held.of kp).trans hl)

theorem for_core {target iter : Expr} {body orelse : List Stmt} {pos : Pos} (ρs : Nat → Names) (δ : D → Names) (N : Nat) (hN : N ≤ ds.length) (hit : Itr G k sc.names (ρs 0) iter ds) (put : ∀ d ∈ ds, Put G k sc target d (δ d))
    (turn : ∀ i d, i < N → ds[i]? = some d → ∃ ρ', Sts G k sc (δ d ++ ρs i) body ρ' ∧ Sub (ρs (i + 1)) ρ') (hk : sc.kind = .function)
    {A : Around} {E : Value → Shared → Prop} {s₀ : Shared} {env : Env} {s : Shared} (rm : Room A k) (de : DefEnv sc env) (ha : Bs G s₀) (f : Frm G s₀ env (ρs 0) s) {Q : Flow → Shared → Prop}
    (fin : N = ds.length → ∀ E' s', Frm G s₀ env (ρs N) s' → Held env s s' → wpAny (model G.prog G.w) A (execs orelse env) Q E' s')
    (back : ∀ d, ds[N]? = some d → ∀ E' s', Frm G s₀ env (δ d ++ ρs N) s' → Held env s s' → wpAny (model G.prog G.w) A (execs body env) (fun fl s3 => ∃ v, fl = .ret v ∧ Q (.ret v) s3) E' s') :
    wpAny (model G.prog G.w) A (exec (.For target iter body orelse pos) env) Q E s := by
  refine wpAny_For (wpAny_mono (hit.run A E env s rm (de.fun hk) (ha.frm f) f.rep) (fun xv s₁ q => wpAny_mono q.2 (fun it s₂ q2 => ?_) fun _ _ e => e) fun _ _ e => e) (fun x => hit.fold x env)
  obtain ⟨I, fp, wr, P, St, rfl, W, hst, hfp, hwr, hfo, hsoft, hP, hcalm, hge⟩ := q2.2.ex
  have k1 := q.1
  have k2 := q2.1
  have f1 := f.of k1
  have f2 := f1.of k2
  have live : ∀ a o, s₁.heap.get? a = some o → a ∉ wr := fun a o e h => by rw [hwr _ h] at e; cases e
  have fpL := f1.fpL live hfo
  refine codeAny_forLoop_any (fun n s' => ∃ i, i ≤ N ∧ n = ds.length + 1 - i ∧ St i s'.heap ∧ Frm G s₀ env (ρs i) s' ∧ Held env s₁ s') ?_ (ds.length + 1) ⟨0, Nat.zero_le _, rfl, hst, f2, .of k2⟩
  rintro n s' ⟨i, hi, rfl, st, fi, hd⟩
  have hsof := hsoft i _ st
  by_cases hlt : i < ds.length
  · refine W.item i s' _ _ hlt st fun v h' tk hPv st' kk => ?_
    obtain ⟨d, hds, hl⟩ := hP i v hPv
    have f' := fi.but (tk := tk) kk (f1.nL live) (f1.nC live) (f1.n0 live) hsof (f1.n5 live)
    obtain ⟨oI, nI, hoI, hcI, hcm⟩ := hcalm _ _ st'
    refine letGo_calm hoI hcI hcm ?_
    have hd' : Held env s₁ { s' with heap := h', toks := tk } := ⟨fun b o h1 h2 e => kk b o (live b o e) (hd.k b o h1 h2 e)⟩
    have later : Later G s₁.heap h' := fun b o its n _ hdd e => hd'.k b o (f1.seqL e hdd).1 (f1.seqL e hdd).2 e
    refine (put d (List.mem_of_getElem? hds)).run A _ s₀ env (ρs i) _ v _ rm de ha f' (hl h' later) fun s4 f4 hl4 => ?_
    have st4 : St (i + 1) s4.heap := W.frame _ _ _ st' fun b hb o e => hl4.k b o (fpL b hb).1 (fpL b hb).2 e
    by_cases hiN : i < N
    · obtain ⟨ρ', hb, hsub⟩ := turn i d hiN hds
      refine wpAny_mono (hb.run A _ s₀ env s4 rm de ha f4) (fun fl s5 z => ?_) fun _ _ e => e
      obtain ⟨rfl, f5, hl5⟩ := z
      exact ⟨_, by lia, i + 1, hiN, rfl, W.frame _ _ _ st4 fun b hb o e => hl5.k b o (fpL b hb).1 (fpL b hb).2 e, f5.weak hsub, (hd'.trans hl4).trans hl5⟩
    · have e : i = N := by lia
      subst e
      refine wpAny_mono (back d hds _ s4 f4 (((Held.of k1).trans hd').trans hl4)) (fun fl s5 z => ?_) fun _ _ e => e
      obtain ⟨v, rfl, hQ⟩ := z
      exact hQ
  · have e : i = ds.length := by lia
    subst e
    have e : N = ds.length := by lia
    subst e
    refine W.done s' _ _ st fun h' tk kk => ?_
    exact fin rfl _ _ (fi.but (tk := tk) kk (f1.nL live) (f1.nC live) (f1.n0 live) hsof (f1.n5 live)) ((Held.of k1).trans ⟨fun b o h1 h2 e => kk b o (live b o e) (hd.k b o h1 h2 e)⟩)

/-- for target in iter: body, to its end -/
theorem St.for {target iter : Expr} {body : List Stmt} {pos : Pos} (ρs : Nat → Names) (δ : D → Names) (hit : Itr G k sc.names (ρs 0) iter ds) (put : ∀ d ∈ ds, Put G k sc target d (δ d))
    (turn : ∀ i d, i < ds.length → ds[i]? = some d → ∃ ρ', Sts G k sc (δ d ++ ρs i) body ρ' ∧ Sub (ρs (i + 1)) ρ') (hk : sc.kind = .function := by rfl) :
    St G k sc (ρs 0) (.For target iter body [] pos) (ρs ds.length) := .mk fun A E s₀ env s rm de ha f =>
  for_core ρs δ ds.length (Nat.le_refl _) hit put turn hk rm de ha f (fun _ E' s' f' hl => wpAny_execs_nil ⟨rfl, f', hl⟩) (fun d e => by rw [List.getElem?_eq_none (Nat.le_refl _)] at e; cases e)
/-- for target in iter: body, where turn N returns -/
theorem Ret.for {target iter : Expr} {body orelse rest : List Stmt} {pos : Pos} {r : D} (ρs : Nat → Names) (δ : D → Names) (N : Nat) (hN : N < ds.length) (hit : Itr G k sc.names (ρs 0) iter ds) (put : ∀ d ∈ ds, Put G k sc target d (δ d))
    (turn : ∀ i d, i < N → ds[i]? = some d → ∃ ρ', Sts G k sc (δ d ++ ρs i) body ρ' ∧ Sub (ρs (i + 1)) ρ') (last : ∀ d, ds[N]? = some d → Ret G k sc (δ d ++ ρs N) body r) (hk : sc.kind = .function := by rfl) :
    Ret G k sc (ρs 0) (.For target iter body orelse pos :: rest) r := .mk fun A E s₀ env s rm de ha f =>
  wpAny_execs_cons (for_core ρs δ N (Nat.le_of_lt hN) hit put turn hk rm de ha f (fun e => absurd e (Nat.ne_of_lt hN)) fun d hd E' s' f' hl =>
    wpAny_mono ((last d hd).run A E' s₀ env s' rm de ha f') (fun fl s3 z => by obtain ⟨v, rfl, z⟩ := z; exact ⟨v, rfl, v, rfl, z⟩) fun _ _ e => e)
end
end Mine
end

section
open PySem PyProof.Rows
set_option Elab.async false
set_option linter.unusedVariables false
namespace Mine
set_option maxRecDepth 100000

/-! ## built-ins -/
theorem reps_ints {H : List Addr} {h : Heap} : ∀ {l : List Int} {vs : List Value}, Reps H h (l.map .int) vs → IntsAre vs l
  | [], vs, r => by
    rw [List.map_nil] at r
    unfold Reps at r; subst r; exact .nil
  | a :: l, vs, r => by
    rw [List.map_cons] at r
    unfold Reps at r
    obtain ⟨v, vs', rfl, r1, r2⟩ := r
    obtain ⟨t, rfl⟩ := int_of r1
    exact .cons a t (reps_ints r2)
theorem ints_reps {H : List Addr} {h : Heap} : ∀ {l : List Int} {vs : List Value}, IntsAre vs l → Reps H h (l.map .int) vs
  | _, _, .nil => by rw [List.map_nil]; unfold Reps; rfl
  | _, _, .cons a t r => by rw [List.map_cons]; unfold Reps; exact ⟨_, _, rfl, rep_int, ints_reps r⟩
theorem reps_strs {H : List Addr} {h : Heap} : ∀ {l : List Str} {vs : List Value}, Reps H h (l.map .str) vs → StrsAre vs l
  | [], vs, r => by
    rw [List.map_nil] at r
    unfold Reps at r; subst r; exact .nil
  | a :: l, vs, r => by
    rw [List.map_cons] at r
    unfold Reps at r
    obtain ⟨v, vs', rfl, r1, r2⟩ := r
    obtain ⟨t, rfl⟩ := str_of r1
    exact .cons a t (reps_strs r2)
theorem strs_reps {H : List Addr} {h : Heap} : ∀ {l : List (Str × Tok)} , Reps H h ((l.map (·.1)).map .str) (strValues l)
  | [] => by simp only [List.map_nil, strValues]; unfold Reps; rfl
  | (x, t) :: r => by
    simp only [List.map_cons, strValues]; unfold Reps
    exact ⟨_, _, rfl, rep_str, strs_reps (l := r)⟩
theorem ints_items : ∀ {l : List Int} {vs : List Value}, IntsAre vs l → ∃ xs : List (Int × Tok), vs = xs.map (fun p => Value.int p.1 p.2) ∧ xs.map (·.1) = l
  | _, _, .nil => ⟨[], rfl, rfl⟩
  | _, _, .cons a t r => by
    obtain ⟨xs, rfl, rfl⟩ := ints_items r
    exact ⟨(a, t) :: xs, rfl, rfl⟩

theorem reps1 {H : List Addr} {h : Heap} {d : D} {vs : List Value} (r : Reps H h [d] vs) : ∃ v, vs = [v] ∧ Rep H h d v := by
  unfold Reps at r
  obtain ⟨v, vs', rfl, r1, r2⟩ := r
  unfold Reps at r2; subst r2
  exact ⟨v, rfl, r1⟩
theorem reps2 {H : List Addr} {h : Heap} {d e : D} {vs : List Value} (r : Reps H h [d, e] vs) : ∃ v u, vs = [v, u] ∧ Rep H h d v ∧ Rep H h e u := by
  unfold Reps at r
  obtain ⟨v, vs', rfl, r1, r2⟩ := r
  obtain ⟨u, rfl, r3⟩ := reps1 r2
  exact ⟨v, u, rfl, r1, r3⟩
theorem reps3 {H : List Addr} {h : Heap} {d e f : D} {vs : List Value} (r : Reps H h [d, e, f] vs) : ∃ v u x, vs = [v, u, x] ∧ Rep H h d v ∧ Rep H h e u ∧ Rep H h f x := by
  unfold Reps at r
  obtain ⟨v, vs', rfl, r1, r2⟩ := r
  obtain ⟨u, x, rfl, r3, r4⟩ := reps2 r2
  exact ⟨v, u, x, rfl, r1, r3, r4⟩

theorem kp_heap {s : Shared} {h' : Heap} {tk : Nat} (k : ∀ b o, s.heap.get? b = some o → h'.get? b = some o) : Keeps s { s with heap := h', toks := tk } := ⟨h', tk, rfl, k⟩

section
variable {G : Glo} {k : Nat} {g : List (Str × NameKind)} {ρ : Names} {a b : Int} {x y z : UInt64} {l : List Int}
theorem CallOk.max2 : CallOk G k (.builtin "max") [.int a, .int b] (.int (if b > a then b else a)) := by
  constructor
  intro A E s vs rm ha r
  obtain ⟨v, u, rfl, r1, r2⟩ := reps2 r
  obtain ⟨t, rfl⟩ := int_of r1; obtain ⟨t', rfl⟩ := int_of r2
  refine max_two_ints rm.handled fun h' tk kk => ⟨kp_heap kk, ?_⟩
  split <;> exact rep_int
theorem CallOk.min2 : CallOk G k (.builtin "min") [.int a, .int b] (.int (if b < a then b else a)) := by
  constructor
  intro A E s vs rm ha r
  obtain ⟨v, u, rfl, r1, r2⟩ := reps2 r
  obtain ⟨t, rfl⟩ := int_of r1; obtain ⟨t', rfl⟩ := int_of r2
  refine min_two_ints rm.handled fun h' tk kk => ⟨kp_heap kk, ?_⟩
  split <;> exact rep_int
theorem CallOk.minL {m : Int} (hm : m ∈ l) (hl : ∀ a ∈ l, m ≤ a) : CallOk G k (.builtin "min") [.list (l.map .int)] (.int m) := by
  constructor
  intro A E s vs rm ha r
  obtain ⟨v, rfl, r1⟩ := reps1 r
  obtain ⟨a, us, rfl, _, hli, rs⟩ := list_of r1
  obtain ⟨xs, rfl, e⟩ := ints_items (reps_ints rs)
  subst e
  have hne : 0 < xs.length := by
    cases xs with
    | nil => simp at hm
    | cons p q => simp
  have hi : (xs.map fun p => Value.int p.1 p.2).toArray = intItems xs.toArray := by simp [intItems]
  rw [hi] at hli
  have hne' : 0 < xs.toArray.size := by simpa using hne
  have hsz : xs.toArray.size = xs.length := by simp
  refine min_intList rm.handled hli hne' fun v h' tk hv kk => ?_
  obtain ⟨t, rfl⟩ := intItems_at hv
  generalize hB : argBest (fun i j => decide (numAt xs.toArray i < numAt xs.toArray j)) (xs.toArray.size - 1) = B at hv
  obtain ⟨h1, h2⟩ := argBest_lt (numAt xs.toArray) (xs.toArray.size - 1)
  rw [hB] at h1 h2
  refine ⟨kp_heap kk, ?_⟩
  have e : numAt xs.toArray B = m := by
    refine Int.le_antisymm ?_ ?_
    · obtain ⟨j, hj, hjm⟩ := List.getElem_of_mem hm
      have hj' : j < xs.length := by simpa using hj
      have := h2 j (by lia)
      have e2 : numAt xs.toArray j = m := by
        rw [numAt_eq, List.getD_eq_getElem?_getD, List.getElem?_eq_getElem (by simpa using hj)]
        exact hjm
      rw [e2] at this; exact this
    · refine hl _ ?_
      rw [numAt_eq]
      have hlt : B < (xs.map (·.1)).length := by rw [List.length_map]; lia
      rw [List.getD_eq_getElem?_getD, List.getElem?_eq_getElem (by simpa using hlt)]
      exact List.getElem_mem _
  rw [e]; exact rep_int
theorem CallOk.sumL (hs : PySem.SumFits l) : CallOk G k (.builtin "sum") [.list (l.map .int)] (.int l.sum) := by
  constructor
  intro A E s vs rm ha r
  obtain ⟨v, rfl, r1⟩ := reps1 r
  obtain ⟨a, us, rfl, _, hli, rs⟩ := list_of r1
  obtain ⟨xs, rfl, e⟩ := ints_items (reps_ints rs)
  subst e
  have hi : (xs.map fun p => Value.int p.1 p.2).toArray = intItems xs.toArray := by simp [intItems]
  rw [hi] at hli
  refine sum_intList rm.handled hli (fun j hj => ?_) fun h' tk t' kk => ⟨kp_heap kk, ?_⟩
  · rw [numAt_eq, preSum_eq]
    exact hs j (by simpa using hj)
  · rw [preSum_eq]
    have : List.take xs.toArray.size (List.map (fun x => x.fst) xs.toArray.toList) = xs.map (·.1) := List.take_of_length_le (by simp)
    rw [this]; exact rep_int
theorem CallOk.lenL {ds : List D} (hz : ds.length ≤ 1000) : CallOk G k (.builtin "len") [.list ds] (.int ds.length) := by
  constructor
  intro A E s vs rm ha r
  obtain ⟨v, rfl, r1⟩ := reps1 r
  obtain ⟨a, us, rfl, _, hli, rs⟩ := list_of r1
  have := rs.length
  refine len_list hli (by simp; lia) ⟨kp_tok s _, ?_⟩
  rw [show us.toArray.size = ds.length by simp [this]]
  exact rep_int
theorem CallOk.tupL {ds : List D} (hz : ds.length ≤ 1000) : CallOk G k (.type "tuple") [.list ds] (.tup ds) := by
  constructor
  intro A E s vs rm ha r
  obtain ⟨v, rfl, r1⟩ := reps1 r
  obtain ⟨a, us, rfl, _, hli, rs⟩ := list_of r1
  have := rs.length
  refine call_tuple_list hli (fun h' kk => ⟨⟨_, _, rfl, fun b o e => Heap.get?_push_of_some _ (kk b o e)⟩, ?_⟩) (le_sizeLine (by simp; lia))
  unfold Rep
  exact ⟨_, us, rfl, ⟨_, Heap.get?_push_size _ rfl, rfl, _, rfl⟩, rs.keep fun b o e => Heap.get?_push_of_some _ (kk b o e)⟩
theorem CallOk.absF : CallOk G k (.builtin "abs") [.flt x] (.flt (Float64.abs x)) := by
  constructor
  intro A E s vs rm ha r
  obtain ⟨v, rfl, r1⟩ := reps1 r
  obtain ⟨t, rfl⟩ := flt_of r1
  exact PySem.Flt.call_abs_float ⟨kp_tok s _, rep_flt⟩
theorem CallOk.intF {sg : Bool} {m : Nat} {e : Int} (hd : Float64.decode x = .fin sg m e) : CallOk G k (.type "int") [.flt x] (.int (Float64.truncOf sg m e)) := by
  constructor
  intro A E s vs rm ha r
  obtain ⟨v, rfl, r1⟩ := reps1 r
  obtain ⟨t, rfl⟩ := flt_of r1
  exact call_int_float hd ⟨kp_tok s _, rep_int⟩
theorem CallOk.strI (h : a.natAbs.log2 < 1920) : CallOk G k (.type "str") [.int a] (.str (Str.ofString (toString a))) := by
  constructor
  intro A E s vs rm ha r
  obtain ⟨v, rfl, r1⟩ := reps1 r
  obtain ⟨t, rfl⟩ := int_of r1
  exact P.str_of_int h ⟨kp_tok s _, rep_str⟩
theorem CallOk.intS (h0 : 0 ≤ a) (h1 : a < 10 ^ 10) : CallOk G k (.type "int") [.str (Str.ofString (toString a))] (.int a) := by
  constructor
  intro A E s vs rm ha r
  obtain ⟨v, rfl, r1⟩ := reps1 r
  obtain ⟨t, rfl⟩ := str_of r1
  exact PySem.W.KIN.call_num h0 h1 ⟨kp_tok s _, rep_int⟩

open PySem.Flt in
theorem CallOk.max3 : CallOk G k (.builtin "max") [.flt x, .flt y, .flt z] (.flt (maxOfBits [x, y, z])) := by
  constructor
  intro A E s vs rm ha r
  obtain ⟨v, u, u', rfl, r1, r2, r3⟩ := reps3 r
  obtain ⟨t, rfl⟩ := flt_of r1; obtain ⟨t', rfl⟩ := flt_of r2; obtain ⟨t'', rfl⟩ := flt_of r3
  have hT : (s.heap.push { cls := .type "tuple", data := .seq #[.float x t, .float y t', .float z t''] }).IsTuple s.heap.objs.size #[.float x t, .float y t', .float z t''] := ⟨_, Heap.get?_push_size _ rfl, rfl, 0, rfl⟩
  refine call_max_three (wpAny_pyIter_tuple hT ?_)
  have hsz : (s.heap.push { cls := .type "tuple", data := .seq #[.float x t, .float y t', .float z t''] }).objs.size = s.heap.objs.size + 1 := Heap.size_push ..
  have at_ : ∀ {i : Nat} {v : Value}, (#[.float x t, .float y t', .float z t''] : Array Value)[i]? = some v → ∃ t, v = .float ([x, y, z].getD i 0) t := by
    intro i v h
    match i, h with
    | 0, h => cases h; exact ⟨_, rfl⟩
    | 1, h => cases h; exact ⟨_, rfl⟩
    | 2, h => cases h; exact ⟨_, rfl⟩
    | i + 3, h => simp at h
  refine ⟨_, [_, s.heap.objs.size], [_], _, _, _, (fun i j => gtB ([x, y, z].getD i 0) ([x, y, z].getD j 0)), rfl, Walks.tuple (A := A.in1) rm.handled _ s.heap.objs.size (by rw [hsz]; exact Nat.ne_of_lt (Nat.lt_succ_self _)) _,
    ⟨⟨_, Heap.get?_push_size _ rfl, rfl, rfl⟩, hT.push _⟩, fun c hc => ?_, by simp, fun i j vi vj s Q E hi hj h => ?_, fun v h' tk hP hk => ?_⟩
  · show c < ((s.heap.push _).push _).objs.size
    rw [Heap.size_push, hsz]
    rcases List.mem_cons.mp hc with rfl | hc
    · rw [hsz]; exact Nat.lt_succ_self _
    · rcases List.mem_cons.mp hc with rfl | hc
      · exact Nat.lt_succ_of_lt (Nat.lt_succ_self _)
      · cases hc
  · obtain ⟨t1, rfl⟩ := at_ hi
    obtain ⟨t2, rfl⟩ := at_ hj
    exact AutoFloatOps.gt_0 (by rw [cmp_gt]; exact h)
  · obtain ⟨tv, rfl⟩ := at_ hP
    refine ⟨⟨_, _, rfl, fun d o e => ?_⟩, ?_⟩
    · refine hk d o (fun hm => ?_) (Heap.get?_push_of_some _ (Heap.get?_push_of_some _ e))
      rcases List.mem_cons.mp hm with e1 | hm
      · have := Heap.lt_size e; rw [e1, hsz] at this; exact Nat.lt_irrefl _ (Nat.lt_of_succ_lt this)
      · cases hm
    · have e2 := argBest_bits gtB [x, y, z] 2 (by simp)
      have e3 : (#[.float x t, .float y t', .float z t''] : Array Value).size - 1 = 2 := rfl
      rw [e3, e2]
      exact rep_flt
open PySem.Flt in
theorem CallOk.min3 : CallOk G k (.builtin "min") [.flt x, .flt y, .flt z] (.flt (minOfBits [x, y, z])) := by
  constructor
  intro A E s vs rm ha r
  obtain ⟨v, u, u', rfl, r1, r2, r3⟩ := reps3 r
  obtain ⟨t, rfl⟩ := flt_of r1; obtain ⟨t', rfl⟩ := flt_of r2; obtain ⟨t'', rfl⟩ := flt_of r3
  have hT : (s.heap.push { cls := .type "tuple", data := .seq #[.float x t, .float y t', .float z t''] }).IsTuple s.heap.objs.size #[.float x t, .float y t', .float z t''] := ⟨_, Heap.get?_push_size _ rfl, rfl, 0, rfl⟩
  refine call_min_three (wpAny_pyIter_tuple hT ?_)
  have hsz : (s.heap.push { cls := .type "tuple", data := .seq #[.float x t, .float y t', .float z t''] }).objs.size = s.heap.objs.size + 1 := Heap.size_push ..
  have at_ : ∀ {i : Nat} {v : Value}, (#[.float x t, .float y t', .float z t''] : Array Value)[i]? = some v → ∃ t, v = .float ([x, y, z].getD i 0) t := by
    intro i v h
    match i, h with
    | 0, h => cases h; exact ⟨_, rfl⟩
    | 1, h => cases h; exact ⟨_, rfl⟩
    | 2, h => cases h; exact ⟨_, rfl⟩
    | i + 3, h => simp at h
  refine ⟨_, [_, s.heap.objs.size], [_], _, _, _, (fun i j => ltB ([x, y, z].getD i 0) ([x, y, z].getD j 0)), rfl, Walks.tuple (A := A.in1) rm.handled _ s.heap.objs.size (by rw [hsz]; exact Nat.ne_of_lt (Nat.lt_succ_self _)) _,
    ⟨⟨_, Heap.get?_push_size _ rfl, rfl, rfl⟩, hT.push _⟩, fun c hc => ?_, by simp, fun i j vi vj s Q E hi hj h => ?_, fun v h' tk hP hk => ?_⟩
  · show c < ((s.heap.push _).push _).objs.size
    rw [Heap.size_push, hsz]
    rcases List.mem_cons.mp hc with rfl | hc
    · rw [hsz]; exact Nat.lt_succ_self _
    · rcases List.mem_cons.mp hc with rfl | hc
      · exact Nat.lt_succ_of_lt (Nat.lt_succ_self _)
      · cases hc
  · obtain ⟨t1, rfl⟩ := at_ hi
    obtain ⟨t2, rfl⟩ := at_ hj
    exact AutoFloatOps.lt_0 h
  · obtain ⟨tv, rfl⟩ := at_ hP
    refine ⟨⟨_, _, rfl, fun d o e => ?_⟩, ?_⟩
    · refine hk d o (fun hm => ?_) (Heap.get?_push_of_some _ (Heap.get?_push_of_some _ e))
      rcases List.mem_cons.mp hm with e1 | hm
      · have := Heap.lt_size e; rw [e1, hsz] at this; exact Nat.lt_irrefl _ (Nat.lt_of_succ_lt this)
      · cases hm
    · have e2 := argBest_bits ltB [x, y, z] 2 (by simp)
      have e3 : (#[.float x t, .float y t', .float z t''] : Array Value).size - 1 = 2 := rfl
      rw [e3, e2]
      exact rep_flt
end
end Mine
end

section
open PySem PyProof.Rows
set_option Elab.async false
set_option linter.unusedVariables false
namespace Mine
set_option maxRecDepth 100000

/-! ## methods of built-in values -/
structure Meth (G : Glo) (d : D) (name : Str) (id : String) : Prop where
  look : ∀ (A : Around) (E : Value → Shared → Prop) (s : Shared) (v : Value) (pl : Sem Bool) (Q : Value × List Value → Shared → Prop), Rep G.H s.heap d v → Q (.builtin id, [v]) s → wpAny (model G.prog G.w) A (getMethod v name pl) Q E s

section
variable {G : Glo} {k : Nat} {g : List (Str × NameKind)} {ρ : Names} {a b : Int} {x y : Str} {l : List Int} {d d' : D} {ds : List D}

theorem reps_cons {H : List Addr} {h : Heap} {d : D} {ds : List D} {v : Value} {vs : List Value} (r : Rep H h d v) (rs : Reps H h ds vs) : Reps H h (d :: ds) (v :: vs) := by
  unfold Reps; exact ⟨v, vs, rfl, r, rs⟩

theorem ev_meth {o : Expr} {name : Str} {id : String} {args : List Expr} {apos pos : Pos} (ho : Ev G k g ρ o d) (hm : Meth G d name id) (ha : Evs G k g ρ args ds) (hc : CallOk G k (.builtin id) (d :: ds) d')
    (he : ∀ env, ∃ pl, eval (.Call (.Attribute o name apos) args [] pos) env = (do
      let ov ← eval o env
      standAt apos.atName
      let (f, first) ← holding [ov] (getMethod ov name pl)
      callWith pos f first (backTo pos (starEach args env)) []) := by intro _; exact ⟨_, rfl⟩) : Ev G k g ρ (.Call (.Attribute o name apos) args [] pos) d' := .mk fun A E env s rm fe at' hev => by
  obtain ⟨pl, he⟩ := he env
  refine PyProof.Rows.MethodCall_ (wpAny_mono (ho.run A E env s rm fe at' hev) (fun ov s₁ q => ?_) fun _ _ e => e) he
  refine hm.look A E s₁ ov pl _ q.2 ?_
  have r2 := ha.run A E env s₁ pos rm fe (at'.of q.1) (hev.keep (kp_keep q.1))
  have fin : wpAny (model G.prog G.w) A (spliced (backTo pos (starEach args env))) (fun vs s₂ => wpAny (model G.prog G.w) A (call (.builtin id) ([ov] ++ vs)) (fun v s' => Keeps s s' ∧ Rep G.H s'.heap d' v) E s₂) E s₁ :=
    wpAny_mono r2.2 (fun vs s₂ q2 => wpAny_mono (hc.run A E s₂ (ov :: vs) rm ((at'.of q.1).of q2.1) (reps_cons (q.2.keep (kp_keep q2.1)) q2.2)) (fun v s₃ q3 => ⟨kp_trans q.1 (kp_trans q2.1 q3.1), q3.2⟩) fun _ _ e => e) fun _ _ e => e
  exact Calls.callWith_builtin r2.1 (evalArgs_any r2.1 fin)

theorem Meth.lower : Meth G (.str x) (Str.ofString "lower") "str.lower" := .mk fun A E s v pl Q r h => by
  obtain ⟨t, rfl⟩ := str_of r
  exact GM.lower h
theorem Meth.split : Meth G (.str x) (Str.ofString "split") "str.split" := .mk fun A E s v pl Q r h => by
  obtain ⟨t, rfl⟩ := str_of r
  exact GM.split h
theorem Meth.join : Meth G (.str x) (Str.ofString "join") "str.join" := .mk fun A E s v pl Q r h => by
  obtain ⟨t, rfl⟩ := str_of r
  exact GM.join h
theorem Meth.index : Meth G (.str x) (Str.ofString "index") "str.index" := .mk fun A E s v pl Q r h => by
  obtain ⟨t, rfl⟩ := str_of r
  exact GM.index h

theorem CallOk.lower (h : Builtin.Str.tooLong (Txt.lower x).length = false) : CallOk G k (.builtin "str.lower") [.str x] (.str (Txt.lower x)) := by
  constructor
  intro A E s vs rm ha r
  obtain ⟨v, rfl, r1⟩ := reps1 r
  obtain ⟨t, rfl⟩ := str_of r1
  exact SC.lower h ⟨kp_tok s _, rep_str⟩
theorem CallOk.index {i : Nat} {rest : List Nat} (h : Builtin.Str.occurrences x y 0 x.length 1 = i :: rest) : CallOk G k (.builtin "str.index") [.str x, .str y] (.int i) := by
  constructor
  intro A E s vs rm ha r
  obtain ⟨v, u, rfl, r1, r2⟩ := reps2 r
  obtain ⟨t, rfl⟩ := str_of r1; obtain ⟨t', rfl⟩ := str_of r2
  exact SC.index h ⟨kp_tok s _, rep_int⟩
theorem CallOk.split (hy : (y.length == 0) = false) (h1 : x.length ≤ sizeLine) (h2 : (Builtin.Str.partsBetween x (Builtin.Str.occurrences x y 0 x.length (x.length + 1)) y.length).length ≤ sizeLine) : CallOk G k (.builtin "str.split") [.str x, .str y] (.list ((Txt.split x y).map .str)) := by
  constructor
  intro A E s vs rm ha r
  obtain ⟨v, u, rfl, r1, r2⟩ := reps2 r
  obtain ⟨t, rfl⟩ := str_of r1; obtain ⟨t', rfl⟩ := str_of r2
  have fin : ∀ (l : List (Str × Tok)) (n tk : Nat), l.map (·.1) = Txt.split x y → (fun v s' => Keeps s s' ∧ Rep G.H s'.heap (.list ((Txt.split x y).map .str)) v) (.ref s.heap.objs.size) { s with heap := s.heap.push { cls := .type "list", data := .seq (strValues l).toArray n }, toks := tk } := by
    intro l n tk e
    refine ⟨kp_push s _ tk, ?_⟩
    rw [← e]
    unfold Rep
    exact ⟨_, strValues l, rfl, ha.fresh, ⟨_, Heap.get?_push_size _ rfl⟩, strs_reps⟩
  open Builtin Builtin.Str in
  cases hc : (decide (x.length < y.length) || decide (strKind x < strKind y))
  · cases hf : (occurrences x y 0 x.length (x.length + 1)).isEmpty
    · refine call_meets F.slot_str_split (typeIs_str _ _ _) F.entry_str_split (F.args_str_split_2 _ _) (meets_str_split_sep x y t t' hc hy hf h1 h2) ?_
      show wants _ E _ { s with toks := _, heap := s.heap.push { cls := .type "list", data := .seq (strsFrom s.toks (partsBetween x (occurrences x y 0 x.length (x.length + 1)) y.length)).toArray } }
      rw [strsFrom_eq]
      exact fin (numbered s.toks _) _ _ ((numbered_texts _ _).trans ((if_neg (ne_true_of_eq_false hc)).trans (if_neg (ne_true_of_eq_false hf))).symm)
    · exact call_meets F.slot_str_split (typeIs_str _ _ _) F.entry_str_split (F.args_str_split_2 _ _) (meets_str_split_not_found x y t t' hc hy hf)
        (fin [(x, t)] _ _ ((if_neg (ne_true_of_eq_false hc)).trans (if_pos hf)).symm)
  · exact call_meets F.slot_str_split (typeIs_str _ _ _) F.entry_str_split (F.args_str_split_2 _ _) (meets_str_split_cannot_occur x y t t' hc)
      (fin [(x, t)] _ _ (if_pos hc).symm)
theorem CallOk.join {l : List Str} (h1 : x.length ≤ 16) (h2 : (l.map (·.length)).sum + l.length ≤ 1048576) : CallOk G k (.builtin "str.join") [.str x, .list (l.map .str)] (.str (Txt.join x l)) := by
  constructor
  intro A E s vs rm ha r
  obtain ⟨v, u, rfl, r1, r2⟩ := reps2 r
  obtain ⟨t, rfl⟩ := str_of r1
  obtain ⟨a, us, rfl, _, hli, rs⟩ := list_of r2
  exact PyProof.Rows.join_listW hli (by simpa using reps_strs rs) h1 h2 fun t' k => ⟨kp_tok s _, rep_str⟩
theorem Meth.lindex : Meth G (.list ds) (Str.ofString "index") "list.index" := .mk fun A E s v pl Q r h => by
  obtain ⟨a, vs, rfl, _, ⟨n, ho⟩, rs⟩ := plist_of r
  exact getMethod_builtin (T := "list") ⟨_, ho, rfl⟩ F.plainAttrs_list F.slot_list_index F.type_list_index (fun b e => by cases e; exact ⟨_, ho, rfl⟩) h
theorem CallOk.lindex (hl : PyData.layable0 (.list (l.map .int)) = true) (hk : a ∈ l) : CallOk G k (.builtin "list.index") [.list (l.map .int), .int a] (.int (l.idxOf a : Nat)) := by
  constructor
  intro A E s vs rm ha r
  obtain ⟨v, u, rfl, r1, r2⟩ := reps2 r
  obtain ⟨t, rfl⟩ := int_of r2
  obtain ⟨a, us, rfl, _, hli, rs⟩ := list_of r1
  exact PyProof.Rows.index_list_ints hli (reps_ints rs) hl hk ⟨kp_tok s _, rep_int⟩

theorem BinOk.addL {l₁ l₂ : List D} (hz : l₁.length + l₂.length ≤ 1000) : BinOk G k .Add (.list l₁) (.list l₂) (.list (l₁ ++ l₂)) := by
  constructor
  intro A E s v₁ v₂ rm at' r₁ r₂
  obtain ⟨l, vs, rfl, _, hl, rs⟩ := list_of r₁
  obtain ⟨b, ws, rfl, _, hb, rs2⟩ := list_of r₂
  have n1 := rs.length
  have n2 := rs2.length
  obtain ⟨⟨cls, dd, data, sl⟩, ho, hc, n, hd⟩ := id hl
  obtain ⟨⟨cls2, dd2, data2, sl2⟩, ho2, hc2, n2, hd2⟩ := id hb
  simp only at hc hd hc2 hd2
  subst hc hd hc2 hd2
  have e : vs.toArray ++ ws.toArray = (vs ++ ws).toArray := by simp
  refine concat_meets ⟨_, ho, rfl⟩ ⟨_, ho2, rfl⟩ noFill_list_add seq_list_add PySem.F.slot_list_add PySem.F.entry_list_add (PySem.F.args_list_add_2 _ _) (list_addW l b vs.toArray ws.toArray n n2 dd dd2 sl sl2 (le_sizeLine (by simp; lia))) ⟨ho, ho2, ?_⟩
  rw [e]
  refine ⟨kp_push s _ s.toks, ?_⟩
  unfold Rep
  exact ⟨_, vs ++ ws, rfl, at'.fresh, ⟨_, Heap.get?_push_size _ rfl⟩, Reps.append (rs.keep fun b o e => Heap.get?_push_of_some _ e) (rs2.keep fun b o e => Heap.get?_push_of_some _ e)⟩

theorem CmpOk.inL : CmpOk G k .In (.int a) (.list (l.map .int)) (l.any (· == a)) := by
  constructor
  intro A E s v₁ v₂ rm at' r₁ r₂
  obtain ⟨t, rfl⟩ := int_of r₁
  obtain ⟨b, ws, rfl, _, hb, rs2⟩ := list_of r₂
  exact PyProof.Rows.in_list_ints hb (reps_ints rs2) ⟨kp_refl s, rfl⟩
theorem CmpOk.inT : CmpOk G k .In (.int a) (.tup (l.map .int)) (l.any (· == a)) := by
  constructor
  intro A E s v₁ v₂ rm at' r₁ r₂
  obtain ⟨t, rfl⟩ := int_of r₁
  obtain ⟨b, ws, rfl, hb, rs2⟩ := tup_of r₂
  exact PyProof.Rows.in_tuple_ints hb (by simpa using reps_ints rs2) ⟨kp_refl s, rfl⟩

theorem ev_neg {e : Expr} {pos : Pos} (h : Ev G k g ρ e (.int a)) : Ev G k g ρ (.UnaryOp .USub e pos) (.int (-a)) := .mk fun A E env s rm fe at' he =>
  wpAny_UnaryOp (wpAny_mono (h.run A E env s rm fe at' he) (fun v s' q => by
    obtain ⟨t, rfl⟩ := int_of q.2
    exact neg_int ⟨kp_trans q.1 (kp_tok s' _), rep_int⟩) fun _ _ e => e)
theorem ev_not {e : Expr} {pos : Pos} {b : Bool} (h : Tst G k g ρ e b) (he : ∀ env, eval (.UnaryOp .Not e pos) env = (do let v ← eval e env; standAt pos; holding [v] (unaryOp .Not v)) := by intro _; rfl) : True := trivial

/-- a and b: the first is false -/
theorem ev_and0 {e₁ e₂ : Expr} {rest : List Expr} {pos : Pos} (h : Ev G k g ρ e₁ d) (ht : TruthOk G k d false) : Ev G k g ρ (.BoolOp .And (e₁ :: e₂ :: rest) pos) d := .mk fun A E env s rm fe at' he =>
  BoolOp_and (wpAny_mono (h.run A E env s rm fe at' he) (fun v s' q => wpAny_mono (ht.run A E s' v rm (at'.of q.1) q.2) (fun c s'' z => by
    obtain ⟨kp, rfl⟩ := z
    exact ⟨kp_trans q.1 kp, q.2.keep (kp_keep kp)⟩) fun _ _ e => e) fun _ _ e => e)
theorem ev_andT {e₁ e₂ : Expr} {pos : Pos} (h : Ev G k g ρ e₁ d) (ht : TruthOk G k d true) (h2 : Ev G k g ρ e₂ d') : Ev G k g ρ (.BoolOp .And [e₁, e₂] pos) d' := .mk fun A E env s rm fe at' he =>
  BoolOp_and (wpAny_mono (h.run A E env s rm fe at' he) (fun v s' q => wpAny_mono (ht.run A E s' v rm (at'.of q.1) q.2) (fun c s'' z => by
    obtain ⟨kp, rfl⟩ := z
    simp only [if_true]
    have k2 := kp_trans q.1 kp
    exact BoolOp_one (wpAny_mono (h2.run A E env s'' rm fe (at'.of k2) (he.keep (kp_keep k2))) (fun v s3 z => ⟨kp_trans k2 z.1, z.2⟩) fun _ _ e => e)) fun _ _ e => e) fun _ _ e => e)

/-! ## equality of data -/
mutual
noncomputable def D.py : D → PyData
  | .none => .none
  | .bool b => .bool b
  | .int i => .int i
  | .flt _ => .none
  | .arg _ => .none
  | .str x => .str x
  | .list l => .list (D.pys l)
  | .tup l => .tuple (D.pys l)
  | .ref _ => .none
  | .cst _ => .none
noncomputable def D.pys : List D → List PyData
  | [] => []
  | d :: r => d.py :: D.pys r
end
mutual
noncomputable def D.plain : D → Bool
  | .none | .bool _ | .int _ | .str _ => true
  | .list l => D.plains l
  | .tup l => D.plains l
  | .flt _ | .ref _ | .arg _ | .cst _ => false
noncomputable def D.plains : List D → Bool
  | [] => true
  | d :: r => d.plain && D.plains r
end
mutual
theorem rep_reads {H : List Addr} {h : Heap} : ∀ {d : D} {v : Value}, d.plain = true → Rep H h d v → ∃ as, Reads h v d.py as
  | .none, v, _, r => by unfold Rep at r; subst r; exact ⟨_, .none⟩
  | .bool b, v, _, r => by unfold Rep at r; subst r; exact ⟨_, .bool b⟩
  | .int i, v, _, r => by unfold Rep at r; obtain ⟨t, rfl⟩ := r; exact ⟨_, .int i t⟩
  | .str x, v, _, r => by unfold Rep at r; obtain ⟨t, rfl⟩ := r; exact ⟨_, .str x t⟩
  | .flt _, v, hp, r => Bool.noConfusion (hp : false = true)
  | .arg _, v, hp, r => Bool.noConfusion (hp : false = true)
  | .ref _, v, hp, r => Bool.noConfusion (hp : false = true)
  | .cst _, v, hp, r => Bool.noConfusion (hp : false = true)
  | .list l, v, hp, r => by
    unfold Rep at r
    obtain ⟨a, vs, rfl, _, pl, rs⟩ := r
    obtain ⟨o, ho, hc, n, hd⟩ := pl.isList
    obtain ⟨as, ra⟩ := reps_reads (by simpa [D.plain] using hp) rs
    exact ⟨_, .list ho hc hd ra⟩
  | .tup l, v, hp, r => by
    unfold Rep at r
    obtain ⟨a, vs, rfl, ⟨o, ho, hc, n, hd⟩, rs⟩ := r
    obtain ⟨as, ra⟩ := reps_reads (by simpa [D.plain] using hp) rs
    exact ⟨_, .tuple ho hc hd ra⟩
theorem reps_reads {H : List Addr} {h : Heap} : ∀ {ds : List D} {vs : List Value}, D.plains ds = true → Reps H h ds vs → ∃ as, ReadsAll h vs (D.pys ds) as
  | [], vs, _, r => by unfold Reps at r; subst r; exact ⟨_, .nil⟩
  | d :: ds, vs, hp, r => by
    unfold Reps at r
    obtain ⟨v, us, rfl, r1, r2⟩ := r
    have hp : d.plain = true ∧ D.plains ds = true := by simpa [D.plains] using hp
    obtain ⟨as, ra⟩ := rep_reads hp.1 r1
    obtain ⟨bs, rb⟩ := reps_reads hp.2 r2
    exact ⟨_, .cons ra rb⟩
end
theorem CmpOk.eqD {d e : D} {b : Bool} (hd : d.plain = true) (he : e.plain = true) (sd : PySem.SeqAt.shaped d.py = true) (se : PySem.SeqAt.shaped e.py = true) (h : PyData.eqv d.py e.py = b) : CmpOk G k .Eq d e b := by
  constructor
  intro A E s v₁ v₂ rm at' r₁ r₂
  obtain ⟨as, ra⟩ := rep_reads hd r₁
  obtain ⟨bs, rb⟩ := rep_reads he r₂
  exact PyProof.Rows.eq_dataH ra rb sd se (by have := rm.units; lia) (by rw [h]; exact ⟨kp_refl s, rfl⟩)
theorem CmpOk.neD {d e : D} {b : Bool} (hd : d.plain = true) (he : e.plain = true) (sd : PySem.SeqAt.shaped d.py = true) (se : PySem.SeqAt.shaped e.py = true) (h : (!PyData.eqv d.py e.py) = b) : CmpOk G k .NotEq d e b := by
  constructor
  intro A E s v₁ v₂ rm at' r₁ r₂
  obtain ⟨as, ra⟩ := rep_reads hd r₁
  obtain ⟨bs, rb⟩ := rep_reads he r₂
  exact PyProof.Rows.ne_dataH ra rb sd se (by have := rm.units; lia) (by rw [h]; exact ⟨kp_refl s, rfl⟩)
end
end Mine
end

section
open PySem PySem.W PyProof.Rows
set_option Elab.async false
set_option linter.unusedVariables false
namespace Mine
set_option maxRecDepth 100000
/-! ## '%d %d %d' % (a, b, c) -/
noncomputable def txt3 (a b c : Int) : Str := Str.ofString (toString a)  ++ Str.ofString " " ++ Str.ofString (toString b)  ++ Str.ofString " " ++ Str.ofString (toString c)
theorem pct_meets (a b c : Int) (ha : 0 ≤ a) (ha' : a < 10000) (hb : 0 ≤ b) (hb' : b < 10000) (hc : 0 ≤ c) (hc' : c < 10000) (t ta tb tc : Tok) (l : Addr) :
    Meets (Builtin.«str.__mod__» ⟨[.str ⟨#[37,100,32,37,100,32,37,100]⟩ t, .ref l], []⟩) (fun _ R s => IsTup s.heap l #[.int a ta, .int b tb, .int c tc] ∧ ∀ t' k, R (.ok (.ret (.str (txt3 a b c) t'))) { s with toks := k }) := by
  unfold txt3
  kpt_run

section
variable {G : Glo} {k : Nat} {g : List (Str × NameKind)} {ρ : Names} {d d' : D} {ds : List D}
theorem BinOk.pct {a b c : Int} (ha : 0 ≤ a) (ha' : a < 10000) (hb : 0 ≤ b) (hb' : b < 10000) (hc : 0 ≤ c) (hc' : c < 10000) : BinOk G k .Mod (.str ⟨#[37,100,32,37,100,32,37,100]⟩) (.tup [.int a, .int b, .int c]) (.str (txt3 a b c)) := by
  constructor
  intro A E s v₁ v₂ rm at' r₁ r₂
  obtain ⟨t, rfl⟩ := str_of r₁
  obtain ⟨l, vs, rfl, ht, rs⟩ := tup_of r₂
  obtain ⟨v, u, x, rfl, q1, q2, q3⟩ := reps3 rs
  obtain ⟨ta, rfl⟩ := int_of q1; obtain ⟨tb, rfl⟩ := int_of q2; obtain ⟨tc, rfl⟩ := int_of q3
  have hT : s.TypeIs (.ref l) "tuple" := by
    obtain ⟨o, ho, hc, _⟩ := ht
    exact ⟨o, ho, hc⟩
  exact KPt.bin_left (T := "str") (U := "tuple") (op := .Mod) (by decide) (typeIs_str s _ t) hT F.fills_str_mod KPt.fills_tuple F.slot_str_mod
    (call_meets F.slot_str_mod (typeIs_str s _ t) F.entry_str_mod (F.args_str_mod_2 _ _) (pct_meets a b c ha ha' hb hb' hc hc' t ta tb tc l) ⟨ht, fun t' k => ⟨(fun e => nomatch e), kp_tok s _, rep_str⟩⟩)

/-! ## the script -/
theorem GetOk.arg {l : List D} {i : Int} (h0 : 0 ≤ i) (h1 : i < 2 ^ 63) (h : l[i.toNat]? = some d) : GetOk G k (.arg l) (.int i) d := by
  constructor
  intro A E s v₁ v₂ rm ha r₁ r₂
  obtain ⟨a, vs, rfl, _, hl, rs⟩ := arg_of r₁
  obtain ⟨t, rfl⟩ := int_of r₂
  obtain ⟨v, hv, rv⟩ := rs.get h
  exact ⟨⟨"list", _, hl.typeIs, list_getitem_lookup⟩, wpAny_getItem_list hl h0 h1 (by simpa using hv) ⟨kp_refl s, rv⟩⟩
theorem CallOk.lenA (hz : ds.length ≤ 1000) : CallOk G k (.builtin "len") [.arg ds] (.int ds.length) := by
  constructor
  intro A E s vs rm ha r
  obtain ⟨v, rfl, r1⟩ := reps1 r
  obtain ⟨a, us, rfl, _, hli, rs⟩ := arg_of r1
  have := rs.length
  refine PyProof.Rows.len_list hli (by simp; omega) ⟨kp_tok s _, ?_⟩
  rw [show us.toArray.size = ds.length by simp [this]]
  exact rep_int

/-! ## slices -/
/-- one part of a slice -/
structure Part (G : Glo) (k : Nat) (g : List (Str × NameKind)) (ρ : Names) (e : Option Expr) (p : Option Int) : Prop where
  run : ∀ (A : Around) (E : Value → Shared → Prop) (env : Env) (s : Shared), Room A k → FunEnv g env → At G s → EnvRep G.H s.heap env ρ →
    wpAny (model G.prog G.w) A (evalPart e env) (fun v s' => Keeps s s' ∧ IsPart v p) E s
theorem Part.none : Part G k g ρ none none := .mk fun A E env s _ _ _ _ => wpAny_evalPart_none ⟨kp_refl s, .none⟩
theorem Part.some {e : Expr} {i : Int} (h : Ev G k g ρ e (.int i)) : Part G k g ρ (some e) (some i) := .mk fun A E env s rm fe ha he =>
  wpAny_evalPart_some (wpAny_mono (h.run A E env s rm fe ha he) (fun v s' q => ⟨q.1, by obtain ⟨t, rfl⟩ := int_of q.2; exact .int i t⟩) fun _ _ e => e)

theorem Reps.drop {H : List Addr} {h : Heap} : ∀ {ds : List D} {vs : List Value} (n : Nat), Reps H h ds vs → Reps H h (ds.drop n) (vs.drop n)
  | ds, vs, 0, r => by simpa using r
  | [], vs, n + 1, r => by unfold Reps at r; subst r; simp; unfold Reps; rfl
  | d :: ds, vs, n + 1, r => by
    unfold Reps at r
    obtain ⟨v, us, rfl, _, r2⟩ := r
    simpa using Reps.drop n r2
theorem Reps.take {H : List Addr} {h : Heap} : ∀ {ds : List D} {vs : List Value} (n : Nat), Reps H h ds vs → Reps H h (ds.take n) (vs.take n)
  | ds, vs, 0, r => by simp; unfold Reps; rfl
  | [], vs, n + 1, r => by unfold Reps at r; subst r; simp; unfold Reps; rfl
  | d :: ds, vs, n + 1, r => by
    unfold Reps at r
    obtain ⟨v, us, rfl, r1, r2⟩ := r
    rw [List.take_succ_cons, List.take_succ_cons]
    exact reps_cons r1 (Reps.take n r2)
noncomputable def pick (l : List D) (lo hi : Option Int) : List D := (l.drop (kms_lo lo l.length)).take (kms_hi hi l.length - kms_lo lo l.length)

theorem slice_core {value : Expr} {lower upper : Option Expr} {p pos : Pos} {lo hi : Option Int} (hz : ds.length ≤ 1000)
    (hv : ∀ (A : Around) (E : Value → Shared → Prop) (env : Env) (s : Shared), Room A k → FunEnv g env → At G s → EnvRep G.H s.heap env ρ →
      wpAny (model G.prog G.w) A (eval value env) (fun v s' => Keeps s s' ∧ ∃ a vs, v = .ref a ∧ s'.heap.IsList a (List.toArray vs) ∧ Reps G.H s'.heap ds vs) E s)
    (hl : Part G k g ρ lower lo) (hu : Part G k g ρ upper hi) (hs : ∀ o i, subscripted (.Slice lower upper Option.none p) false o i = operate [i, o] (getItem o i)) :
    Ev G k g ρ (.Subscript value (.Slice lower upper Option.none p) pos) (.list (pick ds lo hi)) := .mk fun A E env s rm fe ha he => by
  refine Subscript_ (wpAny_mono (hv A E env s rm fe ha he) (fun v s₁ q => ?_) fun _ _ e => e)
  obtain ⟨k1, a, vs, rfl, hli, rs⟩ := q
  refine wpAny_Slice (wpAny_mono (hl.run A E env s₁ rm fe (ha.of k1) (he.keep (kp_keep k1))) (fun vl s₂ q2 => wpAny_mono (hu.run A E env s₂ rm fe ((ha.of k1).of q2.1) ((he.keep (kp_keep k1)).keep (kp_keep q2.1))) (fun vu s₃ q3 => ?_) fun _ _ e => e) fun _ _ e => e)
  rw [evalPart_none]
  refine wpAny_pure ?_
  have k13 := kp_trans q2.1 q3.1
  have hl3 : s₃.heap.IsList a vs.toArray := by obtain ⟨o, ho, r⟩ := hli; exact ⟨o, kp_keep k13 _ _ ho, r⟩
  have ha3 := (ha.of k1).of k13
  have hlen := rs.length
  refine sub_tail (T := "list") (hl3.push _).typeIs list_getitem_lookup ?_ (hs _ _)
  refine wpAny_getItem_list_slice (hl3.push _) (Heap.IsSliceOf.new ..) q2.2 q3.2 .none (by simp) ?_ (le_sizeLine (by simp; omega))
  have kp : Keeps s₃ { s₃ with heap := s₃.heap.push { cls := .type "slice", data := .fields #[vl, vu, .none] } } := kp_push s₃ _ s₃.toks
  have kp2 := kp_trans kp (kp_push { s₃ with heap := s₃.heap.push { cls := .type "slice", data := .fields #[vl, vu, .none] } } { cls := .type "list", data := .seq (slicePick vs.toArray lo hi none) } s₃.toks)
  refine ⟨kp_trans k1 (kp_trans k13 kp2), ?_⟩
  rw [kms_pick_eq] 
  unfold Rep
  refine ⟨_, kms_pick vs lo hi, rfl, (ha3.of kp).fresh, ⟨_, Heap.get?_push_size _ rfl⟩, ?_⟩
  unfold pick kms_pick
  rw [← hlen]
  refine Reps.take _ (Reps.drop _ (rs.keep fun b o e => Heap.get?_push_of_some _ (Heap.get?_push_of_some _ (kp_keep k13 b o e))))
theorem ev_slice {value : Expr} {lower upper : Option Expr} {p pos : Pos} {lo hi : Option Int} (hv : Ev G k g ρ value (.list ds)) (hz : ds.length ≤ 1000) (hl : Part G k g ρ lower lo) (hu : Part G k g ρ upper hi)
    (hs : ∀ o i, subscripted (.Slice lower upper Option.none p) false o i = operate [i, o] (getItem o i) := by intro _ _; rfl) :
    Ev G k g ρ (.Subscript value (.Slice lower upper Option.none p) pos) (.list (pick ds lo hi)) :=
  slice_core hz (fun A E env s rm fe ha he => wpAny_mono (hv.run A E env s rm fe ha he) (fun v s' q => by
    obtain ⟨a, vs, rfl, _, h1, h2⟩ := list_of q.2
    exact ⟨q.1, a, vs, rfl, h1, h2⟩) fun _ _ e => e) hl hu hs
theorem ev_sliceA {value : Expr} {lower upper : Option Expr} {p pos : Pos} {lo hi : Option Int} (hv : Ev G k g ρ value (.arg ds)) (hz : ds.length ≤ 1000) (hl : Part G k g ρ lower lo) (hu : Part G k g ρ upper hi)
    (hs : ∀ o i, subscripted (.Slice lower upper Option.none p) false o i = operate [i, o] (getItem o i) := by intro _ _; rfl) :
    Ev G k g ρ (.Subscript value (.Slice lower upper Option.none p) pos) (.list (pick ds lo hi)) :=
  slice_core hz (fun A E env s rm fe ha he => wpAny_mono (hv.run A E env s rm fe ha he) (fun v s' q => by
    obtain ⟨a, vs, rfl, _, h1, h2⟩ := arg_of q.2
    exact ⟨q.1, a, vs, rfl, h1, h2⟩) fun _ _ e => e) hl hu hs
end
end Mine
end

section
open PySem PySem.W PyProof.Rows
set_option Elab.async false
set_option linter.unusedVariables false
namespace Mine
set_option maxRecDepth 100000
theorem Sub.nil {ρ : Names} : Sub [] ρ := fun _ _ e => by cases e
theorem Sub.cons {x : Str} {d : D} {ρ ρ' : Names} (h : ρ.lookup x = some d) (r : Sub ρ' ρ) : Sub ((x, d) :: ρ') ρ := fun y e hy => by
  rw [List.lookup_cons] at hy
  cases hb : y == x with
  | true =>
    rw [hb] at hy; cases hy
    have : y = x := beq_iff_eq.mp hb
    subst this; exact h
  | false => rw [hb] at hy; exact r y e hy
theorem Sub.refl {ρ : Names} : Sub ρ ρ := fun _ _ e => e

section
variable {G : Glo} {k : Nat} {sc : Scope} {ρ ρ' : Names} {d : D} {ds : List D}
/-- x += e -/
theorem St.incr {x : Str} {e : Expr} {p pos : Pos} {a b : Int} (hx : ρ.lookup x = some (.int a)) (h : Ev G k sc.names ρ e (.int b)) (hs : storable sc x = true := by decide +kernel) (hk : sc.kind = .function := by rfl) :
    St G k sc ρ (.AugAssign (.Name x p) .Add e pos) ((x, .int (a + b)) :: ρ) := .mk fun A E s₀ env s rm de ha f => by
  have fe := de.fun hk
  obtain ⟨v, hv, r⟩ := f.rep x _ hx
  obtain ⟨t, rfl⟩ := int_of r
  refine wpAny_AugAssign_Name ?_
  have fin : wpAny (model G.prog G.w) A (eval e env) (fun v s₂ => wpAny (model G.prog G.w) A (inplaceOp .Add (.int a t) v) (fun r s₃ => wpAny (model G.prog G.w) A (storeName env x r) (fun _ s' => Flow.next = .next ∧ Frm G s₀ env ((x, .int (a + b)) :: ρ) s' ∧ Held env s s') E s₃) E s₂) E s := by
    refine wpAny_mono (h.run A E env s rm fe (ha.frm f) f.rep) (fun u s₂ q => ?_) fun _ _ e => e
    obtain ⟨t', rfl⟩ := int_of q.2
    refine iadd_int ?_
    have f2 := (f.of q.1).of (kp_tok s₂ (s₂.toks + 1))
    exact f2.store fe.kind (storable_of de hs) rep_int fun s' f' hl => ⟨rfl, f', ((Held.of q.1).trans (Held.of (kp_tok s₂ _))).trans hl⟩
  rcases hv with ⟨a, m, n, e⟩ | ⟨a, c, e, i⟩ | ⟨a, b, c, e, i⟩
  · exact wpAny_loadName_local fe.kind a n e fin
  · exact wpAny_loadName_cell fe.kind a e i fin
  · exact wpAny_loadName_free fe.kind a e i fin b

/-- while test: body, N turns -/
theorem St.while {test : Expr} {body : List Stmt} {pos : Pos} (ρs : Nat → Names) (N : Nat) (ht : ∀ i, i < N → Tst G k sc.names (ρs i) test true) (turn : ∀ i, i < N → ∃ ρ', Sts G k sc (ρs i) body ρ' ∧ Sub (ρs (i + 1)) ρ')
    (hf : Tst G k sc.names (ρs N) test false) (hk : sc.kind = .function := by rfl) : St G k sc (ρs 0) (.While test body [] pos) (ρs N) := .mk fun A E s₀ env s rm de ha f => by
  refine wpAny_While (codeAny_whileLoop (fun n s' => ∃ i, i ≤ N ∧ n = N + 1 - i ∧ Frm G s₀ env (ρs i) s' ∧ Held env s s') ?_ (N + 1) ⟨0, Nat.zero_le _, rfl, f, .refl⟩)
  rintro n s' ⟨i, hi, rfl, fi, hl⟩
  have fe := de.fun hk
  by_cases hlt : i < N
  · refine wpAny_mono ((ht i hlt).run A _ env s' rm fe (ha.frm fi) fi.rep) (fun b s₂ q => ?_) fun _ _ e => e
    obtain ⟨kp, rfl⟩ := q
    simp only [if_true]
    obtain ⟨ρ', hb, hsub⟩ := turn i hlt
    refine wpAny_mono (hb.run A _ s₀ env s₂ rm de ha (fi.of kp)) (fun fl s5 z => ?_) fun _ _ e => e
    obtain ⟨rfl, f5, hl5⟩ := z
    exact ⟨_, by lia, i + 1, hlt, rfl, f5.weak hsub, (hl.trans (Held.of kp)).trans hl5⟩
  · have e : i = N := by lia
    subst e
    refine wpAny_mono (hf.run A _ env s' rm fe (ha.frm fi) fi.rep) (fun b s₂ q => ?_) fun _ _ e => e
    obtain ⟨kp, rfl⟩ := q
    simp only [Bool.false_eq_true, if_false]
    exact wpAny_execs_nil ⟨rfl, fi.of kp, hl.trans (Held.of kp)⟩
section
variable {g : List (Str × NameKind)} {d₁ d₂ d₃ : D} {es : List Expr} {n : Nat} {pos : Pos}
theorem ev_tup2 (h : Evs G k g ρ es [d₁, d₂]) : Ev G k g ρ (.Tuple es n pos) (.tup [d₁, d₂]) := Ev.tup h (by simp)
theorem ev_tup3 (h : Evs G k g ρ es [d₁, d₂, d₃]) : Ev G k g ρ (.Tuple es n pos) (.tup [d₁, d₂, d₃]) := Ev.tup h (by simp)
theorem ev_list0 : Ev G k g ρ (.List [] pos) (.list []) := Ev.list Evs.nil (by simp)
theorem ev_list1 (h : Evs G k g ρ es [d₁]) : Ev G k g ρ (.List es pos) (.list [d₁]) := Ev.list h (by simp)
theorem ev_list2 (h : Evs G k g ρ es [d₁, d₂]) : Ev G k g ρ (.List es pos) (.list [d₁, d₂]) := Ev.list h (by simp)
theorem ev_list3 (h : Evs G k g ρ es [d₁, d₂, d₃]) : Ev G k g ρ (.List es pos) (.list [d₁, d₂, d₃]) := Ev.list h (by simp)
end
theorem ev_compE {g : List (Str × NameKind)} {elt iter : Expr} {x : Str} {px : Pos} {ifs : List Expr} {scope : Scope} {pos : Pos} {rs : List D} (pd : D → Bool) (out : D → D) (hit : Itr G k g ρ iter ds) (hr : (ds.filter pd).map out = rs) (hso : D.solids ds = true)
    (tests : ∀ d ∈ ds, Ifs G k scope.names ((x, d) :: freeOf scope ρ) ifs (pd d)) (helt : ∀ d ∈ ds, pd d = true → Elt G k scope.names ((x, d) :: freeOf scope ρ) elt x d (out d))
    (hfree : freesOk scope g ρ = true := by rfl)
    (hcell : ∀ y ∈ scope.names, y.2 ≠ .cell := by decide +kernel) (hkind : scope.kind = .function := by rfl)
    (hnames : ∀ y ∈ scope.names, y.2 = .local → scope.names.lookup y.1 = some .local := by decide +kernel) (hx : scope.names.lookup x = some .local := by rfl) :
    Ev G k g ρ (.ListComp elt [⟨.Name x px, iter, ifs, 0⟩] scope pos) (.list rs) := hr ▸ ev_comp pd out hit hso tests helt hfree hcell hkind hnames hx
theorem st_compE {elt iter : Expr} {x y : Str} {px py : Pos} {ifs : List Expr} {scope : Scope} {pos spos : Pos} {rs : List D} (pd : D → Bool) (out : D → D) (hit : Itr G k sc.names ρ iter ds) (hr : (ds.filter pd).map out = rs) (hso : D.solids ds = true)
    (tests : ∀ d ∈ ds, Ifs G k scope.names ((x, d) :: freeOf scope ρ) ifs (pd d)) (helt : ∀ d ∈ ds, pd d = true → Elt G k scope.names ((x, d) :: freeOf scope ρ) elt x d (out d))
    (hsw : ∀ env, DefEnv sc env → swapsWith (.ListComp elt [⟨.Name x px, iter, ifs, 0⟩] scope pos) (some (.Name y py)) spos.line env = pure true) (hy : sc.names.lookup y = some .local := by rfl) (hfree : freesOk scope sc.names ρ = true := by rfl)
    (hcell : ∀ y ∈ scope.names, y.2 ≠ .cell := by decide +kernel) (hkind : scope.kind = .function := by rfl)
    (hnames : ∀ y ∈ scope.names, y.2 = .local → scope.names.lookup y.1 = some .local := by decide +kernel) (hx : scope.names.lookup x = some .local := by rfl) (hsk : sc.kind = .function := by rfl) :
    St G k sc ρ (.Assign [.Name y py] (.ListComp elt [⟨.Name x px, iter, ifs, 0⟩] scope pos) spos) ((y, .list rs) :: ρ) := hr ▸ st_comp pd out hit hso tests helt hy hsw hfree hcell hkind hnames hx hsk
theorem Ev.cast {g : List (Str × NameKind)} {e : Expr} {d' : D} (h : Ev G k g ρ e d') (q : d' = d) : Ev G k g ρ e d := q ▸ h
theorem Sts.one {a : Stmt} (h : St G k sc ρ a ρ') : Sts G k sc ρ [a] ρ' := Sts.cons h Sts.nil
/-- the names may be told otherwise -/
theorem St.weak {a : Stmt} {ρ₁ ρ₂ : Names} (h : St G k sc ρ₁ a ρ₂) (h1 : Sub ρ₁ ρ) (h2 : Sub ρ' ρ₂) : St G k sc ρ a ρ' := .mk fun A E s₀ env s rm de ha f =>
  wpAny_mono (h.run A E s₀ env s rm de ha (f.weak h1)) (fun fl s' q => ⟨q.1, q.2.1.weak h2, q.2.2⟩) fun _ _ e => e
theorem Ret.weak {b : List Stmt} {ρ₁ : Names} (h : Ret G k sc ρ₁ b d) (h1 : Sub ρ₁ ρ) : Ret G k sc ρ b d := .mk fun A E s₀ env s rm de ha f => h.run A E s₀ env s rm de ha (f.weak h1)
end
end Mine
end

section
open PySem PySem.W PyProof.Rows
set_option Elab.async false
set_option linter.unusedVariables false
namespace Mine
set_option maxRecDepth 100000

noncomputable abbrev KK (w : World) : Frag := hd.heap_39 w.params

/-- what the heap at the start is known to be -/
structure Gnd (G : Glo) : Prop where
  kin : (KK G.w).In G.hB
  top : ∃ p loose mg mb, TopRead p loose mg mb G.hB

theorem Gnd.glob {G : Glo} (h : Gnd G) {x : Str} {v : Value} (e : nsIn (KK G.w) mainGlobals x = some (some v)) : GlobIs G x v := by
  obtain ⟨p, loose, mg, mb, T⟩ := h.top
  exact ⟨mg, mb, T.g, T.b, .inl (mg_of h.kin T.g e)⟩
theorem Gnd.built {G : Glo} (h : Gnd G) {x : Str} {v : Value} (e : nsIn (KK G.w) mainGlobals x = some none) (hv : bootBuiltins x = some v) (hn : x ≠ "__name__") : GlobIs G x v := by
  obtain ⟨p, loose, mg, mb, T⟩ := h.top
  exact ⟨mg, mb, T.g, T.b, .inr ⟨mg_none_of h.kin T.g e, (T.builtins x hn).trans hv⟩⟩

theorem Gnd.def {G : Glo} (h : Gnd G) {f : Addr} {oc : Value} {od : Option Addr} {fd : FuncData} {osl : Array (Option Value)} {body : List Stmt}
    (ho : (KK G.w).lookup f = some ⟨oc, od, .func fd, osl⟩) (hcd : codeIn (KK G.w) fd.code fd.qualname = true) (hb : fd.body = .stmts body := by rfl) (hc : fd.closure = [] := by rfl) (hg : fd.globals = mainGlobals := by rfl) (hbu : fd.builtins = builtinsNs := by rfl)
    (h1 : fd.scope.isCoroutine = false := by rfl) (h2 : fd.scope.isGenerator = false := by rfl) (h3 : fd.scope.kind = .function := by rfl) : DefAt G f fd body := by
  obtain ⟨p, loose, mg, mb, T⟩ := h.top
  exact ⟨⟨_, h.kin _ _ ho, rfl⟩, T.nolimit, codeRec_of h.kin hcd, hb, hc, hg, hbu, h1, h2, h3⟩
theorem Gnd.callee {G : Glo} (h : Gnd G) {f : Addr} {oc : Value} {od : Option Addr} {fd : FuncData} {osl : Array (Option Value)} (ho : (KK G.w).lookup f = some ⟨oc, od, .func fd, osl⟩) : Callee G (.ref f) := .def (h.kin _ _ ho) rfl

/-- the record of the def at f, out of the heap at the start -/
noncomputable def fdAt (P : Params) (f : Addr) : FuncData := match (hd.heap_39 P).lookup f with
  | some ⟨_, _, .func fd, _⟩ => fd
  | _ => default
end Mine
end

section
open PySem PySem.W PyProof.Rows
set_option Elab.async false
set_option linter.unusedVariables false
namespace Mine
set_option maxRecDepth 100000
theorem Ret.cast {G : Glo} {k : Nat} {sc : Scope} {ρ : Names} {b : List Stmt} {d d' : D} (h : Ret G k sc ρ b d') (e : d' = d) : Ret G k sc ρ b d := e ▸ h
theorem Tst.cast {G : Glo} {k : Nat} {g : List (Str × NameKind)} {ρ : Names} {e : Expr} {b b' : Bool} (h : Tst G k g ρ e b') (q : b' = b) : Tst G k g ρ e b := q ▸ h
noncomputable def worth (least above : Int) : Int := if least ≤ (above * (above + 1)).fdiv 2 then 3 * least + above else (above * (above + 1)).fdiv 2 + (least - (above * (above + 1)).fdiv 2 - 1).fmod (above + 1)

-- one step of a reckoning

theorem worth_ok {G : Glo} (h : Gnd G) (a b : Int) (ha : 0 ≤ a ∧ a < 10000) (hb : 0 ≤ b ∧ b < 10000) : CallOk G 1 (.ref 274) [.int a, .int b] (.int (worth a b)) := by
  refine CallOk.def (ns := [Str.ofString "least", Str.ofString "above"]) (h.def (f := 274) rfl (by kernel_rfl)) (fun vs hv => ?_) rfl (by decide) (by decide +kernel) ?_
  · exact binds2 (fun _ _ => rfl) vs hv
  · refine' Ret.cons (St.assign ?e) ?r
    (case e => repeat' (first | exact Ev.name rfl | exact Ev.int | exact Ev.str | exact Ev.flt | exact Ev.bool | exact Ev.none | refine' Ev.bin ?_ ?_ ?_ | refine' Ev.cmp ?_ ?_ ?_ | exact BinOk.add | exact BinOk.sub | exact BinOk.mul (by lia) | exact BinOk.mod (by first | decide | lia) | exact BinOk.floordiv (by first | decide | lia) (by first | decide | lia) | exact CmpOk.le | exact CmpOk.lt | exact CmpOk.gt | exact CmpOk.ge | exact CmpOk.eq | exact CmpOk.ne))
    by_cases hc : a ≤ (b * (b + 1)).fdiv 2
    · refine' Ret.cast (Ret.ifT (Tst.cast (Tst.cmp ?a ?b ?c) ?d) (Ret.ret ?e)) ?f
      (case a => repeat' (first | exact Ev.name rfl | exact Ev.int | exact Ev.str | exact Ev.flt | exact Ev.bool | exact Ev.none | refine' Ev.bin ?_ ?_ ?_ | refine' Ev.cmp ?_ ?_ ?_ | exact BinOk.add | exact BinOk.sub | exact BinOk.mul (by lia) | exact BinOk.mod (by first | decide | lia) | exact BinOk.floordiv (by first | decide | lia) (by first | decide | lia) | exact CmpOk.le | exact CmpOk.lt | exact CmpOk.gt | exact CmpOk.ge | exact CmpOk.eq | exact CmpOk.ne))
      (case b => repeat' (first | exact Ev.name rfl | exact Ev.int | exact Ev.str | exact Ev.flt | exact Ev.bool | exact Ev.none | refine' Ev.bin ?_ ?_ ?_ | refine' Ev.cmp ?_ ?_ ?_ | exact BinOk.add | exact BinOk.sub | exact BinOk.mul (by lia) | exact BinOk.mod (by first | decide | lia) | exact BinOk.floordiv (by first | decide | lia) (by first | decide | lia) | exact CmpOk.le | exact CmpOk.lt | exact CmpOk.gt | exact CmpOk.ge | exact CmpOk.eq | exact CmpOk.ne))
      (case c => repeat' (first | exact Ev.name rfl | exact Ev.int | exact Ev.str | exact Ev.flt | exact Ev.bool | exact Ev.none | refine' Ev.bin ?_ ?_ ?_ | refine' Ev.cmp ?_ ?_ ?_ | exact BinOk.add | exact BinOk.sub | exact BinOk.mul (by lia) | exact BinOk.mod (by first | decide | lia) | exact BinOk.floordiv (by first | decide | lia) (by first | decide | lia) | exact CmpOk.le | exact CmpOk.lt | exact CmpOk.gt | exact CmpOk.ge | exact CmpOk.eq | exact CmpOk.ne))
      (case d => simp [hc])
      (case e => repeat' (first | exact Ev.name rfl | exact Ev.int | exact Ev.str | exact Ev.flt | exact Ev.bool | exact Ev.none | refine' Ev.bin ?_ ?_ ?_ | refine' Ev.cmp ?_ ?_ ?_ | exact BinOk.add | exact BinOk.sub | exact BinOk.mul (by lia) | exact BinOk.mod (by first | decide | lia) | exact BinOk.floordiv (by first | decide | lia) (by first | decide | lia) | exact CmpOk.le | exact CmpOk.lt | exact CmpOk.gt | exact CmpOk.ge | exact CmpOk.eq | exact CmpOk.ne))
      (case f => unfold worth; rw [if_pos hc])
    · refine' Ret.cast (Ret.cons (St.ifF (Tst.cast (Tst.cmp ?a ?b ?c) ?d) Sts.nil) (Ret.ret ?e)) ?f
      (case a => repeat' (first | exact Ev.name rfl | exact Ev.int | exact Ev.str | exact Ev.flt | exact Ev.bool | exact Ev.none | refine' Ev.bin ?_ ?_ ?_ | refine' Ev.cmp ?_ ?_ ?_ | exact BinOk.add | exact BinOk.sub | exact BinOk.mul (by lia) | exact BinOk.mod (by first | decide | lia) | exact BinOk.floordiv (by first | decide | lia) (by first | decide | lia) | exact CmpOk.le | exact CmpOk.lt | exact CmpOk.gt | exact CmpOk.ge | exact CmpOk.eq | exact CmpOk.ne))
      (case b => repeat' (first | exact Ev.name rfl | exact Ev.int | exact Ev.str | exact Ev.flt | exact Ev.bool | exact Ev.none | refine' Ev.bin ?_ ?_ ?_ | refine' Ev.cmp ?_ ?_ ?_ | exact BinOk.add | exact BinOk.sub | exact BinOk.mul (by lia) | exact BinOk.mod (by first | decide | lia) | exact BinOk.floordiv (by first | decide | lia) (by first | decide | lia) | exact CmpOk.le | exact CmpOk.lt | exact CmpOk.gt | exact CmpOk.ge | exact CmpOk.eq | exact CmpOk.ne))
      (case c => repeat' (first | exact Ev.name rfl | exact Ev.int | exact Ev.str | exact Ev.flt | exact Ev.bool | exact Ev.none | refine' Ev.bin ?_ ?_ ?_ | refine' Ev.cmp ?_ ?_ ?_ | exact BinOk.add | exact BinOk.sub | exact BinOk.mul (by lia) | exact BinOk.mod (by first | decide | lia) | exact BinOk.floordiv (by first | decide | lia) (by first | decide | lia) | exact CmpOk.le | exact CmpOk.lt | exact CmpOk.gt | exact CmpOk.ge | exact CmpOk.eq | exact CmpOk.ne))
      (case d => simp [hc])
      (case e => repeat' (first | exact Ev.name rfl | exact Ev.int | exact Ev.str | exact Ev.flt | exact Ev.bool | exact Ev.none | refine' Ev.bin ?_ ?_ ?_ | refine' Ev.cmp ?_ ?_ ?_ | exact BinOk.add | exact BinOk.sub | exact BinOk.mul (by lia) | exact BinOk.mod (by first | decide | lia) | exact BinOk.floordiv (by first | decide | lia) (by first | decide | lia) | exact CmpOk.le | exact CmpOk.lt | exact CmpOk.gt | exact CmpOk.ge | exact CmpOk.eq | exact CmpOk.ne))
      (case f => unfold worth; rw [if_neg hc])
end Mine
end

section
open PySem PySem.W PyProof.Rows
set_option Elab.async false
set_option linter.unusedVariables false
namespace Mine
set_option maxRecDepth 100000

-- one step of a reckoning

theorem lt_ok {G : Glo} (h : Gnd G) (a b : Int) : CallOk G 1 (.ref 66) [.int a, .int b] (.bool (decide (a < b))) := by
  refine CallOk.def (ns := [Str.ofString "a", Str.ofString "b"]) (h.def (f := 66) rfl (by kernel_rfl)) (fun vs hv => ?_) rfl (by decide) (by decide +kernel) ?_
  · exact binds2 (fun _ _ => rfl) vs hv
  · refine' Ret.ret ?e
    (case e => repeat' (first | exact Ev.name rfl | exact Ev.int | exact Ev.str | exact Ev.flt | exact Ev.bool | exact Ev.none | refine' Ev.bin ?_ ?_ ?_ | refine' Ev.cmp ?_ ?_ ?_ | exact BinOk.add | exact BinOk.sub | exact BinOk.mul (by lia) | exact BinOk.mod (by first | decide | lia) | exact BinOk.floordiv (by first | decide | lia) (by first | decide | lia) | exact BinOk.bitxor | exact BinOk.bitand | exact CmpOk.le | exact CmpOk.lt | exact CmpOk.gt | exact CmpOk.ge | exact CmpOk.eq | exact CmpOk.ne | exact BinOk.fadd | exact BinOk.fsub | exact BinOk.fmul | exact Evs.nil | refine' Evs.cons ?_ ?_ | exact CallOk.max3 | exact CallOk.min3))
theorem xor_ok {G : Glo} (h : Gnd G) (a b : Int) : CallOk G 1 (.ref 80) [.int a, .int b] (.int (Builtin.bitXor a b)) := by
  refine CallOk.def (ns := [Str.ofString "a", Str.ofString "b"]) (h.def (f := 80) rfl (by kernel_rfl)) (fun vs hv => ?_) rfl (by decide) (by decide +kernel) ?_
  · exact binds2 (fun _ _ => rfl) vs hv
  · refine' Ret.ret ?e
    (case e => repeat' (first | exact Ev.name rfl | exact Ev.int | exact Ev.str | exact Ev.flt | exact Ev.bool | exact Ev.none | refine' Ev.bin ?_ ?_ ?_ | refine' Ev.cmp ?_ ?_ ?_ | exact BinOk.add | exact BinOk.sub | exact BinOk.mul (by lia) | exact BinOk.mod (by first | decide | lia) | exact BinOk.floordiv (by first | decide | lia) (by first | decide | lia) | exact BinOk.bitxor | exact BinOk.bitand | exact CmpOk.le | exact CmpOk.lt | exact CmpOk.gt | exact CmpOk.ge | exact CmpOk.eq | exact CmpOk.ne | exact BinOk.fadd | exact BinOk.fsub | exact BinOk.fmul | exact Evs.nil | refine' Evs.cons ?_ ?_ | exact CallOk.max3 | exact CallOk.min3))
theorem truediv_ok {G : Glo} (h : Gnd G) (a b : Int) (h0 : b ≠ 0) (hf : Float64.isInf (Float64.ofFrac (decide (a < 0) != decide (b < 0)) a.natAbs b.natAbs) = false) : CallOk G 1 (.ref 73) [.int a, .int b] (.flt (Float64.ofFrac (decide (a < 0) != decide (b < 0)) a.natAbs b.natAbs)) := by
  refine CallOk.def (ns := [Str.ofString "a", Str.ofString "b"]) (h.def (f := 73) rfl (by kernel_rfl)) (fun vs hv => ?_) rfl (by decide) (by decide +kernel) ?_
  · exact binds2 (fun _ _ => rfl) vs hv
  · refine' Ret.ret ?e
    (case e => refine' Ev.bin ?_ ?_ (BinOk.truediv h0 hf) <;> repeat' (first | exact Ev.name rfl | exact Ev.int | exact Ev.str | exact Ev.flt | exact Ev.bool | exact Ev.none | refine' Ev.bin ?_ ?_ ?_ | refine' Ev.cmp ?_ ?_ ?_ | exact BinOk.add | exact BinOk.sub | exact BinOk.mul (by lia) | exact BinOk.mod (by first | decide | lia) | exact BinOk.floordiv (by first | decide | lia) (by first | decide | lia) | exact BinOk.bitxor | exact BinOk.bitand | exact CmpOk.le | exact CmpOk.lt | exact CmpOk.gt | exact CmpOk.ge | exact CmpOk.eq | exact CmpOk.ne | exact BinOk.fadd | exact BinOk.fsub | exact BinOk.fmul | exact Evs.nil | refine' Evs.cons ?_ ?_ | exact CallOk.max3 | exact CallOk.min3))
noncomputable def boolsD (l : List Bool) : List D := l.map .bool
theorem count_ok {G : Glo} (h : Gnd G) (l : List Bool) (hz : l.length ≤ 1000) : CallOk G 1 (.ref 87) [.list (boolsD l), .bool true] (.int (l.count true)) := by
  refine CallOk.def (ns := [Str.ofString "a", Str.ofString "b"]) (h.def (f := 87) rfl (by kernel_rfl)) (fun vs hv => ?_) rfl (by decide) (by decide +kernel) ?_
  · exact binds2 (fun _ _ => rfl) vs hv
  · refine' Ret.cons (St.assign ?e) ?r
    (case e => repeat' (first | exact Ev.name rfl | exact Ev.int | exact Ev.str | exact Ev.flt | exact Ev.bool | exact Ev.none | refine' Ev.bin ?_ ?_ ?_ | refine' Ev.cmp ?_ ?_ ?_ | exact BinOk.add | exact BinOk.sub | exact BinOk.mul (by lia) | exact BinOk.mod (by first | decide | lia) | exact BinOk.floordiv (by first | decide | lia) (by first | decide | lia) | exact BinOk.bitxor | exact BinOk.bitand | exact CmpOk.le | exact CmpOk.lt | exact CmpOk.gt | exact CmpOk.ge | exact CmpOk.eq | exact CmpOk.ne | exact BinOk.fadd | exact BinOk.fsub | exact BinOk.fmul | exact Evs.nil | refine' Evs.cons ?_ ?_ | exact CallOk.max3 | exact CallOk.min3))
    let ρs : Nat → Names := fun i => [(Str.ofString "count", .int ((l.take i).count true : Nat)), (Str.ofString "a", .list (boolsD l)), (Str.ofString "b", .bool true)]
    have hlen : (boolsD l).length = l.length := by simp [boolsD]
    refine' Ret.cons (St.for ρs (fun d => [(Str.ofString "i", d)]) (Itr.list (Ev.name rfl) (by rw [hlen]; exact hz)) (fun d _ => Put.name) (fun i d hi hd => ?_)) ?_
    · have hi' : i < l.length := by lia
      have e1 : l.take (i + 1) = l.take i ++ [l[i]] := by rw [List.take_succ_eq_append_getElem hi']
      have e2 : d = .bool l[i] := by simp [boolsD, hi'] at hd; exact hd.symm
      subst e2
      cases hb : l[i] with
      | true =>
        refine ⟨_, Sts.one (St.ifT (Tst.orT (Tst.cmp (Ev.name rfl) (Ev.name rfl) CmpOk.bis)) (Sts.one (St.incr rfl Ev.int))), ?_⟩
        have e3 : (((l.take (i + 1)).count true : Nat) : Int) = ((l.take i).count true : Nat) + 1 := by rw [e1, hb]; simp
        refine Sub.cons ?_ (Sub.cons rfl (Sub.cons rfl Sub.nil))
        rw [e3]; rfl
      | false =>
        refine ⟨_, Sts.one (St.ifF (Tst.orF (Tst.cmp (Ev.name rfl) (Ev.name rfl) CmpOk.bis) (Tst.orF (Tst.cmp (Ev.name rfl) (Ev.name rfl) CmpOk.beq) Tst.or0)) Sts.nil), ?_⟩
        have e3 : (((l.take (i + 1)).count true : Nat) : Int) = ((l.take i).count true : Nat) := by rw [e1, hb]; simp
        refine Sub.cons ?_ (Sub.cons rfl (Sub.cons rfl Sub.nil))
        rw [e3]; rfl
    · refine' Ret.ret (Ev.name ?_)
      rw [hlen]
      show some (D.int ((l.take l.length).count true : Nat)) = _
      rw [List.take_length]
end Mine
end

section
open PySem PySem.W PyProof.Rows
set_option Elab.async false
set_option linter.unusedVariables false
namespace Mine
set_option maxRecDepth 100000
open PySem.Flt (maxOfBits minOfBits)

noncomputable def feq (x y : UInt64) : Bool := Float64.cmp x y == some Ordering.eq
noncomputable def fle (x y : UInt64) : Bool := Float64.cmp x y == some Ordering.lt || Float64.cmp x y == some Ordering.eq
noncomputable def mx (r g b : UInt64) : UInt64 := maxOfBits [r, g, b]
noncomputable def mn (r g b : UInt64) : UInt64 := minOfBits [r, g, b]
noncomputable abbrev f0 : UInt64 := 0
noncomputable abbrev fhalf : UInt64 := 0x3FE0000000000000
noncomputable abbrev f1 : UInt64 := 0x3FF0000000000000
noncomputable abbrev f2 : UInt64 := 0x4000000000000000
noncomputable abbrev f4 : UInt64 := 0x4010000000000000
noncomputable abbrev f6 : UInt64 := 0x4018000000000000
noncomputable def rangeF (r g b : UInt64) : UInt64 := Float64.sub (mx r g b) (mn r g b)
noncomputable def part (r g b x : UInt64) : UInt64 := Float64.div (Float64.sub (mx r g b) x) (rangeF r g b)
noncomputable def turnF (r g b : UInt64) : UInt64 :=
  if feq r (mx r g b) = true then Float64.sub (part r g b b) (part r g b g)
  else if feq g (mx r g b) = true then Float64.sub (Float64.add f2 (part r g b r)) (part r g b b)
  else Float64.sub (Float64.add f4 (part r g b g)) (part r g b r)
noncomputable def hueF (r g b : UInt64) : UInt64 := (Float64.divmod (Float64.div (turnF r g b) f6) f1).2
noncomputable def hsvF (r g b : UInt64) : UInt64 × UInt64 × UInt64 :=
  if feq (mn r g b) (mx r g b) = true then (f0, f0, mx r g b) else (hueF r g b, Float64.div (rangeF r g b) (mx r g b), mx r g b)
noncomputable def lightF (r g b : UInt64) : UInt64 := Float64.div (Float64.add (mx r g b) (mn r g b)) f2

-- one step of a reckoning

theorem hsv_ok {G : Glo} (h : Gnd G) (r g b : UInt64) (hz : feq (mn r g b) (mx r g b) = false → Float64.isZero (rangeF r g b) = false ∧ Float64.isZero (mx r g b) = false) :
    CallOk G 1 (.ref 52) [.flt r, .flt g, .flt b] (.tup [.flt (hsvF r g b).1, .flt (hsvF r g b).2.1, .flt (hsvF r g b).2.2]) := by
  refine CallOk.def (ns := [Str.ofString "r", Str.ofString "g", Str.ofString "b"]) (h.def (f := 52) rfl (by kernel_rfl)) (fun vs hv => ?_) rfl (by decide) (by decide +kernel) ?_
  · exact binds3 (fun _ _ _ => rfl) vs hv
  · refine' Ret.cons (St.assign (d := .flt (mx r g b)) ?e) ?_
    (case e => repeat' (first | exact Ev.name rfl | exact Ev.int | exact Ev.str | exact Ev.flt | exact Ev.bool | exact Ev.none | refine' Ev.bin ?_ ?_ ?_ | refine' Ev.cmp ?_ ?_ ?_ | refine' ev_tup3 ?_ | refine' Ev.call (Gnd.built (by assumption) rfl rfl (by decide)) (.builtin _) ?_ ?_ | refine' Ev.call (Gnd.built (by assumption) rfl rfl (by decide)) (.type _) ?_ ?_ | exact BinOk.add | exact BinOk.sub | exact BinOk.mul (by omega) | exact BinOk.mod (by first | decide | omega) | exact BinOk.floordiv (by first | decide | omega) (by first | decide | omega) | exact BinOk.bitxor | exact BinOk.bitand | exact CmpOk.le | exact CmpOk.lt | exact CmpOk.gt | exact CmpOk.ge | exact CmpOk.eq | exact CmpOk.ne | exact CmpOk.feq | exact CmpOk.fle | exact BinOk.fadd | exact BinOk.fsub | exact BinOk.fmul | exact BinOk.fdiv (by first | assumption | decide +kernel) | exact BinOk.fmod (by first | assumption | decide +kernel) | exact Evs.nil | refine' Evs.cons ?_ ?_ | exact CallOk.max3 | exact CallOk.min3))
    refine' Ret.cons (St.assign (d := .flt (mn r g b)) ?e) ?_
    (case e => repeat' (first | exact Ev.name rfl | exact Ev.int | exact Ev.str | exact Ev.flt | exact Ev.bool | exact Ev.none | refine' Ev.bin ?_ ?_ ?_ | refine' Ev.cmp ?_ ?_ ?_ | refine' ev_tup3 ?_ | refine' Ev.call (Gnd.built (by assumption) rfl rfl (by decide)) (.builtin _) ?_ ?_ | refine' Ev.call (Gnd.built (by assumption) rfl rfl (by decide)) (.type _) ?_ ?_ | exact BinOk.add | exact BinOk.sub | exact BinOk.mul (by omega) | exact BinOk.mod (by first | decide | omega) | exact BinOk.floordiv (by first | decide | omega) (by first | decide | omega) | exact BinOk.bitxor | exact BinOk.bitand | exact CmpOk.le | exact CmpOk.lt | exact CmpOk.gt | exact CmpOk.ge | exact CmpOk.eq | exact CmpOk.ne | exact CmpOk.feq | exact CmpOk.fle | exact BinOk.fadd | exact BinOk.fsub | exact BinOk.fmul | exact BinOk.fdiv (by first | assumption | decide +kernel) | exact BinOk.fmod (by first | assumption | decide +kernel) | exact Evs.nil | refine' Evs.cons ?_ ?_ | exact CallOk.max3 | exact CallOk.min3))
    refine' Ret.cons (St.assign (d := .flt (rangeF r g b)) ?e) ?_
    (case e => repeat' (first | exact Ev.name rfl | exact Ev.int | exact Ev.str | exact Ev.flt | exact Ev.bool | exact Ev.none | refine' Ev.bin ?_ ?_ ?_ | refine' Ev.cmp ?_ ?_ ?_ | refine' ev_tup3 ?_ | refine' Ev.call (Gnd.built (by assumption) rfl rfl (by decide)) (.builtin _) ?_ ?_ | refine' Ev.call (Gnd.built (by assumption) rfl rfl (by decide)) (.type _) ?_ ?_ | exact BinOk.add | exact BinOk.sub | exact BinOk.mul (by omega) | exact BinOk.mod (by first | decide | omega) | exact BinOk.floordiv (by first | decide | omega) (by first | decide | omega) | exact BinOk.bitxor | exact BinOk.bitand | exact CmpOk.le | exact CmpOk.lt | exact CmpOk.gt | exact CmpOk.ge | exact CmpOk.eq | exact CmpOk.ne | exact CmpOk.feq | exact CmpOk.fle | exact BinOk.fadd | exact BinOk.fsub | exact BinOk.fmul | exact BinOk.fdiv (by first | assumption | decide +kernel) | exact BinOk.fmod (by first | assumption | decide +kernel) | exact Evs.nil | refine' Evs.cons ?_ ?_ | exact CallOk.max3 | exact CallOk.min3))
    refine' Ret.cons (St.assign ?e) ?_
    (case e => repeat' (first | exact Ev.name rfl | exact Ev.int | exact Ev.str | exact Ev.flt | exact Ev.bool | exact Ev.none | refine' Ev.bin ?_ ?_ ?_ | refine' Ev.cmp ?_ ?_ ?_ | refine' ev_tup3 ?_ | refine' Ev.call (Gnd.built (by assumption) rfl rfl (by decide)) (.builtin _) ?_ ?_ | refine' Ev.call (Gnd.built (by assumption) rfl rfl (by decide)) (.type _) ?_ ?_ | exact BinOk.add | exact BinOk.sub | exact BinOk.mul (by omega) | exact BinOk.mod (by first | decide | omega) | exact BinOk.floordiv (by first | decide | omega) (by first | decide | omega) | exact BinOk.bitxor | exact BinOk.bitand | exact CmpOk.le | exact CmpOk.lt | exact CmpOk.gt | exact CmpOk.ge | exact CmpOk.eq | exact CmpOk.ne | exact CmpOk.feq | exact CmpOk.fle | exact BinOk.fadd | exact BinOk.fsub | exact BinOk.fmul | exact BinOk.fdiv (by first | assumption | decide +kernel) | exact BinOk.fmod (by first | assumption | decide +kernel) | exact Evs.nil | refine' Evs.cons ?_ ?_ | exact CallOk.max3 | exact CallOk.min3))
    cases hq : feq (mn r g b) (mx r g b) with
    | true =>
      refine' Ret.cast (Ret.ifT (Tst.cast (Tst.cmp ?a ?b CmpOk.feq) hq) (Ret.ret ?e)) ?f
      (case a => repeat' (first | exact Ev.name rfl | exact Ev.int | exact Ev.str | exact Ev.flt | exact Ev.bool | exact Ev.none | refine' Ev.bin ?_ ?_ ?_ | refine' Ev.cmp ?_ ?_ ?_ | refine' ev_tup3 ?_ | refine' Ev.call (Gnd.built (by assumption) rfl rfl (by decide)) (.builtin _) ?_ ?_ | refine' Ev.call (Gnd.built (by assumption) rfl rfl (by decide)) (.type _) ?_ ?_ | exact BinOk.add | exact BinOk.sub | exact BinOk.mul (by omega) | exact BinOk.mod (by first | decide | omega) | exact BinOk.floordiv (by first | decide | omega) (by first | decide | omega) | exact BinOk.bitxor | exact BinOk.bitand | exact CmpOk.le | exact CmpOk.lt | exact CmpOk.gt | exact CmpOk.ge | exact CmpOk.eq | exact CmpOk.ne | exact CmpOk.feq | exact CmpOk.fle | exact BinOk.fadd | exact BinOk.fsub | exact BinOk.fmul | exact BinOk.fdiv (by first | assumption | decide +kernel) | exact BinOk.fmod (by first | assumption | decide +kernel) | exact Evs.nil | refine' Evs.cons ?_ ?_ | exact CallOk.max3 | exact CallOk.min3))
      (case b => repeat' (first | exact Ev.name rfl | exact Ev.int | exact Ev.str | exact Ev.flt | exact Ev.bool | exact Ev.none | refine' Ev.bin ?_ ?_ ?_ | refine' Ev.cmp ?_ ?_ ?_ | refine' ev_tup3 ?_ | refine' Ev.call (Gnd.built (by assumption) rfl rfl (by decide)) (.builtin _) ?_ ?_ | refine' Ev.call (Gnd.built (by assumption) rfl rfl (by decide)) (.type _) ?_ ?_ | exact BinOk.add | exact BinOk.sub | exact BinOk.mul (by omega) | exact BinOk.mod (by first | decide | omega) | exact BinOk.floordiv (by first | decide | omega) (by first | decide | omega) | exact BinOk.bitxor | exact BinOk.bitand | exact CmpOk.le | exact CmpOk.lt | exact CmpOk.gt | exact CmpOk.ge | exact CmpOk.eq | exact CmpOk.ne | exact CmpOk.feq | exact CmpOk.fle | exact BinOk.fadd | exact BinOk.fsub | exact BinOk.fmul | exact BinOk.fdiv (by first | assumption | decide +kernel) | exact BinOk.fmod (by first | assumption | decide +kernel) | exact Evs.nil | refine' Evs.cons ?_ ?_ | exact CallOk.max3 | exact CallOk.min3))
      (case e => repeat' (first | exact Ev.name rfl | exact Ev.int | exact Ev.str | exact Ev.flt | exact Ev.bool | exact Ev.none | refine' Ev.bin ?_ ?_ ?_ | refine' Ev.cmp ?_ ?_ ?_ | refine' ev_tup3 ?_ | refine' Ev.call (Gnd.built (by assumption) rfl rfl (by decide)) (.builtin _) ?_ ?_ | refine' Ev.call (Gnd.built (by assumption) rfl rfl (by decide)) (.type _) ?_ ?_ | exact BinOk.add | exact BinOk.sub | exact BinOk.mul (by omega) | exact BinOk.mod (by first | decide | omega) | exact BinOk.floordiv (by first | decide | omega) (by first | decide | omega) | exact BinOk.bitxor | exact BinOk.bitand | exact CmpOk.le | exact CmpOk.lt | exact CmpOk.gt | exact CmpOk.ge | exact CmpOk.eq | exact CmpOk.ne | exact CmpOk.feq | exact CmpOk.fle | exact BinOk.fadd | exact BinOk.fsub | exact BinOk.fmul | exact BinOk.fdiv (by first | assumption | decide +kernel) | exact BinOk.fmod (by first | assumption | decide +kernel) | exact Evs.nil | refine' Evs.cons ?_ ?_ | exact CallOk.max3 | exact CallOk.min3))
      (case f => unfold hsvF; rw [if_pos hq])
    | false =>
      obtain ⟨z1, z2⟩ := hz hq
      refine' Ret.cast (Ret.cons (St.ifF (Tst.cast (Tst.cmp ?a ?b CmpOk.feq) hq) Sts.nil) ?_) (d' := .tup [.flt (hueF r g b), .flt (Float64.div (rangeF r g b) (mx r g b)), .flt (mx r g b)]) ?f
      (case a => repeat' (first | exact Ev.name rfl | exact Ev.int | exact Ev.str | exact Ev.flt | exact Ev.bool | exact Ev.none | refine' Ev.bin ?_ ?_ ?_ | refine' Ev.cmp ?_ ?_ ?_ | refine' ev_tup3 ?_ | refine' Ev.call (Gnd.built (by assumption) rfl rfl (by decide)) (.builtin _) ?_ ?_ | refine' Ev.call (Gnd.built (by assumption) rfl rfl (by decide)) (.type _) ?_ ?_ | exact BinOk.add | exact BinOk.sub | exact BinOk.mul (by omega) | exact BinOk.mod (by first | decide | omega) | exact BinOk.floordiv (by first | decide | omega) (by first | decide | omega) | exact BinOk.bitxor | exact BinOk.bitand | exact CmpOk.le | exact CmpOk.lt | exact CmpOk.gt | exact CmpOk.ge | exact CmpOk.eq | exact CmpOk.ne | exact CmpOk.feq | exact CmpOk.fle | exact BinOk.fadd | exact BinOk.fsub | exact BinOk.fmul | exact BinOk.fdiv (by first | assumption | decide +kernel) | exact BinOk.fmod (by first | assumption | decide +kernel) | exact Evs.nil | refine' Evs.cons ?_ ?_ | exact CallOk.max3 | exact CallOk.min3))
      (case b => repeat' (first | exact Ev.name rfl | exact Ev.int | exact Ev.str | exact Ev.flt | exact Ev.bool | exact Ev.none | refine' Ev.bin ?_ ?_ ?_ | refine' Ev.cmp ?_ ?_ ?_ | refine' ev_tup3 ?_ | refine' Ev.call (Gnd.built (by assumption) rfl rfl (by decide)) (.builtin _) ?_ ?_ | refine' Ev.call (Gnd.built (by assumption) rfl rfl (by decide)) (.type _) ?_ ?_ | exact BinOk.add | exact BinOk.sub | exact BinOk.mul (by omega) | exact BinOk.mod (by first | decide | omega) | exact BinOk.floordiv (by first | decide | omega) (by first | decide | omega) | exact BinOk.bitxor | exact BinOk.bitand | exact CmpOk.le | exact CmpOk.lt | exact CmpOk.gt | exact CmpOk.ge | exact CmpOk.eq | exact CmpOk.ne | exact CmpOk.feq | exact CmpOk.fle | exact BinOk.fadd | exact BinOk.fsub | exact BinOk.fmul | exact BinOk.fdiv (by first | assumption | decide +kernel) | exact BinOk.fmod (by first | assumption | decide +kernel) | exact Evs.nil | refine' Evs.cons ?_ ?_ | exact CallOk.max3 | exact CallOk.min3))
      (case f => unfold hsvF; rw [if_neg (by rw [hq]; decide)])
      refine' Ret.cons (St.assign ?e) ?_
      (case e => repeat' (first | exact Ev.name rfl | exact Ev.int | exact Ev.str | exact Ev.flt | exact Ev.bool | exact Ev.none | refine' Ev.bin ?_ ?_ ?_ | refine' Ev.cmp ?_ ?_ ?_ | refine' ev_tup3 ?_ | refine' Ev.call (Gnd.built (by assumption) rfl rfl (by decide)) (.builtin _) ?_ ?_ | refine' Ev.call (Gnd.built (by assumption) rfl rfl (by decide)) (.type _) ?_ ?_ | exact BinOk.add | exact BinOk.sub | exact BinOk.mul (by omega) | exact BinOk.mod (by first | decide | omega) | exact BinOk.floordiv (by first | decide | omega) (by first | decide | omega) | exact BinOk.bitxor | exact BinOk.bitand | exact CmpOk.le | exact CmpOk.lt | exact CmpOk.gt | exact CmpOk.ge | exact CmpOk.eq | exact CmpOk.ne | exact CmpOk.feq | exact CmpOk.fle | exact BinOk.fadd | exact BinOk.fsub | exact BinOk.fmul | exact BinOk.fdiv (by first | assumption | decide +kernel) | exact BinOk.fmod (by first | assumption | decide +kernel) | exact Evs.nil | refine' Evs.cons ?_ ?_ | exact CallOk.max3 | exact CallOk.min3))
      refine' Ret.cons (St.assign (d := .flt (part r g b r)) ?e) ?_
      (case e => repeat' (first | exact Ev.name rfl | exact Ev.int | exact Ev.str | exact Ev.flt | exact Ev.bool | exact Ev.none | refine' Ev.bin ?_ ?_ ?_ | refine' Ev.cmp ?_ ?_ ?_ | refine' ev_tup3 ?_ | refine' Ev.call (Gnd.built (by assumption) rfl rfl (by decide)) (.builtin _) ?_ ?_ | refine' Ev.call (Gnd.built (by assumption) rfl rfl (by decide)) (.type _) ?_ ?_ | exact BinOk.add | exact BinOk.sub | exact BinOk.mul (by omega) | exact BinOk.mod (by first | decide | omega) | exact BinOk.floordiv (by first | decide | omega) (by first | decide | omega) | exact BinOk.bitxor | exact BinOk.bitand | exact CmpOk.le | exact CmpOk.lt | exact CmpOk.gt | exact CmpOk.ge | exact CmpOk.eq | exact CmpOk.ne | exact CmpOk.feq | exact CmpOk.fle | exact BinOk.fadd | exact BinOk.fsub | exact BinOk.fmul | exact BinOk.fdiv (by first | assumption | decide +kernel) | exact BinOk.fmod (by first | assumption | decide +kernel) | exact Evs.nil | refine' Evs.cons ?_ ?_ | exact CallOk.max3 | exact CallOk.min3))
      refine' Ret.cons (St.assign (d := .flt (part r g b g)) ?e) ?_
      (case e => repeat' (first | exact Ev.name rfl | exact Ev.int | exact Ev.str | exact Ev.flt | exact Ev.bool | exact Ev.none | refine' Ev.bin ?_ ?_ ?_ | refine' Ev.cmp ?_ ?_ ?_ | refine' ev_tup3 ?_ | refine' Ev.call (Gnd.built (by assumption) rfl rfl (by decide)) (.builtin _) ?_ ?_ | refine' Ev.call (Gnd.built (by assumption) rfl rfl (by decide)) (.type _) ?_ ?_ | exact BinOk.add | exact BinOk.sub | exact BinOk.mul (by omega) | exact BinOk.mod (by first | decide | omega) | exact BinOk.floordiv (by first | decide | omega) (by first | decide | omega) | exact BinOk.bitxor | exact BinOk.bitand | exact CmpOk.le | exact CmpOk.lt | exact CmpOk.gt | exact CmpOk.ge | exact CmpOk.eq | exact CmpOk.ne | exact CmpOk.feq | exact CmpOk.fle | exact BinOk.fadd | exact BinOk.fsub | exact BinOk.fmul | exact BinOk.fdiv (by first | assumption | decide +kernel) | exact BinOk.fmod (by first | assumption | decide +kernel) | exact Evs.nil | refine' Evs.cons ?_ ?_ | exact CallOk.max3 | exact CallOk.min3))
      refine' Ret.cons (St.assign (d := .flt (part r g b b)) ?e) ?_
      (case e => repeat' (first | exact Ev.name rfl | exact Ev.int | exact Ev.str | exact Ev.flt | exact Ev.bool | exact Ev.none | refine' Ev.bin ?_ ?_ ?_ | refine' Ev.cmp ?_ ?_ ?_ | refine' ev_tup3 ?_ | refine' Ev.call (Gnd.built (by assumption) rfl rfl (by decide)) (.builtin _) ?_ ?_ | refine' Ev.call (Gnd.built (by assumption) rfl rfl (by decide)) (.type _) ?_ ?_ | exact BinOk.add | exact BinOk.sub | exact BinOk.mul (by omega) | exact BinOk.mod (by first | decide | omega) | exact BinOk.floordiv (by first | decide | omega) (by first | decide | omega) | exact BinOk.bitxor | exact BinOk.bitand | exact CmpOk.le | exact CmpOk.lt | exact CmpOk.gt | exact CmpOk.ge | exact CmpOk.eq | exact CmpOk.ne | exact CmpOk.feq | exact CmpOk.fle | exact BinOk.fadd | exact BinOk.fsub | exact BinOk.fmul | exact BinOk.fdiv (by first | assumption | decide +kernel) | exact BinOk.fmod (by first | assumption | decide +kernel) | exact Evs.nil | refine' Evs.cons ?_ ?_ | exact CallOk.max3 | exact CallOk.min3))
      refine' Ret.cons (ρ' := (Str.ofString "h", .flt (turnF r g b)) :: _) ?st ?_
      (case st =>
        unfold turnF
        cases hr : feq r (mx r g b) with
        | true =>
          rw [if_pos rfl]
          refine' St.ifT (Tst.cast (Tst.cmp (Ev.name rfl) (Ev.name rfl) CmpOk.feq) hr) (Sts.one (St.assign ?e))
          (case e => repeat' (first | exact Ev.name rfl | exact Ev.int | exact Ev.str | exact Ev.flt | exact Ev.bool | exact Ev.none | refine' Ev.bin ?_ ?_ ?_ | refine' Ev.cmp ?_ ?_ ?_ | refine' ev_tup3 ?_ | refine' Ev.call (Gnd.built (by assumption) rfl rfl (by decide)) (.builtin _) ?_ ?_ | refine' Ev.call (Gnd.built (by assumption) rfl rfl (by decide)) (.type _) ?_ ?_ | exact BinOk.add | exact BinOk.sub | exact BinOk.mul (by omega) | exact BinOk.mod (by first | decide | omega) | exact BinOk.floordiv (by first | decide | omega) (by first | decide | omega) | exact BinOk.bitxor | exact BinOk.bitand | exact CmpOk.le | exact CmpOk.lt | exact CmpOk.gt | exact CmpOk.ge | exact CmpOk.eq | exact CmpOk.ne | exact CmpOk.feq | exact CmpOk.fle | exact BinOk.fadd | exact BinOk.fsub | exact BinOk.fmul | exact BinOk.fdiv (by first | assumption | decide +kernel) | exact BinOk.fmod (by first | assumption | decide +kernel) | exact Evs.nil | refine' Evs.cons ?_ ?_ | exact CallOk.max3 | exact CallOk.min3))
        | false =>
          rw [if_neg (by decide)]
          refine' St.ifF (Tst.cast (Tst.cmp (Ev.name rfl) (Ev.name rfl) CmpOk.feq) hr) (Sts.one ?_)
          cases hg : feq g (mx r g b) with
          | true =>
            rw [if_pos rfl]
            refine' St.ifT (Tst.cast (Tst.cmp (Ev.name rfl) (Ev.name rfl) CmpOk.feq) hg) (Sts.one (St.assign ?e))
            (case e => repeat' (first | exact Ev.name rfl | exact Ev.int | exact Ev.str | exact Ev.flt | exact Ev.bool | exact Ev.none | refine' Ev.bin ?_ ?_ ?_ | refine' Ev.cmp ?_ ?_ ?_ | refine' ev_tup3 ?_ | refine' Ev.call (Gnd.built (by assumption) rfl rfl (by decide)) (.builtin _) ?_ ?_ | refine' Ev.call (Gnd.built (by assumption) rfl rfl (by decide)) (.type _) ?_ ?_ | exact BinOk.add | exact BinOk.sub | exact BinOk.mul (by omega) | exact BinOk.mod (by first | decide | omega) | exact BinOk.floordiv (by first | decide | omega) (by first | decide | omega) | exact BinOk.bitxor | exact BinOk.bitand | exact CmpOk.le | exact CmpOk.lt | exact CmpOk.gt | exact CmpOk.ge | exact CmpOk.eq | exact CmpOk.ne | exact CmpOk.feq | exact CmpOk.fle | exact BinOk.fadd | exact BinOk.fsub | exact BinOk.fmul | exact BinOk.fdiv (by first | assumption | decide +kernel) | exact BinOk.fmod (by first | assumption | decide +kernel) | exact Evs.nil | refine' Evs.cons ?_ ?_ | exact CallOk.max3 | exact CallOk.min3))
          | false =>
            rw [if_neg (by decide)]
            refine' St.ifF (Tst.cast (Tst.cmp (Ev.name rfl) (Ev.name rfl) CmpOk.feq) hg) (Sts.one (St.assign ?e))
            (case e => repeat' (first | exact Ev.name rfl | exact Ev.int | exact Ev.str | exact Ev.flt | exact Ev.bool | exact Ev.none | refine' Ev.bin ?_ ?_ ?_ | refine' Ev.cmp ?_ ?_ ?_ | refine' ev_tup3 ?_ | refine' Ev.call (Gnd.built (by assumption) rfl rfl (by decide)) (.builtin _) ?_ ?_ | refine' Ev.call (Gnd.built (by assumption) rfl rfl (by decide)) (.type _) ?_ ?_ | exact BinOk.add | exact BinOk.sub | exact BinOk.mul (by omega) | exact BinOk.mod (by first | decide | omega) | exact BinOk.floordiv (by first | decide | omega) (by first | decide | omega) | exact BinOk.bitxor | exact BinOk.bitand | exact CmpOk.le | exact CmpOk.lt | exact CmpOk.gt | exact CmpOk.ge | exact CmpOk.eq | exact CmpOk.ne | exact CmpOk.feq | exact CmpOk.fle | exact BinOk.fadd | exact BinOk.fsub | exact BinOk.fmul | exact BinOk.fdiv (by first | assumption | decide +kernel) | exact BinOk.fmod (by first | assumption | decide +kernel) | exact Evs.nil | refine' Evs.cons ?_ ?_ | exact CallOk.max3 | exact CallOk.min3)))
      refine' Ret.cons (St.assign (d := .flt (hueF r g b)) ?e) ?_
      (case e => repeat' (first | exact Ev.name rfl | exact Ev.int | exact Ev.str | exact Ev.flt | exact Ev.bool | exact Ev.none | refine' Ev.bin ?_ ?_ ?_ | refine' Ev.cmp ?_ ?_ ?_ | refine' ev_tup3 ?_ | refine' Ev.call (Gnd.built (by assumption) rfl rfl (by decide)) (.builtin _) ?_ ?_ | refine' Ev.call (Gnd.built (by assumption) rfl rfl (by decide)) (.type _) ?_ ?_ | exact BinOk.add | exact BinOk.sub | exact BinOk.mul (by omega) | exact BinOk.mod (by first | decide | omega) | exact BinOk.floordiv (by first | decide | omega) (by first | decide | omega) | exact BinOk.bitxor | exact BinOk.bitand | exact CmpOk.le | exact CmpOk.lt | exact CmpOk.gt | exact CmpOk.ge | exact CmpOk.eq | exact CmpOk.ne | exact CmpOk.feq | exact CmpOk.fle | exact BinOk.fadd | exact BinOk.fsub | exact BinOk.fmul | exact BinOk.fdiv (by first | assumption | decide +kernel) | exact BinOk.fmod (by first | assumption | decide +kernel) | exact Evs.nil | refine' Evs.cons ?_ ?_ | exact CallOk.max3 | exact CallOk.min3))
      refine' Ret.ret ?e
      (case e => repeat' (first | exact Ev.name rfl | exact Ev.int | exact Ev.str | exact Ev.flt | exact Ev.bool | exact Ev.none | refine' Ev.bin ?_ ?_ ?_ | refine' Ev.cmp ?_ ?_ ?_ | refine' ev_tup3 ?_ | refine' Ev.call (Gnd.built (by assumption) rfl rfl (by decide)) (.builtin _) ?_ ?_ | refine' Ev.call (Gnd.built (by assumption) rfl rfl (by decide)) (.type _) ?_ ?_ | exact BinOk.add | exact BinOk.sub | exact BinOk.mul (by omega) | exact BinOk.mod (by first | decide | omega) | exact BinOk.floordiv (by first | decide | omega) (by first | decide | omega) | exact BinOk.bitxor | exact BinOk.bitand | exact CmpOk.le | exact CmpOk.lt | exact CmpOk.gt | exact CmpOk.ge | exact CmpOk.eq | exact CmpOk.ne | exact CmpOk.feq | exact CmpOk.fle | exact BinOk.fadd | exact BinOk.fsub | exact BinOk.fmul | exact BinOk.fdiv (by first | assumption | decide +kernel) | exact BinOk.fmod (by first | assumption | decide +kernel) | exact Evs.nil | refine' Evs.cons ?_ ?_ | exact CallOk.max3 | exact CallOk.min3))
end Mine
end

section
open PySem PySem.W PyProof.Rows
set_option Elab.async false
set_option linter.unusedVariables false
namespace Mine
set_option maxRecDepth 100000
open PySem.Flt (maxOfBits minOfBits)

-- one step of a reckoning

noncomputable def hlsS (r g b : UInt64) : UInt64 := (if fle (lightF r g b) fhalf = true then Float64.div (rangeF r g b) (Float64.add (mx r g b) (mn r g b)) else Float64.div (rangeF r g b) (Float64.sub (Float64.sub f2 (mx r g b)) (mn r g b)))
theorem hls_ok {G : Glo} (h : Gnd G) (r g b : UInt64) (hz : feq (mn r g b) (mx r g b) = false → Float64.isZero (rangeF r g b) = false ∧ Float64.isZero (Float64.add (mx r g b) (mn r g b)) = false ∧ Float64.isZero (Float64.sub (Float64.sub f2 (mx r g b)) (mn r g b)) = false) :
    ∃ hh ss, CallOk G 1 (.ref 45) [.flt r, .flt g, .flt b] (.tup [.flt hh, .flt (lightF r g b), .flt ss]) := by
  cases hq : feq (mn r g b) (mx r g b) with
  | true =>
    refine ⟨f0, f0, CallOk.def (ns := [Str.ofString "r", Str.ofString "g", Str.ofString "b"]) (h.def (f := 45) rfl (by kernel_rfl)) (fun vs hv => ?_) rfl (by decide) (by decide +kernel) ?_⟩
    · exact binds3 (fun _ _ _ => rfl) vs hv
    · refine' Ret.cons (St.assign (d := .flt (mx r g b)) ?e) ?_
      (case e => repeat' (first | exact Ev.name rfl | exact Ev.int | exact Ev.flt | refine' Ev.bin ?_ ?_ ?_ | refine' ev_tup3 ?_ | refine' Ev.call (Gnd.built (by assumption) rfl rfl (by decide)) (.builtin _) ?_ ?_ | refine' Ev.call (Gnd.built (by assumption) rfl rfl (by decide)) (.type _) ?_ ?_ | exact BinOk.mod (by decide) | exact BinOk.fadd | exact BinOk.fsub | exact BinOk.fmul | exact BinOk.fdiv (by first | assumption | decide +kernel) | exact BinOk.fmod (by first | assumption | decide +kernel) | exact Evs.nil | refine' Evs.cons ?_ ?_ | exact CallOk.max3 | exact CallOk.min3))
      refine' Ret.cons (St.assign (d := .flt (mn r g b)) ?e) ?_
      (case e => repeat' (first | exact Ev.name rfl | exact Ev.int | exact Ev.flt | refine' Ev.bin ?_ ?_ ?_ | refine' ev_tup3 ?_ | refine' Ev.call (Gnd.built (by assumption) rfl rfl (by decide)) (.builtin _) ?_ ?_ | refine' Ev.call (Gnd.built (by assumption) rfl rfl (by decide)) (.type _) ?_ ?_ | exact BinOk.mod (by decide) | exact BinOk.fadd | exact BinOk.fsub | exact BinOk.fmul | exact BinOk.fdiv (by first | assumption | decide +kernel) | exact BinOk.fmod (by first | assumption | decide +kernel) | exact Evs.nil | refine' Evs.cons ?_ ?_ | exact CallOk.max3 | exact CallOk.min3))
      refine' Ret.cons (St.assign ?e) ?_
      (case e => repeat' (first | exact Ev.name rfl | exact Ev.int | exact Ev.flt | refine' Ev.bin ?_ ?_ ?_ | refine' ev_tup3 ?_ | refine' Ev.call (Gnd.built (by assumption) rfl rfl (by decide)) (.builtin _) ?_ ?_ | refine' Ev.call (Gnd.built (by assumption) rfl rfl (by decide)) (.type _) ?_ ?_ | exact BinOk.mod (by decide) | exact BinOk.fadd | exact BinOk.fsub | exact BinOk.fmul | exact BinOk.fdiv (by first | assumption | decide +kernel) | exact BinOk.fmod (by first | assumption | decide +kernel) | exact Evs.nil | refine' Evs.cons ?_ ?_ | exact CallOk.max3 | exact CallOk.min3))
      refine' Ret.cons (St.assign (d := .flt (rangeF r g b)) ?e) ?_
      (case e => repeat' (first | exact Ev.name rfl | exact Ev.int | exact Ev.flt | refine' Ev.bin ?_ ?_ ?_ | refine' ev_tup3 ?_ | refine' Ev.call (Gnd.built (by assumption) rfl rfl (by decide)) (.builtin _) ?_ ?_ | refine' Ev.call (Gnd.built (by assumption) rfl rfl (by decide)) (.type _) ?_ ?_ | exact BinOk.mod (by decide) | exact BinOk.fadd | exact BinOk.fsub | exact BinOk.fmul | exact BinOk.fdiv (by first | assumption | decide +kernel) | exact BinOk.fmod (by first | assumption | decide +kernel) | exact Evs.nil | refine' Evs.cons ?_ ?_ | exact CallOk.max3 | exact CallOk.min3))
      refine' Ret.cons (St.assign (d := .flt (lightF r g b)) ?e) ?_
      (case e => repeat' (first | exact Ev.name rfl | exact Ev.int | exact Ev.flt | refine' Ev.bin ?_ ?_ ?_ | refine' ev_tup3 ?_ | refine' Ev.call (Gnd.built (by assumption) rfl rfl (by decide)) (.builtin _) ?_ ?_ | refine' Ev.call (Gnd.built (by assumption) rfl rfl (by decide)) (.type _) ?_ ?_ | exact BinOk.mod (by decide) | exact BinOk.fadd | exact BinOk.fsub | exact BinOk.fmul | exact BinOk.fdiv (by first | assumption | decide +kernel) | exact BinOk.fmod (by first | assumption | decide +kernel) | exact Evs.nil | refine' Evs.cons ?_ ?_ | exact CallOk.max3 | exact CallOk.min3))
      refine' Ret.ifT (Tst.cast (Tst.cmp (Ev.name rfl) (Ev.name rfl) CmpOk.feq) hq) (Ret.ret ?e)
      (case e => repeat' (first | exact Ev.name rfl | exact Ev.int | exact Ev.flt | refine' Ev.bin ?_ ?_ ?_ | refine' ev_tup3 ?_ | refine' Ev.call (Gnd.built (by assumption) rfl rfl (by decide)) (.builtin _) ?_ ?_ | refine' Ev.call (Gnd.built (by assumption) rfl rfl (by decide)) (.type _) ?_ ?_ | exact BinOk.mod (by decide) | exact BinOk.fadd | exact BinOk.fsub | exact BinOk.fmul | exact BinOk.fdiv (by first | assumption | decide +kernel) | exact BinOk.fmod (by first | assumption | decide +kernel) | exact Evs.nil | refine' Evs.cons ?_ ?_ | exact CallOk.max3 | exact CallOk.min3))
  | false =>
    obtain ⟨z1, z2, z3⟩ := hz hq
    refine ⟨hueF r g b, (hlsS r g b), CallOk.def (ns := [Str.ofString "r", Str.ofString "g", Str.ofString "b"]) (h.def (f := 45) rfl (by kernel_rfl)) (fun vs hv => ?_) rfl (by decide) (by decide +kernel) ?_⟩
    · exact binds3 (fun _ _ _ => rfl) vs hv
    · refine' Ret.cons (St.assign (d := .flt (mx r g b)) ?e) ?_
      (case e => repeat' (first | exact Ev.name rfl | exact Ev.int | exact Ev.flt | refine' Ev.bin ?_ ?_ ?_ | refine' ev_tup3 ?_ | refine' Ev.call (Gnd.built (by assumption) rfl rfl (by decide)) (.builtin _) ?_ ?_ | refine' Ev.call (Gnd.built (by assumption) rfl rfl (by decide)) (.type _) ?_ ?_ | exact BinOk.mod (by decide) | exact BinOk.fadd | exact BinOk.fsub | exact BinOk.fmul | exact BinOk.fdiv (by first | assumption | decide +kernel) | exact BinOk.fmod (by first | assumption | decide +kernel) | exact Evs.nil | refine' Evs.cons ?_ ?_ | exact CallOk.max3 | exact CallOk.min3))
      refine' Ret.cons (St.assign (d := .flt (mn r g b)) ?e) ?_
      (case e => repeat' (first | exact Ev.name rfl | exact Ev.int | exact Ev.flt | refine' Ev.bin ?_ ?_ ?_ | refine' ev_tup3 ?_ | refine' Ev.call (Gnd.built (by assumption) rfl rfl (by decide)) (.builtin _) ?_ ?_ | refine' Ev.call (Gnd.built (by assumption) rfl rfl (by decide)) (.type _) ?_ ?_ | exact BinOk.mod (by decide) | exact BinOk.fadd | exact BinOk.fsub | exact BinOk.fmul | exact BinOk.fdiv (by first | assumption | decide +kernel) | exact BinOk.fmod (by first | assumption | decide +kernel) | exact Evs.nil | refine' Evs.cons ?_ ?_ | exact CallOk.max3 | exact CallOk.min3))
      refine' Ret.cons (St.assign ?e) ?_
      (case e => repeat' (first | exact Ev.name rfl | exact Ev.int | exact Ev.flt | refine' Ev.bin ?_ ?_ ?_ | refine' ev_tup3 ?_ | refine' Ev.call (Gnd.built (by assumption) rfl rfl (by decide)) (.builtin _) ?_ ?_ | refine' Ev.call (Gnd.built (by assumption) rfl rfl (by decide)) (.type _) ?_ ?_ | exact BinOk.mod (by decide) | exact BinOk.fadd | exact BinOk.fsub | exact BinOk.fmul | exact BinOk.fdiv (by first | assumption | decide +kernel) | exact BinOk.fmod (by first | assumption | decide +kernel) | exact Evs.nil | refine' Evs.cons ?_ ?_ | exact CallOk.max3 | exact CallOk.min3))
      refine' Ret.cons (St.assign (d := .flt (rangeF r g b)) ?e) ?_
      (case e => repeat' (first | exact Ev.name rfl | exact Ev.int | exact Ev.flt | refine' Ev.bin ?_ ?_ ?_ | refine' ev_tup3 ?_ | refine' Ev.call (Gnd.built (by assumption) rfl rfl (by decide)) (.builtin _) ?_ ?_ | refine' Ev.call (Gnd.built (by assumption) rfl rfl (by decide)) (.type _) ?_ ?_ | exact BinOk.mod (by decide) | exact BinOk.fadd | exact BinOk.fsub | exact BinOk.fmul | exact BinOk.fdiv (by first | assumption | decide +kernel) | exact BinOk.fmod (by first | assumption | decide +kernel) | exact Evs.nil | refine' Evs.cons ?_ ?_ | exact CallOk.max3 | exact CallOk.min3))
      refine' Ret.cons (St.assign (d := .flt (lightF r g b)) ?e) ?_
      (case e => repeat' (first | exact Ev.name rfl | exact Ev.int | exact Ev.flt | refine' Ev.bin ?_ ?_ ?_ | refine' ev_tup3 ?_ | refine' Ev.call (Gnd.built (by assumption) rfl rfl (by decide)) (.builtin _) ?_ ?_ | refine' Ev.call (Gnd.built (by assumption) rfl rfl (by decide)) (.type _) ?_ ?_ | exact BinOk.mod (by decide) | exact BinOk.fadd | exact BinOk.fsub | exact BinOk.fmul | exact BinOk.fdiv (by first | assumption | decide +kernel) | exact BinOk.fmod (by first | assumption | decide +kernel) | exact Evs.nil | refine' Evs.cons ?_ ?_ | exact CallOk.max3 | exact CallOk.min3))
      refine' Ret.cons (St.ifF (Tst.cast (Tst.cmp (Ev.name rfl) (Ev.name rfl) CmpOk.feq) hq) Sts.nil) ?_
      refine' Ret.cons (ρ' := (Str.ofString "s", .flt (hlsS r g b)) :: _) ?st ?_
      (case st =>
        unfold hlsS
        cases hr : fle (lightF r g b) fhalf with
        | true =>
          rw [if_pos rfl]
          refine' St.ifT (Tst.cast (Tst.cmp (Ev.name rfl) Ev.flt CmpOk.fle) hr) (Sts.one (St.assign ?e))
          (case e => repeat' (first | exact Ev.name rfl | exact Ev.int | exact Ev.flt | refine' Ev.bin ?_ ?_ ?_ | refine' ev_tup3 ?_ | refine' Ev.call (Gnd.built (by assumption) rfl rfl (by decide)) (.builtin _) ?_ ?_ | refine' Ev.call (Gnd.built (by assumption) rfl rfl (by decide)) (.type _) ?_ ?_ | exact BinOk.mod (by decide) | exact BinOk.fadd | exact BinOk.fsub | exact BinOk.fmul | exact BinOk.fdiv (by first | assumption | decide +kernel) | exact BinOk.fmod (by first | assumption | decide +kernel) | exact Evs.nil | refine' Evs.cons ?_ ?_ | exact CallOk.max3 | exact CallOk.min3))
        | false =>
          rw [if_neg (by decide)]
          refine' St.ifF (Tst.cast (Tst.cmp (Ev.name rfl) Ev.flt CmpOk.fle) hr) (Sts.one (St.assign ?e))
          (case e => repeat' (first | exact Ev.name rfl | exact Ev.int | exact Ev.flt | refine' Ev.bin ?_ ?_ ?_ | refine' ev_tup3 ?_ | refine' Ev.call (Gnd.built (by assumption) rfl rfl (by decide)) (.builtin _) ?_ ?_ | refine' Ev.call (Gnd.built (by assumption) rfl rfl (by decide)) (.type _) ?_ ?_ | exact BinOk.mod (by decide) | exact BinOk.fadd | exact BinOk.fsub | exact BinOk.fmul | exact BinOk.fdiv (by first | assumption | decide +kernel) | exact BinOk.fmod (by first | assumption | decide +kernel) | exact Evs.nil | refine' Evs.cons ?_ ?_ | exact CallOk.max3 | exact CallOk.min3)))
      refine' Ret.cons (St.assign (d := .flt (part r g b r)) ?e) ?_
      (case e => repeat' (first | exact Ev.name rfl | exact Ev.int | exact Ev.flt | refine' Ev.bin ?_ ?_ ?_ | refine' ev_tup3 ?_ | refine' Ev.call (Gnd.built (by assumption) rfl rfl (by decide)) (.builtin _) ?_ ?_ | refine' Ev.call (Gnd.built (by assumption) rfl rfl (by decide)) (.type _) ?_ ?_ | exact BinOk.mod (by decide) | exact BinOk.fadd | exact BinOk.fsub | exact BinOk.fmul | exact BinOk.fdiv (by first | assumption | decide +kernel) | exact BinOk.fmod (by first | assumption | decide +kernel) | exact Evs.nil | refine' Evs.cons ?_ ?_ | exact CallOk.max3 | exact CallOk.min3))
      refine' Ret.cons (St.assign (d := .flt (part r g b g)) ?e) ?_
      (case e => repeat' (first | exact Ev.name rfl | exact Ev.int | exact Ev.flt | refine' Ev.bin ?_ ?_ ?_ | refine' ev_tup3 ?_ | refine' Ev.call (Gnd.built (by assumption) rfl rfl (by decide)) (.builtin _) ?_ ?_ | refine' Ev.call (Gnd.built (by assumption) rfl rfl (by decide)) (.type _) ?_ ?_ | exact BinOk.mod (by decide) | exact BinOk.fadd | exact BinOk.fsub | exact BinOk.fmul | exact BinOk.fdiv (by first | assumption | decide +kernel) | exact BinOk.fmod (by first | assumption | decide +kernel) | exact Evs.nil | refine' Evs.cons ?_ ?_ | exact CallOk.max3 | exact CallOk.min3))
      refine' Ret.cons (St.assign (d := .flt (part r g b b)) ?e) ?_
      (case e => repeat' (first | exact Ev.name rfl | exact Ev.int | exact Ev.flt | refine' Ev.bin ?_ ?_ ?_ | refine' ev_tup3 ?_ | refine' Ev.call (Gnd.built (by assumption) rfl rfl (by decide)) (.builtin _) ?_ ?_ | refine' Ev.call (Gnd.built (by assumption) rfl rfl (by decide)) (.type _) ?_ ?_ | exact BinOk.mod (by decide) | exact BinOk.fadd | exact BinOk.fsub | exact BinOk.fmul | exact BinOk.fdiv (by first | assumption | decide +kernel) | exact BinOk.fmod (by first | assumption | decide +kernel) | exact Evs.nil | refine' Evs.cons ?_ ?_ | exact CallOk.max3 | exact CallOk.min3))
      refine' Ret.cons (ρ' := (Str.ofString "h", .flt (turnF r g b)) :: _) ?st ?_
      (case st =>
        unfold turnF
        cases hr : feq r (mx r g b) with
        | true =>
          rw [if_pos rfl]
          refine' St.ifT (Tst.cast (Tst.cmp (Ev.name rfl) (Ev.name rfl) CmpOk.feq) hr) (Sts.one (St.assign ?e))
          (case e => repeat' (first | exact Ev.name rfl | exact Ev.int | exact Ev.flt | refine' Ev.bin ?_ ?_ ?_ | refine' ev_tup3 ?_ | refine' Ev.call (Gnd.built (by assumption) rfl rfl (by decide)) (.builtin _) ?_ ?_ | refine' Ev.call (Gnd.built (by assumption) rfl rfl (by decide)) (.type _) ?_ ?_ | exact BinOk.mod (by decide) | exact BinOk.fadd | exact BinOk.fsub | exact BinOk.fmul | exact BinOk.fdiv (by first | assumption | decide +kernel) | exact BinOk.fmod (by first | assumption | decide +kernel) | exact Evs.nil | refine' Evs.cons ?_ ?_ | exact CallOk.max3 | exact CallOk.min3))
        | false =>
          rw [if_neg (by decide)]
          refine' St.ifF (Tst.cast (Tst.cmp (Ev.name rfl) (Ev.name rfl) CmpOk.feq) hr) (Sts.one ?_)
          cases hg : feq g (mx r g b) with
          | true =>
            rw [if_pos rfl]
            refine' St.ifT (Tst.cast (Tst.cmp (Ev.name rfl) (Ev.name rfl) CmpOk.feq) hg) (Sts.one (St.assign ?e))
            (case e => repeat' (first | exact Ev.name rfl | exact Ev.int | exact Ev.flt | refine' Ev.bin ?_ ?_ ?_ | refine' ev_tup3 ?_ | refine' Ev.call (Gnd.built (by assumption) rfl rfl (by decide)) (.builtin _) ?_ ?_ | refine' Ev.call (Gnd.built (by assumption) rfl rfl (by decide)) (.type _) ?_ ?_ | exact BinOk.mod (by decide) | exact BinOk.fadd | exact BinOk.fsub | exact BinOk.fmul | exact BinOk.fdiv (by first | assumption | decide +kernel) | exact BinOk.fmod (by first | assumption | decide +kernel) | exact Evs.nil | refine' Evs.cons ?_ ?_ | exact CallOk.max3 | exact CallOk.min3))
          | false =>
            rw [if_neg (by decide)]
            refine' St.ifF (Tst.cast (Tst.cmp (Ev.name rfl) (Ev.name rfl) CmpOk.feq) hg) (Sts.one (St.assign ?e))
            (case e => repeat' (first | exact Ev.name rfl | exact Ev.int | exact Ev.flt | refine' Ev.bin ?_ ?_ ?_ | refine' ev_tup3 ?_ | refine' Ev.call (Gnd.built (by assumption) rfl rfl (by decide)) (.builtin _) ?_ ?_ | refine' Ev.call (Gnd.built (by assumption) rfl rfl (by decide)) (.type _) ?_ ?_ | exact BinOk.mod (by decide) | exact BinOk.fadd | exact BinOk.fsub | exact BinOk.fmul | exact BinOk.fdiv (by first | assumption | decide +kernel) | exact BinOk.fmod (by first | assumption | decide +kernel) | exact Evs.nil | refine' Evs.cons ?_ ?_ | exact CallOk.max3 | exact CallOk.min3)))
      refine' Ret.cons (St.assign (d := .flt (hueF r g b)) ?e) ?_
      (case e => repeat' (first | exact Ev.name rfl | exact Ev.int | exact Ev.flt | refine' Ev.bin ?_ ?_ ?_ | refine' ev_tup3 ?_ | refine' Ev.call (Gnd.built (by assumption) rfl rfl (by decide)) (.builtin _) ?_ ?_ | refine' Ev.call (Gnd.built (by assumption) rfl rfl (by decide)) (.type _) ?_ ?_ | exact BinOk.mod (by decide) | exact BinOk.fadd | exact BinOk.fsub | exact BinOk.fmul | exact BinOk.fdiv (by first | assumption | decide +kernel) | exact BinOk.fmod (by first | assumption | decide +kernel) | exact Evs.nil | refine' Evs.cons ?_ ?_ | exact CallOk.max3 | exact CallOk.min3))
      refine' Ret.ret ?e
      (case e => repeat' (first | exact Ev.name rfl | exact Ev.int | exact Ev.flt | refine' Ev.bin ?_ ?_ ?_ | refine' ev_tup3 ?_ | refine' Ev.call (Gnd.built (by assumption) rfl rfl (by decide)) (.builtin _) ?_ ?_ | refine' Ev.call (Gnd.built (by assumption) rfl rfl (by decide)) (.type _) ?_ ?_ | exact BinOk.mod (by decide) | exact BinOk.fadd | exact BinOk.fsub | exact BinOk.fmul | exact BinOk.fdiv (by first | assumption | decide +kernel) | exact BinOk.fmod (by first | assumption | decide +kernel) | exact Evs.nil | refine' Evs.cons ?_ ?_ | exact CallOk.max3 | exact CallOk.min3))

/-- hsv_to_rgb, with i0 the whole part of h * 6.0 -/
noncomputable def fracF (h : UInt64) (i0 : Int) : UInt64 := Float64.sub (Float64.mul h f6) (Float64.ofInt i0)
noncomputable def pF (s v : UInt64) : UInt64 := Float64.mul v (Float64.sub f1 s)
noncomputable def qF (h s v : UInt64) (i0 : Int) : UInt64 := Float64.mul v (Float64.sub f1 (Float64.mul s (fracF h i0)))
noncomputable def tF (h s v : UInt64) (i0 : Int) : UInt64 := Float64.mul v (Float64.sub f1 (Float64.mul s (Float64.sub f1 (fracF h i0))))
noncomputable def rgbF (h s v : UInt64) (i0 : Int) : UInt64 × UInt64 × UInt64 :=
  if i0.fmod 6 = 0 then (v, tF h s v i0, pF s v)
  else if i0.fmod 6 = 1 then (qF h s v i0, v, pF s v)
  else if i0.fmod 6 = 2 then (pF s v, v, tF h s v i0)
  else if i0.fmod 6 = 3 then (pF s v, qF h s v i0, v)
  else if i0.fmod 6 = 4 then (tF h s v i0, pF s v, v)
  else (v, pF s v, qF h s v i0)
theorem rgb0_ok {G : Glo} (h : Gnd G) (hue s v : UInt64) (h0 : feq s f0 = true) : CallOk G 1 (.ref 59) [.flt hue, .flt s, .flt v] (.tup [.flt v, .flt v, .flt v]) := by
  refine CallOk.def (ns := [Str.ofString "h", Str.ofString "s", Str.ofString "v"]) (h.def (f := 59) rfl (by kernel_rfl)) (fun vs hv => ?_) rfl (by decide) (by decide +kernel) ?_
  · exact binds3 (fun _ _ _ => rfl) vs hv
  · refine' Ret.ifT (Tst.cast (Tst.cmp (Ev.name rfl) Ev.flt CmpOk.feq) h0) (Ret.ret ?e)
    (case e => repeat' (first | exact Ev.name rfl | exact Ev.int | exact Ev.flt | refine' Ev.bin ?_ ?_ ?_ | refine' ev_tup3 ?_ | refine' Ev.call (Gnd.built (by assumption) rfl rfl (by decide)) (.builtin _) ?_ ?_ | refine' Ev.call (Gnd.built (by assumption) rfl rfl (by decide)) (.type _) ?_ ?_ | exact BinOk.mod (by decide) | exact BinOk.fadd | exact BinOk.fsub | exact BinOk.fmul | exact BinOk.fdiv (by first | assumption | decide +kernel) | exact BinOk.fmod (by first | assumption | decide +kernel) | exact Evs.nil | refine' Evs.cons ?_ ?_ | exact CallOk.max3 | exact CallOk.min3))
theorem rgb_ok {G : Glo} (h : Gnd G) (hue s v : UInt64) (h0 : feq s f0 = false) {sg : Bool} {m : Nat} {e : Int} (hd : Float64.decode (Float64.mul hue f6) = .fin sg m e) (i0 : Int) (hi : Float64.truncOf sg m e = i0) (hf : Float64.isInf (Float64.ofInt i0) = false) :
    CallOk G 1 (.ref 59) [.flt hue, .flt s, .flt v] (.tup [.flt (rgbF hue s v i0).1, .flt (rgbF hue s v i0).2.1, .flt (rgbF hue s v i0).2.2]) := by
  refine CallOk.def (ns := [Str.ofString "h", Str.ofString "s", Str.ofString "v"]) (h.def (f := 59) rfl (by kernel_rfl)) (fun vs hv => ?_) rfl (by decide) (by decide +kernel) ?_
  · exact binds3 (fun _ _ _ => rfl) vs hv
  · refine' Ret.cons (St.ifF (Tst.cast (Tst.cmp (Ev.name rfl) Ev.flt CmpOk.feq) h0) Sts.nil) ?_
    refine' Ret.cons (St.assign (d := .int i0) ?e) ?_
    (case e =>
      refine' Ev.call (Gnd.built h rfl rfl (by decide)) (.type _) ?_ (hi ▸ CallOk.intF hd)
      repeat' (first | exact Ev.name rfl | exact Ev.int | exact Ev.flt | refine' Ev.bin ?_ ?_ ?_ | refine' ev_tup3 ?_ | refine' Ev.call (Gnd.built (by assumption) rfl rfl (by decide)) (.builtin _) ?_ ?_ | refine' Ev.call (Gnd.built (by assumption) rfl rfl (by decide)) (.type _) ?_ ?_ | exact BinOk.mod (by decide) | exact BinOk.fadd | exact BinOk.fsub | exact BinOk.fmul | exact BinOk.fdiv (by first | assumption | decide +kernel) | exact BinOk.fmod (by first | assumption | decide +kernel) | exact Evs.nil | refine' Evs.cons ?_ ?_ | exact CallOk.max3 | exact CallOk.min3))
    refine' Ret.cons (St.assign (d := .flt (fracF hue i0)) ?e) ?_
    (case e => refine' Ev.bin ?_ ?_ (BinOk.fsub_i hf) <;> repeat' (first | exact Ev.name rfl | exact Ev.int | exact Ev.flt | refine' Ev.bin ?_ ?_ ?_ | refine' ev_tup3 ?_ | refine' Ev.call (Gnd.built (by assumption) rfl rfl (by decide)) (.builtin _) ?_ ?_ | refine' Ev.call (Gnd.built (by assumption) rfl rfl (by decide)) (.type _) ?_ ?_ | exact BinOk.mod (by decide) | exact BinOk.fadd | exact BinOk.fsub | exact BinOk.fmul | exact BinOk.fdiv (by first | assumption | decide +kernel) | exact BinOk.fmod (by first | assumption | decide +kernel) | exact Evs.nil | refine' Evs.cons ?_ ?_ | exact CallOk.max3 | exact CallOk.min3))
    refine' Ret.cons (St.assign (d := .flt (pF s v)) ?e) ?_
    (case e => repeat' (first | exact Ev.name rfl | exact Ev.int | exact Ev.flt | refine' Ev.bin ?_ ?_ ?_ | refine' ev_tup3 ?_ | refine' Ev.call (Gnd.built (by assumption) rfl rfl (by decide)) (.builtin _) ?_ ?_ | refine' Ev.call (Gnd.built (by assumption) rfl rfl (by decide)) (.type _) ?_ ?_ | exact BinOk.mod (by decide) | exact BinOk.fadd | exact BinOk.fsub | exact BinOk.fmul | exact BinOk.fdiv (by first | assumption | decide +kernel) | exact BinOk.fmod (by first | assumption | decide +kernel) | exact Evs.nil | refine' Evs.cons ?_ ?_ | exact CallOk.max3 | exact CallOk.min3))
    refine' Ret.cons (St.assign (d := .flt (qF hue s v i0)) ?e) ?_
    (case e => repeat' (first | exact Ev.name rfl | exact Ev.int | exact Ev.flt | refine' Ev.bin ?_ ?_ ?_ | refine' ev_tup3 ?_ | refine' Ev.call (Gnd.built (by assumption) rfl rfl (by decide)) (.builtin _) ?_ ?_ | refine' Ev.call (Gnd.built (by assumption) rfl rfl (by decide)) (.type _) ?_ ?_ | exact BinOk.mod (by decide) | exact BinOk.fadd | exact BinOk.fsub | exact BinOk.fmul | exact BinOk.fdiv (by first | assumption | decide +kernel) | exact BinOk.fmod (by first | assumption | decide +kernel) | exact Evs.nil | refine' Evs.cons ?_ ?_ | exact CallOk.max3 | exact CallOk.min3))
    refine' Ret.cons (St.assign (d := .flt (tF hue s v i0)) ?e) ?_
    (case e => repeat' (first | exact Ev.name rfl | exact Ev.int | exact Ev.flt | refine' Ev.bin ?_ ?_ ?_ | refine' ev_tup3 ?_ | refine' Ev.call (Gnd.built (by assumption) rfl rfl (by decide)) (.builtin _) ?_ ?_ | refine' Ev.call (Gnd.built (by assumption) rfl rfl (by decide)) (.type _) ?_ ?_ | exact BinOk.mod (by decide) | exact BinOk.fadd | exact BinOk.fsub | exact BinOk.fmul | exact BinOk.fdiv (by first | assumption | decide +kernel) | exact BinOk.fmod (by first | assumption | decide +kernel) | exact Evs.nil | refine' Evs.cons ?_ ?_ | exact CallOk.max3 | exact CallOk.min3))
    refine' Ret.cons (St.assign (d := .int (i0.fmod 6)) ?e) ?_
    (case e => repeat' (first | exact Ev.name rfl | exact Ev.int | exact Ev.flt | refine' Ev.bin ?_ ?_ ?_ | refine' ev_tup3 ?_ | refine' Ev.call (Gnd.built (by assumption) rfl rfl (by decide)) (.builtin _) ?_ ?_ | refine' Ev.call (Gnd.built (by assumption) rfl rfl (by decide)) (.type _) ?_ ?_ | exact BinOk.mod (by decide) | exact BinOk.fadd | exact BinOk.fsub | exact BinOk.fmul | exact BinOk.fdiv (by first | assumption | decide +kernel) | exact BinOk.fmod (by first | assumption | decide +kernel) | exact Evs.nil | refine' Evs.cons ?_ ?_ | exact CallOk.max3 | exact CallOk.min3))
    have b1 : 0 ≤ i0.fmod 6 := Int.fmod_nonneg_of_pos _ (by decide)
    have b2 : i0.fmod 6 < 6 := Int.fmod_lt_of_pos _ (by decide)
    have tst : ∀ {ρ : Names} {a c : Int} {bb : Bool} {g : List (Str × NameKind)} {p1 p2 : Pos} {n : Nat} , (a == c) = bb → ρ.lookup (Str.ofString "i") = some (.int a) → Tst G 0 g ρ (.Compare (.Name (Str.ofString "i") p1) [.Eq] [.Constant (.int c) n p2] p1) bb := fun q e => Tst.cast (Tst.cmp (Ev.name e) Ev.int CmpOk.eq) q
    unfold rgbF
    generalize i0.fmod 6 = i at b1 b2
    have cs : i = 0 ∨ i = 1 ∨ i = 2 ∨ i = 3 ∨ i = 4 ∨ i = 5 := by lia
    rcases cs with rfl | rfl | rfl | rfl | rfl | rfl
    · refine' Ret.ifT (Tst.cast (Tst.cmp (Ev.name rfl) Ev.int CmpOk.eq) (by decide)) (Ret.ret ?e)
      (case e => repeat' (first | exact Ev.name rfl | exact Ev.int | exact Ev.flt | refine' Ev.bin ?_ ?_ ?_ | refine' ev_tup3 ?_ | refine' Ev.call (Gnd.built (by assumption) rfl rfl (by decide)) (.builtin _) ?_ ?_ | refine' Ev.call (Gnd.built (by assumption) rfl rfl (by decide)) (.type _) ?_ ?_ | exact BinOk.mod (by decide) | exact BinOk.fadd | exact BinOk.fsub | exact BinOk.fmul | exact BinOk.fdiv (by first | assumption | decide +kernel) | exact BinOk.fmod (by first | assumption | decide +kernel) | exact Evs.nil | refine' Evs.cons ?_ ?_ | exact CallOk.max3 | exact CallOk.min3))
    · refine' Ret.cons (St.ifF (Tst.cast (Tst.cmp (Ev.name rfl) Ev.int CmpOk.eq) (by decide)) Sts.nil) ?_
      refine' Ret.ifT (Tst.cast (Tst.cmp (Ev.name rfl) Ev.int CmpOk.eq) (by decide)) (Ret.ret ?e)
      (case e => repeat' (first | exact Ev.name rfl | exact Ev.int | exact Ev.flt | refine' Ev.bin ?_ ?_ ?_ | refine' ev_tup3 ?_ | refine' Ev.call (Gnd.built (by assumption) rfl rfl (by decide)) (.builtin _) ?_ ?_ | refine' Ev.call (Gnd.built (by assumption) rfl rfl (by decide)) (.type _) ?_ ?_ | exact BinOk.mod (by decide) | exact BinOk.fadd | exact BinOk.fsub | exact BinOk.fmul | exact BinOk.fdiv (by first | assumption | decide +kernel) | exact BinOk.fmod (by first | assumption | decide +kernel) | exact Evs.nil | refine' Evs.cons ?_ ?_ | exact CallOk.max3 | exact CallOk.min3))
    · iterate 2 (refine' Ret.cons (St.ifF (Tst.cast (Tst.cmp (Ev.name rfl) Ev.int CmpOk.eq) (by decide)) Sts.nil) ?_)
      refine' Ret.ifT (Tst.cast (Tst.cmp (Ev.name rfl) Ev.int CmpOk.eq) (by decide)) (Ret.ret ?e)
      (case e => repeat' (first | exact Ev.name rfl | exact Ev.int | exact Ev.flt | refine' Ev.bin ?_ ?_ ?_ | refine' ev_tup3 ?_ | refine' Ev.call (Gnd.built (by assumption) rfl rfl (by decide)) (.builtin _) ?_ ?_ | refine' Ev.call (Gnd.built (by assumption) rfl rfl (by decide)) (.type _) ?_ ?_ | exact BinOk.mod (by decide) | exact BinOk.fadd | exact BinOk.fsub | exact BinOk.fmul | exact BinOk.fdiv (by first | assumption | decide +kernel) | exact BinOk.fmod (by first | assumption | decide +kernel) | exact Evs.nil | refine' Evs.cons ?_ ?_ | exact CallOk.max3 | exact CallOk.min3))
    · iterate 3 (refine' Ret.cons (St.ifF (Tst.cast (Tst.cmp (Ev.name rfl) Ev.int CmpOk.eq) (by decide)) Sts.nil) ?_)
      refine' Ret.ifT (Tst.cast (Tst.cmp (Ev.name rfl) Ev.int CmpOk.eq) (by decide)) (Ret.ret ?e)
      (case e => repeat' (first | exact Ev.name rfl | exact Ev.int | exact Ev.flt | refine' Ev.bin ?_ ?_ ?_ | refine' ev_tup3 ?_ | refine' Ev.call (Gnd.built (by assumption) rfl rfl (by decide)) (.builtin _) ?_ ?_ | refine' Ev.call (Gnd.built (by assumption) rfl rfl (by decide)) (.type _) ?_ ?_ | exact BinOk.mod (by decide) | exact BinOk.fadd | exact BinOk.fsub | exact BinOk.fmul | exact BinOk.fdiv (by first | assumption | decide +kernel) | exact BinOk.fmod (by first | assumption | decide +kernel) | exact Evs.nil | refine' Evs.cons ?_ ?_ | exact CallOk.max3 | exact CallOk.min3))
    · iterate 4 (refine' Ret.cons (St.ifF (Tst.cast (Tst.cmp (Ev.name rfl) Ev.int CmpOk.eq) (by decide)) Sts.nil) ?_)
      refine' Ret.ifT (Tst.cast (Tst.cmp (Ev.name rfl) Ev.int CmpOk.eq) (by decide)) (Ret.ret ?e)
      (case e => repeat' (first | exact Ev.name rfl | exact Ev.int | exact Ev.flt | refine' Ev.bin ?_ ?_ ?_ | refine' ev_tup3 ?_ | refine' Ev.call (Gnd.built (by assumption) rfl rfl (by decide)) (.builtin _) ?_ ?_ | refine' Ev.call (Gnd.built (by assumption) rfl rfl (by decide)) (.type _) ?_ ?_ | exact BinOk.mod (by decide) | exact BinOk.fadd | exact BinOk.fsub | exact BinOk.fmul | exact BinOk.fdiv (by first | assumption | decide +kernel) | exact BinOk.fmod (by first | assumption | decide +kernel) | exact Evs.nil | refine' Evs.cons ?_ ?_ | exact CallOk.max3 | exact CallOk.min3))
    · iterate 5 (refine' Ret.cons (St.ifF (Tst.cast (Tst.cmp (Ev.name rfl) Ev.int CmpOk.eq) (by decide)) Sts.nil) ?_)
      refine' Ret.ifT (Tst.cast (Tst.cmp (Ev.name rfl) Ev.int CmpOk.eq) (by decide)) (Ret.ret ?e)
      (case e => repeat' (first | exact Ev.name rfl | exact Ev.int | exact Ev.flt | refine' Ev.bin ?_ ?_ ?_ | refine' ev_tup3 ?_ | refine' Ev.call (Gnd.built (by assumption) rfl rfl (by decide)) (.builtin _) ?_ ?_ | refine' Ev.call (Gnd.built (by assumption) rfl rfl (by decide)) (.type _) ?_ ?_ | exact BinOk.mod (by decide) | exact BinOk.fadd | exact BinOk.fsub | exact BinOk.fmul | exact BinOk.fdiv (by first | assumption | decide +kernel) | exact BinOk.fmod (by first | assumption | decide +kernel) | exact Evs.nil | refine' Evs.cons ?_ ?_ | exact CallOk.max3 | exact CallOk.min3))
end Mine
end

section
open PySem PySem.W PyProof.Rows
set_option Elab.async false
set_option linter.unusedVariables false
namespace Mine
set_option maxRecDepth 100000

noncomputable def ints3 (l : List Int) : List D := l.map .int
noncomputable def ix (l : List Int) : D → Int
  | .int i => l.getD i.toNat 0
  | _ => 0
theorem mem_upTo3 {d : D} (h : d ∈ upTo 3) : d = .int 0 ∨ d = .int 1 ∨ d = .int 2 := by
  have : upTo 3 = [.int 0, .int 1, .int 2] := rfl
  rw [this] at h
  simpa using h

-- one step of a reckoning

theorem CallOk.le {G : Glo} {k j : Nat} {f : Value} {ds : List D} {d : D} (h : CallOk G k f ds d) (hj : k ≤ j) : CallOk G j f ds d := .mk fun A E s vs rm => h.run A E s vs (rm.le hj)

noncomputable def fairN (a b : List Int) : Nat := [decide (b.getD 0 0 < a.getD 0 0), decide (b.getD 1 0 < a.getD 1 0), decide (b.getD 2 0 < a.getD 2 0)].count true
noncomputable def fair (a b : List Int) : Bool := (fairN a b == 1 || fairN a b == 2) && fairN b a == 0

theorem fair_ok {G : Glo} (h : Gnd G) (a0 a1 a2 b0 b1 b2 : Int) : CallOk G 2 (.ref 299) [.list [.int a0, .int a1, .int a2], .list [.int b0, .int b1, .int b2]] (.bool (fair [a0, a1, a2] [b0, b1, b2])) := by
  refine CallOk.def (ns := [Str.ofString "before", Str.ofString "behind"]) (h.def (f := 299) rfl (by kernel_rfl)) (fun vs hv => ?_) rfl (by decide) (by decide +kernel) ?_
  · exact binds2 (fun _ _ => rfl) vs hv
  · refine' Ret.cons (St.assign (d := .int (fairN [a0, a1, a2] [b0, b1, b2] : Nat)) ?e) ?_
    (case e =>
      refine' Ev.call (h.glob rfl) (h.callee rfl) (Evs.cons (ev_compE (fun _ => true) (fun d => .bool (decide (ix [b0, b1, b2] d < ix [a0, a1, a2] d))) (Itr.range (n := 3) (h.built rfl rfl (by decide)) ?_ (by decide)) rfl rfl (fun d hd => Ifs.nil) fun d hd _ => ?_) ?_) (count_ok h [decide (b0 < a0), decide (b1 < a1), decide (b2 < a2)] (by simp))
      · exact Evs.cons Ev.int Evs.nil
      · rcases mem_upTo3 hd with rfl | rfl | rfl
        · refine' .scal ?_ rfl
          repeat' (first | exact Ev.name rfl | exact Ev.int | exact Ev.str | exact Ev.bool | refine' Ev.bin ?_ ?_ ?_ | refine' Ev.cmp ?_ ?_ ?_ | refine' ev_tup2 ?_ | refine' ev_list3 ?_ | refine' Ev.sub ?_ ?_ ?_ | exact GetOk.list (by decide) (by decide) rfl | exact GetOk.tup (by decide) (by decide) rfl | refine' Ev.call (Gnd.glob (by assumption) rfl) (Gnd.callee (by assumption) rfl) ?_ ?_ | refine' Ev.call (Gnd.built (by assumption) rfl rfl (by decide)) (.builtin _) ?_ ?_ | refine' Ev.call (Gnd.built (by assumption) rfl rfl (by decide)) (.type _) ?_ ?_ | exact BinOk.add | exact BinOk.sub | exact BinOk.mul (by lia) | exact BinOk.mod (by first | decide | lia) | exact BinOk.floordiv (by first | decide | lia) (by first | decide | lia) | exact CmpOk.lt | exact CmpOk.eq | exact Evs.nil | refine' Evs.cons ?_ ?_ | exact lt_ok (by assumption) _ _)
        · refine' .scal ?_ rfl
          repeat' (first | exact Ev.name rfl | exact Ev.int | exact Ev.str | exact Ev.bool | refine' Ev.bin ?_ ?_ ?_ | refine' Ev.cmp ?_ ?_ ?_ | refine' ev_tup2 ?_ | refine' ev_list3 ?_ | refine' Ev.sub ?_ ?_ ?_ | exact GetOk.list (by decide) (by decide) rfl | exact GetOk.tup (by decide) (by decide) rfl | refine' Ev.call (Gnd.glob (by assumption) rfl) (Gnd.callee (by assumption) rfl) ?_ ?_ | refine' Ev.call (Gnd.built (by assumption) rfl rfl (by decide)) (.builtin _) ?_ ?_ | refine' Ev.call (Gnd.built (by assumption) rfl rfl (by decide)) (.type _) ?_ ?_ | exact BinOk.add | exact BinOk.sub | exact BinOk.mul (by lia) | exact BinOk.mod (by first | decide | lia) | exact BinOk.floordiv (by first | decide | lia) (by first | decide | lia) | exact CmpOk.lt | exact CmpOk.eq | exact Evs.nil | refine' Evs.cons ?_ ?_ | exact lt_ok (by assumption) _ _)
        · refine' .scal ?_ rfl
          repeat' (first | exact Ev.name rfl | exact Ev.int | exact Ev.str | exact Ev.bool | refine' Ev.bin ?_ ?_ ?_ | refine' Ev.cmp ?_ ?_ ?_ | refine' ev_tup2 ?_ | refine' ev_list3 ?_ | refine' Ev.sub ?_ ?_ ?_ | exact GetOk.list (by decide) (by decide) rfl | exact GetOk.tup (by decide) (by decide) rfl | refine' Ev.call (Gnd.glob (by assumption) rfl) (Gnd.callee (by assumption) rfl) ?_ ?_ | refine' Ev.call (Gnd.built (by assumption) rfl rfl (by decide)) (.builtin _) ?_ ?_ | refine' Ev.call (Gnd.built (by assumption) rfl rfl (by decide)) (.type _) ?_ ?_ | exact BinOk.add | exact BinOk.sub | exact BinOk.mul (by lia) | exact BinOk.mod (by first | decide | lia) | exact BinOk.floordiv (by first | decide | lia) (by first | decide | lia) | exact CmpOk.lt | exact CmpOk.eq | exact Evs.nil | refine' Evs.cons ?_ ?_ | exact lt_ok (by assumption) _ _)
      · repeat' (first | exact Ev.name rfl | exact Ev.int | exact Ev.str | exact Ev.bool | refine' Ev.bin ?_ ?_ ?_ | refine' Ev.cmp ?_ ?_ ?_ | refine' ev_tup2 ?_ | refine' ev_list3 ?_ | refine' Ev.sub ?_ ?_ ?_ | exact GetOk.list (by decide) (by decide) rfl | exact GetOk.tup (by decide) (by decide) rfl | refine' Ev.call (Gnd.glob (by assumption) rfl) (Gnd.callee (by assumption) rfl) ?_ ?_ | refine' Ev.call (Gnd.built (by assumption) rfl rfl (by decide)) (.builtin _) ?_ ?_ | refine' Ev.call (Gnd.built (by assumption) rfl rfl (by decide)) (.type _) ?_ ?_ | exact BinOk.add | exact BinOk.sub | exact BinOk.mul (by lia) | exact BinOk.mod (by first | decide | lia) | exact BinOk.floordiv (by first | decide | lia) (by first | decide | lia) | exact CmpOk.lt | exact CmpOk.eq | exact Evs.nil | refine' Evs.cons ?_ ?_ | exact lt_ok (by assumption) _ _))
    generalize hN : fairN [a0, a1, a2] [b0, b1, b2] = N
    have hany : ([1, 2] : List Int).any (· == (N : Int)) = (N == 1 || N == 2) := by
      rw [Bool.eq_iff_iff]; simp; lia
    cases h1 : (N == 1 || N == 2) with
    | false =>
      refine' Ret.cast (Ret.ret (ev_and0 (Ev.cast (d := .bool false) (Ev.cmp (Ev.name rfl) (ev_tup2 ?_) (CmpOk.inT (l := [1, 2]))) ?_) TruthOk.bool)) ?_
      · repeat' (first | exact Ev.name rfl | exact Ev.int | exact Ev.str | exact Ev.bool | refine' Ev.bin ?_ ?_ ?_ | refine' Ev.cmp ?_ ?_ ?_ | refine' ev_tup2 ?_ | refine' ev_list3 ?_ | refine' Ev.sub ?_ ?_ ?_ | exact GetOk.list (by decide) (by decide) rfl | exact GetOk.tup (by decide) (by decide) rfl | refine' Ev.call (Gnd.glob (by assumption) rfl) (Gnd.callee (by assumption) rfl) ?_ ?_ | refine' Ev.call (Gnd.built (by assumption) rfl rfl (by decide)) (.builtin _) ?_ ?_ | refine' Ev.call (Gnd.built (by assumption) rfl rfl (by decide)) (.type _) ?_ ?_ | exact BinOk.add | exact BinOk.sub | exact BinOk.mul (by lia) | exact BinOk.mod (by first | decide | lia) | exact BinOk.floordiv (by first | decide | lia) (by first | decide | lia) | exact CmpOk.lt | exact CmpOk.eq | exact Evs.nil | refine' Evs.cons ?_ ?_ | exact lt_ok (by assumption) _ _)
      · rw [hany, h1]
      · unfold fair; rw [hN, h1]; rfl
    | true =>
      refine' Ret.cast (Ret.ret (ev_andT (d' := .bool (fairN [b0, b1, b2] [a0, a1, a2] == 0)) (Ev.cast (d := .bool true) (Ev.cmp (Ev.name rfl) (ev_tup2 ?_) (CmpOk.inT (l := [1, 2]))) ?_) TruthOk.bool ?_)) ?_
      · repeat' (first | exact Ev.name rfl | exact Ev.int | exact Ev.str | exact Ev.bool | refine' Ev.bin ?_ ?_ ?_ | refine' Ev.cmp ?_ ?_ ?_ | refine' ev_tup2 ?_ | refine' ev_list3 ?_ | refine' Ev.sub ?_ ?_ ?_ | exact GetOk.list (by decide) (by decide) rfl | exact GetOk.tup (by decide) (by decide) rfl | refine' Ev.call (Gnd.glob (by assumption) rfl) (Gnd.callee (by assumption) rfl) ?_ ?_ | refine' Ev.call (Gnd.built (by assumption) rfl rfl (by decide)) (.builtin _) ?_ ?_ | refine' Ev.call (Gnd.built (by assumption) rfl rfl (by decide)) (.type _) ?_ ?_ | exact BinOk.add | exact BinOk.sub | exact BinOk.mul (by lia) | exact BinOk.mod (by first | decide | lia) | exact BinOk.floordiv (by first | decide | lia) (by first | decide | lia) | exact CmpOk.lt | exact CmpOk.eq | exact Evs.nil | refine' Evs.cons ?_ ?_ | exact lt_ok (by assumption) _ _)
      · rw [hany, h1]
      · refine' Ev.cast (Ev.cmp (d₁ := .int (fairN [b0, b1, b2] [a0, a1, a2] : Nat)) ?_ Ev.int CmpOk.eq) ?_
        · refine' Ev.call (h.glob rfl) (h.callee rfl) (Evs.cons (ev_compE (fun _ => true) (fun d => .bool (decide (ix [a0, a1, a2] d < ix [b0, b1, b2] d))) (Itr.range (n := 3) (h.built rfl rfl (by decide)) ?_ (by decide)) rfl rfl (fun d hd => Ifs.nil) fun d hd _ => ?_) ?_) (count_ok h [decide (a0 < b0), decide (a1 < b1), decide (a2 < b2)] (by simp))
          · exact Evs.cons Ev.int Evs.nil
          · rcases mem_upTo3 hd with rfl | rfl | rfl
            · refine' .scal ?_ rfl
              repeat' (first | exact Ev.name rfl | exact Ev.int | exact Ev.str | exact Ev.bool | refine' Ev.bin ?_ ?_ ?_ | refine' Ev.cmp ?_ ?_ ?_ | refine' ev_tup2 ?_ | refine' ev_list3 ?_ | refine' Ev.sub ?_ ?_ ?_ | exact GetOk.list (by decide) (by decide) rfl | exact GetOk.tup (by decide) (by decide) rfl | refine' Ev.call (Gnd.glob (by assumption) rfl) (Gnd.callee (by assumption) rfl) ?_ ?_ | refine' Ev.call (Gnd.built (by assumption) rfl rfl (by decide)) (.builtin _) ?_ ?_ | refine' Ev.call (Gnd.built (by assumption) rfl rfl (by decide)) (.type _) ?_ ?_ | exact BinOk.add | exact BinOk.sub | exact BinOk.mul (by lia) | exact BinOk.mod (by first | decide | lia) | exact BinOk.floordiv (by first | decide | lia) (by first | decide | lia) | exact CmpOk.lt | exact CmpOk.eq | exact Evs.nil | refine' Evs.cons ?_ ?_ | exact lt_ok (by assumption) _ _)
            · refine' .scal ?_ rfl
              repeat' (first | exact Ev.name rfl | exact Ev.int | exact Ev.str | exact Ev.bool | refine' Ev.bin ?_ ?_ ?_ | refine' Ev.cmp ?_ ?_ ?_ | refine' ev_tup2 ?_ | refine' ev_list3 ?_ | refine' Ev.sub ?_ ?_ ?_ | exact GetOk.list (by decide) (by decide) rfl | exact GetOk.tup (by decide) (by decide) rfl | refine' Ev.call (Gnd.glob (by assumption) rfl) (Gnd.callee (by assumption) rfl) ?_ ?_ | refine' Ev.call (Gnd.built (by assumption) rfl rfl (by decide)) (.builtin _) ?_ ?_ | refine' Ev.call (Gnd.built (by assumption) rfl rfl (by decide)) (.type _) ?_ ?_ | exact BinOk.add | exact BinOk.sub | exact BinOk.mul (by lia) | exact BinOk.mod (by first | decide | lia) | exact BinOk.floordiv (by first | decide | lia) (by first | decide | lia) | exact CmpOk.lt | exact CmpOk.eq | exact Evs.nil | refine' Evs.cons ?_ ?_ | exact lt_ok (by assumption) _ _)
            · refine' .scal ?_ rfl
              repeat' (first | exact Ev.name rfl | exact Ev.int | exact Ev.str | exact Ev.bool | refine' Ev.bin ?_ ?_ ?_ | refine' Ev.cmp ?_ ?_ ?_ | refine' ev_tup2 ?_ | refine' ev_list3 ?_ | refine' Ev.sub ?_ ?_ ?_ | exact GetOk.list (by decide) (by decide) rfl | exact GetOk.tup (by decide) (by decide) rfl | refine' Ev.call (Gnd.glob (by assumption) rfl) (Gnd.callee (by assumption) rfl) ?_ ?_ | refine' Ev.call (Gnd.built (by assumption) rfl rfl (by decide)) (.builtin _) ?_ ?_ | refine' Ev.call (Gnd.built (by assumption) rfl rfl (by decide)) (.type _) ?_ ?_ | exact BinOk.add | exact BinOk.sub | exact BinOk.mul (by lia) | exact BinOk.mod (by first | decide | lia) | exact BinOk.floordiv (by first | decide | lia) (by first | decide | lia) | exact CmpOk.lt | exact CmpOk.eq | exact Evs.nil | refine' Evs.cons ?_ ?_ | exact lt_ok (by assumption) _ _)
          · repeat' (first | exact Ev.name rfl | exact Ev.int | exact Ev.str | exact Ev.bool | refine' Ev.bin ?_ ?_ ?_ | refine' Ev.cmp ?_ ?_ ?_ | refine' ev_tup2 ?_ | refine' ev_list3 ?_ | refine' Ev.sub ?_ ?_ ?_ | exact GetOk.list (by decide) (by decide) rfl | exact GetOk.tup (by decide) (by decide) rfl | refine' Ev.call (Gnd.glob (by assumption) rfl) (Gnd.callee (by assumption) rfl) ?_ ?_ | refine' Ev.call (Gnd.built (by assumption) rfl rfl (by decide)) (.builtin _) ?_ ?_ | refine' Ev.call (Gnd.built (by assumption) rfl rfl (by decide)) (.type _) ?_ ?_ | exact BinOk.add | exact BinOk.sub | exact BinOk.mul (by lia) | exact BinOk.mod (by first | decide | lia) | exact BinOk.floordiv (by first | decide | lia) (by first | decide | lia) | exact CmpOk.lt | exact CmpOk.eq | exact Evs.nil | refine' Evs.cons ?_ ?_ | exact lt_ok (by assumption) _ _)
        · congr 1
          rw [Bool.eq_iff_iff]; simp
      · unfold fair; rw [hN, h1]; rfl

/-! _law_colour -/
noncomputable def colX (l : List Int) (p : Nat) : Int := ((if p < l.length then l.getD p 0 else 0) + [9011, 501007, 18000003003].getD p 0).fmod 10000000000000
noncomputable def colMore (x : Int) : Int := if x.fmod 3 = 0 then 1000 else if x.fmod 3 = 1 then 9 else 3
noncomputable def colW (x : Int) : Int := (x.fdiv 3).fmod 1000
noncomputable def colL (x : Int) : Int := x.fdiv 3000
noncomputable def col0 (x : Int) : Int := colW x + (colL x).fmod (colMore x)
noncomputable def col1 (x : Int) : Int := colW x + ((colL x).fdiv (colMore x)).fmod (colMore x)
noncomputable def col2 (x : Int) : Int := colW x + ((colL x).fdiv (colMore x * colMore x)).fmod (colMore x)
theorem colMore_cases (x : Int) : (colMore x = 1000 ∨ colMore x = 9 ∨ colMore x = 3) := by
  unfold colMore; split
  · simp
  · split <;> simp
theorem colMore_get (x : Int) : ([.int 1000, .int 9, .int 3] : List D)[(x.fmod 3).toNat]? = some (.int (colMore x)) := by
  have b1 : 0 ≤ x.fmod 3 := Int.fmod_nonneg_of_pos _ (by decide)
  have b2 : x.fmod 3 < 3 := Int.fmod_lt_of_pos _ (by decide)
  unfold colMore
  generalize x.fmod 3 = i at b1 b2
  have cs : i = 0 ∨ i = 1 ∨ i = 2 := by lia
  rcases cs with rfl | rfl | rfl <;> rfl
theorem colour_ok {G : Glo} (h : Gnd G) (l : List Int) (hz : l.length ≤ 63) (p : Nat) (hp : p < 3) : CallOk G 1 (.ref 267) [.arg (ints3 l), .int p] (.list [.int (col0 (colX l p)), .int (col1 (colX l p)), .int (col2 (colX l p))]) := by
  refine CallOk.def (ns := [Str.ofString "script", Str.ofString "place"]) (h.def (f := 267) rfl (by kernel_rfl)) (fun vs hv => ?_) rfl (by decide) (by decide +kernel) ?_
  · exact binds2 (fun _ _ => rfl) vs hv
  · refine' Ret.cons (St.assign ?e) ?_
    (case e => repeat' (first | exact Ev.name rfl | exact Ev.int | exact Ev.str | exact Ev.bool | refine' Ev.bin ?_ ?_ ?_ | refine' Ev.cmp ?_ ?_ ?_ | refine' ev_tup2 ?_ | refine' ev_list3 ?_ | refine' Ev.sub ?_ ?_ ?_ | exact GetOk.list (by decide) (by decide) rfl | exact GetOk.tup (by decide) (by decide) rfl | refine' Ev.call (Gnd.glob (by assumption) rfl) (Gnd.callee (by assumption) rfl) ?_ ?_ | refine' Ev.call (Gnd.built (by assumption) rfl rfl (by decide)) (.builtin _) ?_ ?_ | refine' Ev.call (Gnd.built (by assumption) rfl rfl (by decide)) (.type _) ?_ ?_ | exact BinOk.add | exact BinOk.sub | exact BinOk.mul (by lia) | exact BinOk.mod (by first | decide | lia) | exact BinOk.floordiv (by first | decide | lia) (by first | decide | lia) | exact CmpOk.lt | exact CmpOk.eq | exact Evs.nil | refine' Evs.cons ?_ ?_ | exact lt_ok (by assumption) _ _))
    refine' Ret.cons (St.assign (d := .int (colX l p)) ?e) ?_
    (case e =>
      refine' Ev.bin (Ev.bin (d₁ := .int (if p < l.length then l.getD p 0 else 0)) ?_ (d₂ := .int ([9011, 501007, 18000003003].getD p 0)) ?_ BinOk.add) Ev.int (BinOk.mod (by decide))
      · by_cases hc : p < l.length
        · rw [if_pos hc]
          refine' Ev.ifT (Tst.cast (Tst.cmp (Ev.name rfl) (d₂ := .int (ints3 l).length) ?_ CmpOk.lt) ?_) ?_
          · refine' Ev.call (h.built rfl rfl (by decide)) (.builtin _) ?_ (CallOk.lenA (by simp [ints3]; lia))
            repeat' (first | exact Ev.name rfl | exact Ev.int | exact Ev.str | exact Ev.bool | refine' Ev.bin ?_ ?_ ?_ | refine' Ev.cmp ?_ ?_ ?_ | refine' ev_tup2 ?_ | refine' ev_list3 ?_ | refine' Ev.sub ?_ ?_ ?_ | exact GetOk.list (by decide) (by decide) rfl | exact GetOk.tup (by decide) (by decide) rfl | refine' Ev.call (Gnd.glob (by assumption) rfl) (Gnd.callee (by assumption) rfl) ?_ ?_ | refine' Ev.call (Gnd.built (by assumption) rfl rfl (by decide)) (.builtin _) ?_ ?_ | refine' Ev.call (Gnd.built (by assumption) rfl rfl (by decide)) (.type _) ?_ ?_ | exact BinOk.add | exact BinOk.sub | exact BinOk.mul (by lia) | exact BinOk.mod (by first | decide | lia) | exact BinOk.floordiv (by first | decide | lia) (by first | decide | lia) | exact CmpOk.lt | exact CmpOk.eq | exact Evs.nil | refine' Evs.cons ?_ ?_ | exact lt_ok (by assumption) _ _)
          · simp [ints3]; lia
          · refine' Ev.sub (Ev.name rfl) (Ev.name rfl) (GetOk.arg (by lia) (by lia) ?_)
            simp [ints3, hc, List.getD_eq_getElem?_getD]
        · rw [if_neg hc]
          refine' Ev.ifF (Tst.cast (Tst.cmp (Ev.name rfl) (d₂ := .int (ints3 l).length) ?_ CmpOk.lt) ?_) Ev.int
          · refine' Ev.call (h.built rfl rfl (by decide)) (.builtin _) ?_ (CallOk.lenA (by simp [ints3]; lia))
            repeat' (first | exact Ev.name rfl | exact Ev.int | exact Ev.str | exact Ev.bool | refine' Ev.bin ?_ ?_ ?_ | refine' Ev.cmp ?_ ?_ ?_ | refine' ev_tup2 ?_ | refine' ev_list3 ?_ | refine' Ev.sub ?_ ?_ ?_ | exact GetOk.list (by decide) (by decide) rfl | exact GetOk.tup (by decide) (by decide) rfl | refine' Ev.call (Gnd.glob (by assumption) rfl) (Gnd.callee (by assumption) rfl) ?_ ?_ | refine' Ev.call (Gnd.built (by assumption) rfl rfl (by decide)) (.builtin _) ?_ ?_ | refine' Ev.call (Gnd.built (by assumption) rfl rfl (by decide)) (.type _) ?_ ?_ | exact BinOk.add | exact BinOk.sub | exact BinOk.mul (by lia) | exact BinOk.mod (by first | decide | lia) | exact BinOk.floordiv (by first | decide | lia) (by first | decide | lia) | exact CmpOk.lt | exact CmpOk.eq | exact Evs.nil | refine' Evs.cons ?_ ?_ | exact lt_ok (by assumption) _ _)
          · simp [ints3]; lia
      · refine' Ev.sub (Ev.name rfl) (Ev.name rfl) (GetOk.list (by lia) (by lia) ?_)
        have cs : p = 0 ∨ p = 1 ∨ p = 2 := by lia
        rcases cs with rfl | rfl | rfl <;> rfl)
    generalize colX l p = x
    refine' Ret.cons (St.assign (d := .int (colMore x)) ?e) ?_
    (case e =>
      have b1 : 0 ≤ x.fmod 3 := Int.fmod_nonneg_of_pos _ (by decide)
      have b2 : x.fmod 3 < 3 := Int.fmod_lt_of_pos _ (by decide)
      refine' Ev.sub (ev_list3 ?_) (Ev.bin (Ev.name rfl) Ev.int (BinOk.mod (by decide))) (GetOk.list b1 (by lia) (colMore_get x))
      repeat' (first | exact Ev.name rfl | exact Ev.int | exact Ev.str | exact Ev.bool | refine' Ev.bin ?_ ?_ ?_ | refine' Ev.cmp ?_ ?_ ?_ | refine' ev_tup2 ?_ | refine' ev_list3 ?_ | refine' Ev.sub ?_ ?_ ?_ | exact GetOk.list (by decide) (by decide) rfl | exact GetOk.tup (by decide) (by decide) rfl | refine' Ev.call (Gnd.glob (by assumption) rfl) (Gnd.callee (by assumption) rfl) ?_ ?_ | refine' Ev.call (Gnd.built (by assumption) rfl rfl (by decide)) (.builtin _) ?_ ?_ | refine' Ev.call (Gnd.built (by assumption) rfl rfl (by decide)) (.type _) ?_ ?_ | exact BinOk.add | exact BinOk.sub | exact BinOk.mul (by lia) | exact BinOk.mod (by first | decide | lia) | exact BinOk.floordiv (by first | decide | lia) (by first | decide | lia) | exact CmpOk.lt | exact CmpOk.eq | exact Evs.nil | refine' Evs.cons ?_ ?_ | exact lt_ok (by assumption) _ _))
    refine' Ret.cons (St.swap (xs := [Str.ofString "white", Str.ofString "left"]) (ds := [.int (colW x), .int (colL x)]) ?e rfl (by decide +kernel) (by intro _; rfl) ?sw) ?_
    (case e => repeat' (first | exact Ev.name rfl | exact Ev.int | exact Ev.str | exact Ev.bool | refine' Ev.bin ?_ ?_ ?_ | refine' Ev.cmp ?_ ?_ ?_ | refine' ev_tup2 ?_ | refine' ev_list3 ?_ | refine' Ev.sub ?_ ?_ ?_ | exact GetOk.list (by decide) (by decide) rfl | exact GetOk.tup (by decide) (by decide) rfl | refine' Ev.call (Gnd.glob (by assumption) rfl) (Gnd.callee (by assumption) rfl) ?_ ?_ | refine' Ev.call (Gnd.built (by assumption) rfl rfl (by decide)) (.builtin _) ?_ ?_ | refine' Ev.call (Gnd.built (by assumption) rfl rfl (by decide)) (.type _) ?_ ?_ | exact BinOk.add | exact BinOk.sub | exact BinOk.mul (by lia) | exact BinOk.mod (by first | decide | lia) | exact BinOk.floordiv (by first | decide | lia) (by first | decide | lia) | exact CmpOk.lt | exact CmpOk.eq | exact Evs.nil | refine' Evs.cons ?_ ?_ | exact lt_ok (by assumption) _ _))
    (case sw =>
      intro env de
      have hsc := de.scope
      obtain ⟨sc, _⟩ := env
      simp only at hsc
      subst hsc
      rfl)
    have hm := colMore_cases x
    have hm0 : colMore x ≠ 0 := by lia
    have hmm : colMore x * colMore x ≠ 0 := Int.mul_ne_zero hm0 hm0
    have hmb : (colMore x * colMore x).natAbs < 1073741824 := by rcases hm with e | e | e <;> rw [e] <;> decide
    refine' Ret.ret (ev_list3 (Evs.cons (d := .int (col0 x)) ?_ (Evs.cons (d := .int (col1 x)) ?_ (Evs.cons (d := .int (col2 x)) ?_ Evs.nil))))
    · refine' Ev.bin (Ev.name rfl) (Ev.bin (Ev.name rfl) (Ev.name rfl) (BinOk.mod hm0)) BinOk.add
    · refine' Ev.bin (Ev.name rfl) (Ev.bin (Ev.bin (Ev.name rfl) (Ev.name rfl) (BinOk.floordiv hm0 (by lia))) (Ev.name rfl) (BinOk.mod hm0)) BinOk.add
    · refine' Ev.bin (Ev.name rfl) (Ev.bin (Ev.bin (Ev.name rfl) (Ev.bin (Ev.name rfl) (Ev.name rfl) (BinOk.mul (by lia))) (BinOk.floordiv hmm hmb)) (Ev.name rfl) (BinOk.mod hm0)) BinOk.add
end Mine
end

section
open PySem PySem.W PyProof.Rows
set_option Elab.async false
set_option linter.unusedVariables false
namespace Mine
set_option maxRecDepth 100000

-- one step of a reckoning

noncomputable def oPick (x : Int) (k : Nat) : Bool := (Builtin.bitAnd ((1 + (x.fdiv 3).fmod 6).fdiv (2 ^ k)) 1) != 0
noncomputable def oPart (x p : Int) (k : Nat) : Int := if oPick x k = true ∧ 0 < p then (x.fdiv 18).fmod p else p
noncomputable def litOf (p : List Int) : List Int := (([0, 1, 2] : List Int).filter fun k => decide (0 < p.getD k.toNat 0)).take 2
noncomputable def darkAt (p : List Int) (k : Int) (v : Int) : Int := if (litOf p).any (· == k) = true then 0 else v
noncomputable def other (x p0 p1 p2 : Int) : List Int :=
  if ([oPart x p0 0, oPart x p1 1, oPart x p2 2] : List Int) = [p0, p1, p2] then [darkAt [p0, p1, p2] 0 p0, darkAt [p0, p1, p2] 1 p1, darkAt [p0, p1, p2] 2 p2] else [oPart x p0 0, oPart x p1 1, oPart x p2 2]
noncomputable def oOut (x p0 p1 p2 : Int) : D → D
  | .int 0 => .int (oPart x p0 0)
  | .int 1 => .int (oPart x p1 1)
  | .int 2 => .int (oPart x p2 2)
  | _ => .none
noncomputable def dOut (p0 p1 p2 : Int) : D → D
  | .int 0 => .int (darkAt [p0, p1, p2] 0 p0)
  | .int 1 => .int (darkAt [p0, p1, p2] 1 p1)
  | .int 2 => .int (darkAt [p0, p1, p2] 2 p2)
  | _ => .none

/-- the element of the first comprehension -/
theorem other_elt {G : Glo} {k : Nat} {g : List (Str × NameKind)} {ρ : Names} {body orelse test : Expr} {pos : Pos} {x p : Int} {kk : Nat} (h1 : oPick x kk = true → 0 < p → Tst G k g ρ test true) (h2 : ¬ (oPick x kk = true ∧ 0 < p) → Tst G k g ρ test false)
    (h3 : 0 < p → Ev G k g ρ body (.int ((x.fdiv 18).fmod p))) (h4 : Ev G k g ρ orelse (.int p)) : Ev G k g ρ (.IfExp test body orelse pos) (.int (oPart x p kk)) := by
  unfold oPart
  by_cases hc : oPick x kk = true ∧ 0 < p
  · rw [if_pos hc]; exact Ev.ifT (h1 hc.1 hc.2) (h3 hc.2)
  · rw [if_neg hc]; exact Ev.ifF (h2 hc) h4
theorem and_tests {G : Glo} {k : Nat} {g : List (Str × NameKind)} {ρ : Names} {a c : Expr} {pos : Pos} {x p : Int} {kk : Nat} (ha : Tst G k g ρ a (oPick x kk)) (hc : Tst G k g ρ c (decide (0 < p))) :
    (oPick x kk = true → 0 < p → Tst G k g ρ (.BoolOp .And [a, c] pos) true) ∧ (¬ (oPick x kk = true ∧ 0 < p) → Tst G k g ρ (.BoolOp .And [a, c] pos) false) := by
  refine ⟨fun h1 h2 => ?_, fun h => ?_⟩
  · rw [h1] at ha
    rw [decide_eq_true h2] at hc
    exact Tst.andT ha (Tst.andT hc Tst.and0)
  · cases hp : oPick x kk with
    | false => rw [hp] at ha; exact Tst.andF ha
    | true =>
      rw [hp] at ha
      have : ¬ 0 < p := fun q => h ⟨hp, q⟩
      rw [decide_eq_false this] at hc
      exact Tst.andT ha (Tst.andF hc)

theorem other_ok {G : Glo} (h : Gnd G) (x p0 p1 p2 : Int) : CallOk G 1 (.ref 304) [.list [.int p0, .int p1, .int p2], .int x] (.list ((other x p0 p1 p2).map .int)) := by
  refine CallOk.def (ns := [Str.ofString "parts", Str.ofString "x"]) (h.def (f := 304) rfl (by kernel_rfl)) (fun vs hv => ?_) rfl (by decide) (by decide +kernel) ?_
  · exact binds2 (fun _ _ => rfl) vs hv
  · refine' Ret.cons (St.tup (xs := [Str.ofString "picks", Str.ofString "deep"]) (ds := [.int (1 + (x.fdiv 3).fmod 6), .int (x.fdiv 18)]) (.inr ?e) rfl rfl (by decide +kernel) (by intro _; rfl) ?sw) ?_
    (case e => repeat' (first | exact Ev.name rfl | exact Ev.int | exact Ev.str | exact Ev.bool | refine' Ev.bin ?_ ?_ ?_ | refine' Ev.cmp ?_ ?_ ?_ | refine' ev_tup2 ?_ | refine' ev_list3 ?_ | refine' Ev.sub ?_ ?_ ?_ | exact GetOk.list (by decide) (by decide) rfl | exact GetOk.tup (by decide) (by decide) rfl | exact BinOk.add | exact BinOk.sub | exact BinOk.bitand | exact BinOk.rshift (by decide) | exact BinOk.mul (by lia) | exact BinOk.mod (by first | decide | lia) | exact BinOk.floordiv (by first | decide | lia) (by first | decide | lia) | exact CmpOk.lt | exact CmpOk.gt | exact CmpOk.eq | exact Evs.nil | refine' Evs.cons ?_ ?_))
    (case sw =>
      intro env de
      have hsc := de.scope
      obtain ⟨sc, _⟩ := env
      simp only at hsc
      subst hsc
      rfl)
    refine' Ret.cons (st_compE (fun _ => true) (oOut x p0 p1 p2) (Itr.range (n := 3) (h.built rfl rfl (by decide)) (Evs.cons Ev.int Evs.nil) (by decide)) (rs := [.int (oPart x p0 0), .int (oPart x p1 1), .int (oPart x p2 2)]) rfl rfl (fun d hd => Ifs.nil) (fun d hd _ => ?el) ?sw) ?_
    (case sw =>
      intro env de
      have hsc := de.scope
      obtain ⟨sc, _⟩ := env
      simp only at hsc
      subst hsc
      rfl)
    (case el =>
      rcases mem_upTo3 hd with rfl | rfl | rfl
      · refine' .scal (other_elt (x := x) (p := p0) (kk := 0) (and_tests (x := x) (p := p0) (kk := 0) (Tst.plain ?_ TruthOk.int) (Tst.cmp (d₁ := .int p0) (d₂ := .int 0) ?_ ?_ CmpOk.gt)).1 (and_tests (x := x) (p := p0) (kk := 0) (Tst.plain ?_ TruthOk.int) (Tst.cmp (d₁ := .int p0) (d₂ := .int 0) ?_ ?_ CmpOk.gt)).2 (fun hp => ?_) ?_) rfl
        all_goals repeat' (first | exact Ev.name rfl | exact Ev.int | exact Ev.str | exact Ev.bool | refine' Ev.bin ?_ ?_ ?_ | refine' Ev.cmp ?_ ?_ ?_ | refine' ev_tup2 ?_ | refine' ev_list3 ?_ | refine' Ev.sub ?_ ?_ ?_ | exact GetOk.list (by decide) (by decide) rfl | exact GetOk.tup (by decide) (by decide) rfl | exact BinOk.add | exact BinOk.sub | exact BinOk.bitand | exact BinOk.rshift (by decide) | exact BinOk.mul (by lia) | exact BinOk.mod (by first | decide | lia) | exact BinOk.floordiv (by first | decide | lia) (by first | decide | lia) | exact CmpOk.lt | exact CmpOk.gt | exact CmpOk.eq | exact Evs.nil | refine' Evs.cons ?_ ?_)
      · refine' .scal (other_elt (x := x) (p := p1) (kk := 1) (and_tests (x := x) (p := p1) (kk := 1) (Tst.plain ?_ TruthOk.int) (Tst.cmp (d₁ := .int p1) (d₂ := .int 0) ?_ ?_ CmpOk.gt)).1 (and_tests (x := x) (p := p1) (kk := 1) (Tst.plain ?_ TruthOk.int) (Tst.cmp (d₁ := .int p1) (d₂ := .int 0) ?_ ?_ CmpOk.gt)).2 (fun hp => ?_) ?_) rfl
        all_goals repeat' (first | exact Ev.name rfl | exact Ev.int | exact Ev.str | exact Ev.bool | refine' Ev.bin ?_ ?_ ?_ | refine' Ev.cmp ?_ ?_ ?_ | refine' ev_tup2 ?_ | refine' ev_list3 ?_ | refine' Ev.sub ?_ ?_ ?_ | exact GetOk.list (by decide) (by decide) rfl | exact GetOk.tup (by decide) (by decide) rfl | exact BinOk.add | exact BinOk.sub | exact BinOk.bitand | exact BinOk.rshift (by decide) | exact BinOk.mul (by lia) | exact BinOk.mod (by first | decide | lia) | exact BinOk.floordiv (by first | decide | lia) (by first | decide | lia) | exact CmpOk.lt | exact CmpOk.gt | exact CmpOk.eq | exact Evs.nil | refine' Evs.cons ?_ ?_)
      · refine' .scal (other_elt (x := x) (p := p2) (kk := 2) (and_tests (x := x) (p := p2) (kk := 2) (Tst.plain ?_ TruthOk.int) (Tst.cmp (d₁ := .int p2) (d₂ := .int 0) ?_ ?_ CmpOk.gt)).1 (and_tests (x := x) (p := p2) (kk := 2) (Tst.plain ?_ TruthOk.int) (Tst.cmp (d₁ := .int p2) (d₂ := .int 0) ?_ ?_ CmpOk.gt)).2 (fun hp => ?_) ?_) rfl
        all_goals repeat' (first | exact Ev.name rfl | exact Ev.int | exact Ev.str | exact Ev.bool | refine' Ev.bin ?_ ?_ ?_ | refine' Ev.cmp ?_ ?_ ?_ | refine' ev_tup2 ?_ | refine' ev_list3 ?_ | refine' Ev.sub ?_ ?_ ?_ | exact GetOk.list (by decide) (by decide) rfl | exact GetOk.tup (by decide) (by decide) rfl | exact BinOk.add | exact BinOk.sub | exact BinOk.bitand | exact BinOk.rshift (by decide) | exact BinOk.mul (by lia) | exact BinOk.mod (by first | decide | lia) | exact BinOk.floordiv (by first | decide | lia) (by first | decide | lia) | exact CmpOk.lt | exact CmpOk.gt | exact CmpOk.eq | exact Evs.nil | refine' Evs.cons ?_ ?_))
    have sh : ∀ a b c : Int, PySem.SeqAt.shaped (D.list [.int a, .int b, .int c]).py = true := fun a b c => rfl
    have eqv : PyData.eqv (D.list [.int (oPart x p0 0), .int (oPart x p1 1), .int (oPart x p2 2)]).py (D.list [.int p0, .int p1, .int p2]).py = decide (([oPart x p0 0, oPart x p1 1, oPart x p2 2] : List Int) = [p0, p1, p2]) := by
      rw [Bool.eq_iff_iff]
      simp [D.py, D.pys, PyData.eqv, PyData.eqvAll]
    by_cases hc : ([oPart x p0 0, oPart x p1 1, oPart x p2 2] : List Int) = [p0, p1, p2]
    · unfold other
      rw [if_pos hc]
      refine' Ret.cons (St.ifT (Tst.cast (Tst.cmp (Ev.name rfl) (Ev.name rfl) (CmpOk.eqD rfl rfl (sh _ _ _) (sh _ _ _) eqv)) (decide_eq_true hc)) (Sts.cons (St.assign (d := .list ((litOf [p0, p1, p2]).map .int)) ?l) (Sts.one (st_compE (fun _ => true) (dOut p0 p1 p2) (Itr.range (n := 3) (h.built rfl rfl (by decide)) (Evs.cons Ev.int Evs.nil) (by decide)) (rs := [.int (darkAt [p0, p1, p2] 0 p0), .int (darkAt [p0, p1, p2] 1 p1), .int (darkAt [p0, p1, p2] 2 p2)]) rfl rfl (fun d hd => Ifs.nil) (fun d hd _ => ?el) ?sw)))) (Ret.ret (Ev.name rfl))
      (case sw =>
        intro env de
        have hsc := de.scope
        obtain ⟨sc, _⟩ := env
        simp only at hsc
        subst hsc
        rfl)
      (case el =>
        have one : ∀ {G : Glo} {k : Nat} {g : List (Str × NameKind)} {ρ : Names} {body orelse test : Expr} {pos : Pos} {kk v : Int}, Tst G k g ρ test ((litOf [p0, p1, p2]).any (· == kk)) → Ev G k g ρ body (.int 0) → Ev G k g ρ orelse (.int v) → Ev G k g ρ (.IfExp test body orelse pos) (.int (darkAt [p0, p1, p2] kk v)) := by
          intro G k g ρ body orelse test pos kk v ht hb ho
          unfold darkAt
          cases hq : (litOf [p0, p1, p2]).any (· == kk) with
          | true => rw [if_pos rfl]; rw [hq] at ht; exact Ev.ifT ht hb
          | false => rw [if_neg (by decide)]; rw [hq] at ht; exact Ev.ifF ht ho
        rcases mem_upTo3 hd with rfl | rfl | rfl
        all_goals
          refine' .scal (one (Tst.cmp (Ev.name rfl) (Ev.name rfl) CmpOk.inL) Ev.int ?_) rfl
          repeat' (first | exact Ev.name rfl | exact Ev.int | exact Ev.str | exact Ev.bool | refine' Ev.bin ?_ ?_ ?_ | refine' Ev.cmp ?_ ?_ ?_ | refine' ev_tup2 ?_ | refine' ev_list3 ?_ | refine' Ev.sub ?_ ?_ ?_ | exact GetOk.list (by decide) (by decide) rfl | exact GetOk.tup (by decide) (by decide) rfl | exact BinOk.add | exact BinOk.sub | exact BinOk.bitand | exact BinOk.rshift (by decide) | exact BinOk.mul (by lia) | exact BinOk.mod (by first | decide | lia) | exact BinOk.floordiv (by first | decide | lia) (by first | decide | lia) | exact CmpOk.lt | exact CmpOk.gt | exact CmpOk.eq | exact Evs.nil | refine' Evs.cons ?_ ?_))
      (case l =>
        refine' Ev.cast (ev_slice (ev_compE (fun d => decide (0 < ix [p0, p1, p2] d)) id (Itr.range (n := 3) (h.built rfl rfl (by decide)) (Evs.cons Ev.int Evs.nil) (by decide)) rfl rfl (fun d hd => ?i) (fun d hd hp => .self _ rfl (by decide) rfl)) ?z Part.none (Part.some Ev.int)) ?eq
        (case i =>
          rcases mem_upTo3 hd with rfl | rfl | rfl
          all_goals
            refine' Ifs.one (Tst.cmp ?_ ?_ CmpOk.gt)
            all_goals repeat' (first | exact Ev.name rfl | exact Ev.int | exact Ev.str | exact Ev.bool | refine' Ev.bin ?_ ?_ ?_ | refine' Ev.cmp ?_ ?_ ?_ | refine' ev_tup2 ?_ | refine' ev_list3 ?_ | refine' Ev.sub ?_ ?_ ?_ | exact GetOk.list (by decide) (by decide) rfl | exact GetOk.tup (by decide) (by decide) rfl | exact BinOk.add | exact BinOk.sub | exact BinOk.bitand | exact BinOk.rshift (by decide) | exact BinOk.mul (by lia) | exact BinOk.mod (by first | decide | lia) | exact BinOk.floordiv (by first | decide | lia) (by first | decide | lia) | exact CmpOk.lt | exact CmpOk.gt | exact CmpOk.eq | exact Evs.nil | refine' Evs.cons ?_ ?_))
        (case z =>
          rw [List.map_id]
          exact Nat.le_trans (List.length_filter_le _ _) (by decide))
        (case eq =>
          congr 1
          unfold litOf pick
          have e : (upTo 3 : List D) = [.int 0, .int 1, .int 2] := rfl
          rw [e, List.map_id]
          by_cases h0 : 0 < p0 <;> by_cases h1 : 0 < p1 <;> by_cases h2 : 0 < p2 <;> simp [ix, h0, h1, h2, kms_lo, kms_hi]))
    · unfold other
      rw [if_neg hc]
      refine' Ret.cons (St.ifF (Tst.cast (Tst.cmp (Ev.name rfl) (Ev.name rfl) (CmpOk.eqD rfl rfl (sh _ _ _) (sh _ _ _) eqv)) (decide_eq_false hc)) Sts.nil) (Ret.ret (Ev.name rfl))
end Mine
end

section
open PySem PySem.W PyProof.Rows
set_option Elab.async false
set_option linter.unusedVariables false
namespace Mine
set_option maxRecDepth 100000
open PySem.Builtin PySem.Builtin.Re

theorem slot_search : Slot "re.Pattern" "search" "re.Pattern.search" :=
  .of (owner := "re.Pattern") (n := "search") (by rw [typeLookup_type, builtinLookup_eq_fast]; kernel_rfl) (by decide +kernel) (by decide +kernel) (by decide +kernel)
    (by first | exact .inl (by decide +kernel) | exact .inr (by decide +kernel)) (by rw [isSubtype_type]; kernel_rfl)
theorem type_search : typeOf (.builtin "re.Pattern.search") = pure (.type "method_descriptor") := by show builtinType _ = _; rw [builtinType_eq_fast]; kernel_rfl
theorem entry_search : entryFor table "re.Pattern.search" = some Builtin.«re.Pattern.search» := entryFor_of_tree (by kernel_rfl)
theorem args_search (a b : Value) : argsOk "re.Pattern.search" ⟨[a, b], []⟩ := by unfold argsOk; kernel_rfl
theorem plainAttrs_pattern : PlainAttrs "re.Pattern" := ⟨⟨"object.__getattribute__", by rw [typeLookup_type, builtinLookup_eq_fast]; kernel_rfl, by decide +kernel⟩, by rw [typeLookup_type, builtinLookup_eq_fast]; kernel_rfl⟩

noncomputable def code1 : Array Nat := #[14, 10, 4, 1, 1, 22, 0, 31, 16, 127, 0, 13, 7, 22, 0, 31, 16, 127, 0, 1]
noncomputable def code2 : Array Nat := #[14, 14, 4, 1, 1, 9, 4294966783, 0, 0, 2147483648, 0, 0, 0, 0, 0, 13, 11, 9, 4294966783, 0, 0, 2147483648, 0, 0, 0, 0, 0, 1]

/-- the set refuses the sign -/
noncomputable def Refuses (code : Array Nat) (c : Nat) : Prop := ∀ seen, ∃ seen', Sre.inSet code c code.size 5 true seen = .ok (false, seen')
theorem refuses1 {c : Nat} (h1 : 32 ≤ c) (h2 : c < 127) : Refuses code1 c := by
  intro seen
  have e1 : (0 ≤ c && c ≤ 31) = false := by simp; lia
  have e2 : (c == 127) = false := by simp; lia
  refine ⟨((seen.add 22).add 16).add 0, ?_⟩
  show Sre.inSet code1 c 20 5 true seen = _
  show (if (decide (0 ≤ c) && decide (c ≤ 31)) = true then _ else Sre.inSet code1 c 19 8 true _) = _
  rw [e1, if_neg (by decide)]
  show (if (c == 127) = true then _ else Sre.inSet code1 c 18 10 true _) = _
  rw [e2, if_neg (by decide)]
  rfl
theorem refuses2 {c : Nat} (h1 : 32 ≤ c) (h2 : c < 64) : Refuses code2 c := by
  intro seen
  have e0 : c / 32 = 1 := by lia
  have e1 : (decide (c < 256) && (code2.getD (5 + (1 + c / 32)) 0).testBit (c % 32)) = false := by
    rw [e0]
    show (_ && Nat.testBit 0 _) = false
    simp
  refine ⟨(seen.add 9).add 0, ?_⟩
  show Sre.inSet code2 c 28 5 true seen = _
  show (if (decide (c < 256) && (code2.getD (5 + (1 + c / 32)) 0).testBit (c % 32)) = true then _ else Sre.inSet code2 c 27 14 true _) = _
  rw [e1, if_neg (by decide)]
  rfl
theorem admitted_none {m : Sre.M} {code : Array Nat} (hc : m.code = code) (h : ∀ i, i < m.lim → Refuses code (m.text.getD i 0)) : ∀ (fuel s : Nat) (seen : Sre.Seen), ∃ seen', Sre.M.admitted m fuel s seen = .ok (none, seen')
  | 0, s, seen => ⟨_, rfl⟩
  | fuel + 1, s, seen => by
    unfold Sre.M.admitted
    by_cases hs : s ≥ m.lim
    · rw [if_pos hs]; exact ⟨_, rfl⟩
    · rw [if_neg hs, hc]
      obtain ⟨seen', e⟩ := h s (by lia) seen
      rw [e]
      exact admitted_none hc h fuel (s + 1) seen'
theorem from_none {m : Sre.M} {code : Array Nat} (hc : m.code = code) (hf : m.hasFirstSet = true) (h : ∀ i, i < m.lim → Refuses code (m.text.getD i 0)) (s : Nat) (first : Bool) :
    (m.attemptFrom s first).answer = some false ∧ (m.attemptFrom s first).frames = m.frames ∧ (m.attemptFrom s first).outcome = m.outcome := by
  unfold Sre.M.attemptFrom
  rw [hf]
  obtain ⟨seen', e⟩ := admitted_none hc h (m.lim + 1 - s) s m.seen
  rw [e]
  exact ⟨rfl, rfl, rfl⟩
/-- a search that finds nothing: the machine has its answer at once -/
theorem search_none {code text : Array Nat} (hk : code = code1 ∨ code = code2) (h : ∀ i, i < text.size → Refuses code (text.getD i 0)) :
    (Sre.forSearch code text 0 0 text.size false).answer = some false ∧ (Sre.forSearch code text 0 0 text.size false).frames = [] ∧ (Sre.forSearch code text 0 0 text.size false).outcome = none := by
  rcases hk with rfl | rfl
  all_goals
    unfold Sre.forSearch
    dsimp only
    split
    · exact ⟨rfl, rfl, rfl⟩
    · exact from_none rfl rfl h 0 true
theorem rule_loop {M : Model} {A : Around} {E : Value → Shared → Prop} {s : Shared} {Q : PUnit → Shared → Prop} (p : Nat → Bool) (f : Nat → String) : ∀ (l : List Nat), Q ⟨⟩ s → wpAny M A (forIn l PUnit.unit fun i _ => (if p i = true then do rule (f i); pure (ForInStep.yield PUnit.unit) else pure (ForInStep.yield PUnit.unit) : Sem (ForInStep PUnit))) Q E s
  | [], h => by rw [List.forIn_nil]; exact wpAny_pure h
  | a :: l, h => by
    rw [List.forIn_cons]
    refine wpAny_bind ?_
    cases hp : p a with
    | true => rw [if_pos rfl]; exact wpAny_bind (wpAny_rule (wpAny_pure (rule_loop p f l h)))
    | false => rw [if_neg (by decide)]; exact wpAny_pure (rule_loop p f l h)
theorem run_none {M : Model} {A : Around} {E : Value → Shared → Prop} {s : Shared} {m : Sre.M} {Q : Option Sre.M → Shared → Prop} (h1 : m.answer = some false) (h2 : m.frames = []) (h3 : m.outcome = none) (h : Q none s) : wpAny M A (reRunToEnd m) Q E s := by
  have st : m.step = { m with outcome := some .failed } := by
    unfold Sre.M.step
    rw [h3, h1, h2]; rfl
  have r4 : m.runFor reTurnSteps = { m with outcome := some .failed } := by
    show Sre.M.runFor 4 m = _
    unfold Sre.M.runFor
    rw [h3]
    show Sre.M.runFor 3 m.step = _
    rw [st]; rfl
  unfold reRunToEnd
  have d : wpAny M A (reDrive (2 ^ 64) m) (fun m' s' => m' = { m with outcome := some .failed } ∧ s' = s) E s := by
    rw [show (2 ^ 64 : Nat) = 18446744073709551615 + 1 from rfl]
    unfold reDrive
    rw [r4]
    exact wpAny_pure ⟨rfl, rfl⟩
  refine wpAny_bind (wpAny_mono d (fun m' s' q => ?_) fun _ _ e => e)
  obtain ⟨rfl, rfl⟩ := q
  refine wpAny_bind (rule_loop _ _ _ ?_)
  exact wpAny_pure h

/-- regex.search(text), where it finds nothing -/
theorem call_search {prog : Program} {w : World} {A : Around} {E : Value → Shared → Prop} {s : Shared} {p c : Addr} {op : Obj} {oc : Obj} {vs its : Array Value} {n : Nat} {x : Str} {t : Tok} {Q : Value → Shared → Prop}
    (hp : s.heap.get? p = some op) (hpc : op.cls = .type "re.Pattern") (hpd : op.data = .fields vs) (h5 : vs.getD 5 .none = .ref c) (h6 : reRawNat (vs.getD 6 .none) = 0) (h2 : reRawNat (vs.getD 2 .none) = 0)
    (hc : s.heap.get? c = some oc) (hcd : oc.data = .seq its n) (hk : (its.map reRawOf).map (·.toNat) = code1 ∨ (its.map reRawOf).map (·.toNat) = code2) (hl : x.cps.size ≤ 1000) (hx : ∀ i, i < x.cps.size → Refuses ((its.map reRawOf).map (·.toNat)) (x.cps.getD i 0)) (h : Q .none s) :
    wpAny (model prog w) A (call (.builtin "re.Pattern.search") [.ref p, .str x t]) Q E s := by
  have hT : s.TypeIs (.ref p) "re.Pattern" := ⟨op, hp, hpc⟩
  refine wpAny_call_entry slot_search hT entry_search ?_ (args_search _ _)
  unfold Builtin.«re.Pattern.search»
  refine wpAny_bind ?_
  unfold reTarget
  refine wpAny_bind (wpAny_of_eq (show reNamed "re.Pattern.search" "search" ["string", "pos", "endpos"] 1 [.str x t] [] = pure [some (.str x t), none, none] from rfl) ?_)
  refine wpAny_bind (wpAny_pure (wpAny_bind (wpAny_pure ?_)))
  refine wpAny_bind (wpAny_fieldsOf hp hpd ?_)
  refine wpAny_bind (wpAny_of_eq (show reTextOf (.str x t) = pure (x.cps, 0) from rfl) ?_)
  dsimp only
  rw [h6, if_neg (by decide), if_neg (by decide)]
  refine wpAny_bind (wpAny_of_eq (show reNoCollectionInside (.str x t) 0 = pure () from rfl) ?_)
  rw [h5]
  unfold reRawItems
  refine wpAny_bind (wpAny_bind (wpAny_seqItems hc hcd (wpAny_pure ?_)))
  dsimp only [Option.getD_some]
  rw [h2]
  refine wpAny_pure ?_
  dsimp only
  rw [show min (Int.toNat 0) x.cps.size = 0 by simp, show min (2 ^ 63 - 1 : Int).toNat x.cps.size = x.cps.size by lia]
  obtain ⟨a1, a2, a3⟩ := search_none hk hx
  unfold reAnswer
  refine wpAny_bind (run_none a1 a2 a3 ?_)
  exact wpAny_pure ⟨_, rfl, h⟩
end Mine
end

section
open PySem PySem.W PyProof.Rows
set_option Elab.async false
set_option linter.unusedVariables false
namespace Mine
set_option maxRecDepth 100000

/-! ## the table's place -/
structure Pl where
  prog : Program
  w : World
  hB : Heap
  T : Addr
  TD : Addr
  L : Addr
noncomputable abbrev Row := Str × Str
noncomputable def rowD (p : Row) : D := .tup [.str p.1, .str p.2]
noncomputable def rowsD (r : List Row) : List D := r.map rowD

theorem TabAt.soft {T TD L : Addr} {H : List Addr} {rows : List D} {h h' : Heap} (kf : ∀ a ∈ [T, TD], ∀ o, h.get? a = some o → h'.get? a = some o) (ks : ∀ b o its n, o.data = .seq its n → h.get? b = some o → h'.get? b = some o) (t : TabAt T TD L H rows h) : TabAt T TD L H rows h' := by
  obtain ⟨a, ⟨hs, tk, n, b⟩, vs, m, c, d⟩ := t
  exact ⟨kf _ (by simp) _ a, ⟨hs, tk, n, kf _ (by simp) _ b⟩, vs, m, ks _ _ _ _ rfl c, d.mono (fun b o its n _ hd e => ks b o its n hd e) (fun b o its n _ hd e => ks b o its n hd e)⟩
/-! the table of codes that grows when the lambda in _law_answer is first met -/
noncomputable abbrev tabA : Addr := 306
noncomputable def LPOS : Pos := ⟨247, 34, 247, 58⟩
noncomputable def lamQual : Str := Str.ofString "_law_answer.<locals>.<lambda>"
structure CodeC (h : Heap) (c : Addr) : Prop where
  ex : ∃ o vs t, h.get? c = some o ∧ o.cls = .type "code" ∧ o.data = .fields vs ∧ vs[1]? = some (.str lamQual t)
structure TabC (h : Heap) : Prop where
  ex : ∃ ps, h.get? tabA = some (tabObj ps) ∧ TriplesOk ps.toList ∧ (codeAmong LPOS ps.toList = none ∨ ∃ c, codeAmong LPOS ps.toList = some (.ref c) ∧ CodeC h c)
theorem TabC.soft {h h' : Heap} (kc : ∀ b o vs, o.data = .fields vs ∧ (o.cls = .type "code" ∨ o.cls = .none) → h.get? b = some o → h'.get? b = some o) (t : TabC h) : TabC h' := by
  obtain ⟨ps, e, tr, c⟩ := t.ex
  refine ⟨ps, kc _ _ ps ⟨rfl, .inr rfl⟩ e, tr, c.imp id fun ⟨c, hc, ⟨o, vs, t, h1, h2, h3, h4⟩⟩ => ⟨c, hc, ⟨o, vs, t, kc _ _ vs ⟨h3, .inl h2⟩ h1, h2, h3, h4⟩⟩⟩
theorem TabC.keep {h h' : Heap} (k : ∀ b o, h.get? b = some o → h'.get? b = some o) (t : TabC h) : TabC h' := t.soft fun b o _ _ e => k b o e
noncomputable def GT (g : Pl) (rows : List Row) : Glo where
  prog := g.prog
  w := g.w
  hB := g.hB
  H := [g.L]
  F := [g.T, g.TD]
  inv := fun h => TabAt g.T g.TD g.L [g.L] (rowsD rows) h ∧ TabC h
  invs := fun h h' kf ks kc t => ⟨t.1.soft kf ks, t.2.soft kc⟩

/-- an address that no call writes to -/
noncomputable def Nm (g : Pl) (b : Addr) : Prop := b ≠ g.L ∧ b ≠ tabA
/-- all that stood stands, but the table's list and the table of codes -/
structure Mv (g : Pl) (s s' : Shared) : Prop where
  same : ∃ h tk, s' = { s with heap := h, toks := tk }
  k : ∀ b o, Nm g b → s.heap.get? b = some o → s'.heap.get? b = some o
theorem Mv.refl {g : Pl} {s : Shared} : Mv g s s := ⟨⟨s.heap, s.toks, rfl⟩, fun _ _ _ e => e⟩
theorem Mv.trans {g : Pl} {s s' s'' : Shared} (a : Mv g s s') (b : Mv g s' s'') : Mv g s s'' := by
  obtain ⟨h, tk, rfl⟩ := a.same
  obtain ⟨h', tk', rfl⟩ := b.same
  exact ⟨⟨h', tk', rfl⟩, fun c o n e => b.k c o n (a.k c o n e)⟩
theorem Mv.of {g : Pl} {s s' : Shared} (a : Keeps s s') : Mv g s s' := by
  obtain ⟨h, tk, rfl, k⟩ := a
  exact ⟨⟨h, tk, rfl⟩, fun b o _ e => k b o e⟩
theorem At.tab {g : Pl} {rows : List Row} {s : Shared} (a : At (GT g rows) s) : TabAt g.T g.TD g.L [g.L] (rowsD rows) s.heap := a.inv.1
theorem At.tabP {g : Pl} {rows : List Row} {s : Shared} (a : At (GT g rows) s) : TabC s.heap := a.inv.2
theorem At.listL {g : Pl} {rows : List Row} {s : Shared} (a : At (GT g rows) s) : ∃ o its n, s.heap.get? g.L = some o ∧ o.data = .seq its n ∧ o.cls = .type "list" := by
  obtain ⟨vs, n, e, _⟩ := a.tab.list
  exact ⟨_, _, n, e, rfl, rfl⟩
theorem Mv.later {g : Pl} {rows rows₁ : List Row} {s s' : Shared} (a : Mv g s s') (ha : At (GT g rows₁) s) : Later (GT g rows) s.heap s'.heap := fun b o its n hb hd e => by
  refine a.k b o ⟨?_, ?_⟩ e
  · rintro rfl
    obtain ⟨o', its', n', e', _, hc⟩ := ha.listL
    rcases hb with hb | hb
    · exact hb (List.mem_singleton.mpr rfl)
    · rw [e] at e'; cases e'
      rw [hb] at hc; simp at hc
  · rintro rfl
    obtain ⟨ps, e', _⟩ := ha.tabP.ex
    rw [e] at e'; cases e'; cases hd

theorem update_const {h : Heap} {a : Addr} {o o' : Obj} (e : (h.update a fun _ => o').get? a = some o) : o = o' := by
  have e1 := (Heap.get?_some_iff.mp e).1
  cases h
  simp only [Heap.update, Array.getElem?_modify, if_true] at e1
  rename_i objs l
  cases q : objs[a]? with
  | none => rw [q] at e1; cases e1
  | some x => rw [q] at e1; cases e1; rfl
/-- a frame below which the list and the table of codes were changed -/
noncomputable def patch (s : Shared) (a : Addr) (o : Obj) (p : Addr) (q : Obj) : Shared := { s with heap := (s.heap.update a fun _ => o).update p fun _ => q }
theorem Frm.moved {g : Pl} {rows rows' : List Row} {s₀ s s' : Shared} {env : Env} {ρ : Names} (f : Frm (GT g rows) s₀ env ρ s) (m : Mv g s s') (a : At (GT g rows') s') : ∃ s₁, Mv g s₀ s₁ ∧ Frm (GT g rows') s₁ env ρ s' := by
  obtain ⟨oL, its, nL, hL, hdL, hcL⟩ := f.at_.listL
  obtain ⟨oN, its', nN, hN, hdN, hcN⟩ := a.listL
  obtain ⟨ps, hP, _⟩ := f.at_.tabP.ex
  obtain ⟨ps', hP', _⟩ := a.tabP.ex
  have hne : g.L ≠ tabA := fun e => by rw [e, hP] at hL; cases hL; cases hdL
  have lat : Later (GT g rows) s.heap s'.heap := m.later f.at_
  obtain ⟨mm, cm, I, hr⟩ := f.ex
  have offL := f.off g.L (.inr (List.mem_singleton.mpr rfl))
  obtain ⟨⟨oV, esV, epV, hoV, hdV⟩, hce, _⟩ := f.places
  have offP : tabA ≠ env.locals ∧ ∀ n c, env.cells.lookup n = some c → tabA ≠ c := by
    refine ⟨fun e => ?_, fun n c hc e => ?_⟩
    · rw [← e, hP] at hoV; cases hoV; cases hdV
    · obtain ⟨o, v, ho, hd⟩ := hce n c hc
      rw [← e, hP] at ho; cases ho; cases hd
  have nm : ∀ b : Addr, b ≠ g.L → b ≠ tabA → ((s₀.heap.update g.L fun _ => oN).update tabA fun _ => tabObj ps').get? b = s₀.heap.get? b := fun b h1 h2 => (Heap.get?_update_ne _ _ _ _ h2).trans (Heap.get?_update_ne _ _ _ _ h1)
  refine ⟨patch s₀ g.L oN tabA (tabObj ps'), ⟨⟨_, s₀.toks, rfl⟩, fun b o hb e => (nm b hb.1 hb.2).trans e⟩, ⟨fun b o e => ?_⟩, a, f.off, mm, cm, ⟨⟨?_, ?_, ?_, ?_⟩, fun n c hc => ?_, I.apart, I.above⟩, fun x d e => ?_⟩
  · have hb := f.base.keep b o e
    by_cases hbP : b = tabA
    · subst hbP
      have e2 := a.keep _ _ e
      rw [e2] at hP'; cases hP'
      show ((s₀.heap.update g.L _).update tabA _).get? tabA = _
      exact Heap.get?_update_self _ ((Heap.get?_update_ne _ _ _ _ (Ne.symm hne)).trans hb) (Heap.get?_some_iff.mp e2).2
    · by_cases hbL : b = g.L
      · subst hbL
        have e2 := a.keep _ _ e
        rw [e2] at hN; cases hN
        show ((s₀.heap.update g.L _).update tabA _).get? g.L = _
        exact (Heap.get?_update_ne _ _ _ _ hne).trans (Heap.get?_update_self _ hb (Heap.get?_some_iff.mp e2).2)
      · exact (nm b hbL hbP).trans hb
  · obtain ⟨h1, t1, e1⟩ := I.toInCall.same
    obtain ⟨h2, t2, e2⟩ := m.same
    exact ⟨h2, t2, by rw [e2, e1]; rfl⟩
  · obtain ⟨o, es, ep, ho, r⟩ := I.toInCall.ns
    exact ⟨o, es, ep, m.k _ _ ⟨Ne.symm offL.1, Ne.symm offP.1⟩ ho, r⟩
  · intro b o e
    by_cases hbP : b = tabA
    · subst hbP
      have e0 : ((s₀.heap.update g.L fun _ => oN).update tabA fun _ => tabObj ps').get? tabA = some o := e
      rw [update_const e0]
      exact hP'
    · by_cases hbL : b = g.L
      · subst hbL
        have e0 : ((s₀.heap.update g.L fun _ => oN).update tabA fun _ => tabObj ps').get? g.L = some o := e
        rw [Heap.get?_update_ne _ _ _ _ hbP] at e0
        rw [update_const e0]
        exact hN
      · have : ((s₀.heap.update g.L fun _ => oN).update tabA fun _ => tabObj ps').get? b = some o := e
        rw [nm b hbL hbP] at this
        exact m.k _ _ ⟨hbL, hbP⟩ (I.toInCall.keep _ _ this)
  · show ((s₀.heap.update _ _).update _ _).objs.size ≤ _
    rw [Heap.size_update, Heap.size_update]
    exact I.toInCall.fresh
  · obtain ⟨o, ho, hd⟩ := I.cell n c hc
    exact ⟨o, m.k _ _ ⟨Ne.symm (offL.2 n c hc), Ne.symm (offP.2 n c hc)⟩ ho, hd⟩
  · obtain ⟨v, b, r⟩ := hr x d e
    exact ⟨v, b, r.later lat⟩
end Mine
end

section
open PySem PySem.W PyProof.Rows
set_option Elab.async false
set_option linter.unusedVariables false
namespace Mine
set_option maxRecDepth 100000

theorem wpAny_monoT {α : Type} {M : Model} {A : Around} {E E' : Value → Shared → Prop} {s : Shared} {t : Sem α} {Q Q' : α → Shared → Prop} {n : Nat} (hn : n ≤ s.toks) (h : wpAny M A t Q E s) (hQ : ∀ a s', n ≤ s'.toks → Q a s' → Q' a s') (hE : ∀ e s', E e s' → E' e s') : wpAny M A t Q' E' s :=
  wpAny_mono (wpAny_toks_of hn h) (fun a s' q => hQ a s' q.1 q.2) fun e s' q => hE e s' q.2
/-! ## what changes the table -/
structure CallM (g : Pl) (rows rows' : List Row) (k : Nat) (f : Value) (ds : List D) (d : D) : Prop where
  run : ∀ (A : Around) (E : Value → Shared → Prop) (s : Shared) (vs : List Value), Room A k → At (GT g rows) s → 1 ≤ s.toks → Reps [g.L] s.heap ds vs →
    wpAny (model g.prog g.w) A (call f vs) (fun v s' => Mv g s s' ∧ At (GT g rows') s' ∧ Rep [g.L] s'.heap d v) E s
structure EvM (g : Pl) (rows rows' : List Row) (k : Nat) (nm : List (Str × NameKind)) (ρ : Names) (e : Expr) (d : D) : Prop where
  run : ∀ (A : Around) (E : Value → Shared → Prop) (env : Env) (s : Shared), Room A k → FunEnv nm env → At (GT g rows) s → 1 ≤ s.toks → EnvRep [g.L] s.heap env ρ →
    wpAny (model g.prog g.w) A (eval e env) (fun v s' => Mv g s s' ∧ At (GT g rows') s' ∧ Rep [g.L] s'.heap d v) E s
/-- all that stood, but the frame's own names and the table's list, still stands -/
structure HeldM (g : Pl) (env : Env) (s s' : Shared) : Prop where
  k : ∀ b o, b ≠ env.locals → (∀ n c, env.cells.lookup n = some c → b ≠ c) → Nm g b → s.heap.get? b = some o → s'.heap.get? b = some o
theorem HeldM.trans {g : Pl} {env : Env} {s s' s'' : Shared} (a : HeldM g env s s') (b : HeldM g env s' s'') : HeldM g env s s'' := ⟨fun c o h1 h2 h3 e => b.k c o h1 h2 h3 (a.k c o h1 h2 h3 e)⟩
theorem HeldM.refl {g : Pl} {env : Env} {s : Shared} : HeldM g env s s := ⟨fun _ _ _ _ _ e => e⟩
theorem HeldM.of {g : Pl} {env : Env} {s s' : Shared} (a : Held env s s') : HeldM g env s s' := ⟨fun c o h1 h2 _ e => a.k c o h1 h2 e⟩
theorem HeldM.mv {g : Pl} {env : Env} {s s' : Shared} (a : Mv g s s') : HeldM g env s s' := ⟨fun c o _ _ h3 e => a.k c o h3 e⟩
theorem Frm.movedH {g : Pl} {rows rows' : List Row} {s₀ s s' t : Shared} {env : Env} {ρ : Names} (f : Frm (GT g rows) s₀ env ρ s) (h : HeldM g env t s) (m : Mv g s s') (a : At (GT g rows') s') : ∃ s₁, Mv g s₀ s₁ ∧ Frm (GT g rows') s₁ env ρ s' ∧ HeldM g env t s' := by
  obtain ⟨s₁, m', f'⟩ := f.moved m a
  exact ⟨s₁, m', f', h.trans (.mv m)⟩
structure StM (g : Pl) (rows rows' : List Row) (k : Nat) (sc : Scope) (ρ : Names) (b : Stmt) (ρ' : Names) : Prop where
  run : ∀ (A : Around) (E : Value → Shared → Prop) (s₀ : Shared) (env : Env) (s : Shared), Room A k → DefEnv sc env → 1 ≤ s.toks → Frm (GT g rows) s₀ env ρ s →
    wpAny (model g.prog g.w) A (exec b env) (fun f s' => f = .next ∧ ∃ s₁, Mv g s₀ s₁ ∧ Frm (GT g rows') s₁ env ρ' s' ∧ HeldM g env s s') E s
structure RetM (g : Pl) (rows rows' : List Row) (k : Nat) (sc : Scope) (ρ : Names) (b : List Stmt) (d : D) : Prop where
  run : ∀ (A : Around) (E : Value → Shared → Prop) (s₀ : Shared) (env : Env) (s : Shared), Room A k → DefEnv sc env → 1 ≤ s.toks → Frm (GT g rows) s₀ env ρ s →
    wpAny (model g.prog g.w) A (execs b env) (fun f s' => (f = .ret .none ∨ f = .next) ∧ d = .none ∧ Mv g s₀ s' ∧ At (GT g rows') s' ∨ ∃ v, f = .ret v ∧ Mv g s₀ s' ∧ At (GT g rows') s' ∧ Rep [g.L] s'.heap d v) E s

section
variable {g : Pl} {rows rows' rows'' : List Row} {k : Nat} {sc : Scope} {nm : List (Str × NameKind)} {ρ ρ' ρ'' : Names} {d d' : D} {ds : List D}
theorem CallM.of {f : Value} (h : CallOk (GT g rows) k f ds d) : CallM g rows rows k f ds d := .mk fun A E s vs rm ha _ r =>
  wpAny_mono (h.run A E s vs rm ha r) (fun v s' q => ⟨Mv.of q.1, ha.of q.1, q.2⟩) fun _ _ e => e
theorem StM.of {b : Stmt} (h : St (GT g rows) k sc ρ b ρ') : StM g rows rows k sc ρ b ρ' := .mk fun A E s₀ env s rm de tk f =>
  wpAny_mono (h.run A E s₀ env s rm de f.base f) (fun fl s' q => ⟨q.1, s₀, .refl, q.2.1, .of q.2.2⟩) fun _ _ e => e
theorem RetM.of {b : List Stmt} (h : Ret (GT g rows) k sc ρ b d) : RetM g rows rows k sc ρ b d := .mk fun A E s₀ env s rm de tk f =>
  wpAny_mono (h.run A E s₀ env s rm de f.base f) (fun fl s' q => by
    obtain ⟨v, rfl, kp, a, r⟩ := q
    exact .inr ⟨v, rfl, Mv.of kp, a, r⟩) fun _ _ e => e
/-- the end of a def without a return -/
theorem RetM.end : RetM g rows rows k sc ρ [] .none := .mk fun A E s₀ env s rm de tk f => wpAny_execs_nil (.inl ⟨.inr rfl, rfl, Mv.of f.kp, f.at_⟩)
theorem RetM.cons {a : Stmt} {b : List Stmt} (h : StM g rows rows' k sc ρ a ρ') (r : RetM g rows' rows'' k sc ρ' b d) : RetM g rows rows'' k sc ρ (a :: b) d := .mk fun A E s₀ env s rm de tk f =>
  wpAny_execs_cons (wpAny_monoT tk (h.run A E s₀ env s rm de tk f) (fun fl s' tk' q => by
    obtain ⟨rfl, s₁, m, f', _⟩ := q
    refine wpAny_mono (r.run A E s₁ env s' rm de tk' f') (fun fl s'' z => ?_) fun _ _ e => e
    rcases z with ⟨z1, z2, z3, z4⟩ | ⟨v, z1, z2, z3, z4⟩
    · exact .inl ⟨z1, z2, m.trans z3, z4⟩
    · exact .inr ⟨v, z1, m.trans z2, z3, z4⟩) fun _ _ e => e)
theorem RetM.ifT {t : Expr} {b o r : List Stmt} {pos : Pos} (ht : Tst (GT g rows) k sc.names ρ t true) (h : RetM g rows rows' k sc ρ b d) (hd : d ≠ .none) (hk : sc.kind = .function := by rfl) : RetM g rows rows' k sc ρ (.If t b o pos :: r) d := .mk fun A E s₀ env s rm de tk f =>
  wpAny_execs_cons (wpAny_If (wpAny_monoT tk (ht.run A E env s rm (de.fun hk) f.at_ f.rep) (fun v s' tk' q => by
    obtain ⟨kp, rfl⟩ := q
    simp only [if_true]
    refine wpAny_mono (h.run A E s₀ env s' rm de tk' (f.of kp)) (fun fl s'' z => ?_) fun _ _ e => e
    rcases z with ⟨_, z2, _⟩ | ⟨v, rfl, z⟩
    · exact absurd z2 hd
    · exact .inr ⟨v, rfl, z⟩) fun _ _ e => e))
theorem StM.expr {e : Expr} {pos : Pos} (h : EvM g rows rows' k sc.names ρ e .none) (hi : ∀ env, DefEnv sc env → interactive env = false) (hs : ∀ env, swapsWith e none pos.line env = pure false := by intro _; rfl) (hk : sc.kind = .function := by rfl) : StM g rows rows' k sc ρ (.Expr e pos) ρ := .mk fun A E s₀ env s rm de tk f =>
  wpAny_Expr_any (wpAny_mono (h.run A E env s rm (de.fun hk) f.at_ tk f.rep) (fun v s' q => ⟨rfl, f.movedH .refl q.1 q.2.1⟩) fun _ _ e => e) (hi env de) (hs env)
theorem StM.assign {x : Str} {e : Expr} {p pos : Pos} (h : EvM g rows rows' k sc.names ρ e d) (hx : storable sc x = true := by decide +kernel) (hs : ∀ env, swapsWith e (some (.Name x p)) pos.line env = pure false := by intro _; rfl) (hk : sc.kind = .function := by rfl) :
    StM g rows rows' k sc ρ (.Assign [.Name x p] e pos) ((x, d) :: ρ) := .mk fun A E s₀ env s rm de tk f =>
  wpAny_Assign_Name (wpAny_mono (h.run A E env s rm (de.fun hk) f.at_ tk f.rep) (fun v s' q => by
    obtain ⟨s₁, m, f', hh⟩ := f.movedH .refl q.1 q.2.1
    exact f'.store (de.fun hk).kind (storable_of de hx) q.2.2 fun s'' f'' hl => ⟨rfl, s₁, m, f'', hh.trans (.of hl)⟩) fun _ _ e => e) (hs env)
theorem StM.weak {a : Stmt} {ρ₁ ρ₂ : Names} (h : StM g rows rows' k sc ρ₁ a ρ₂) (h1 : Sub ρ₁ ρ) (h2 : Sub ρ' ρ₂) : StM g rows rows' k sc ρ a ρ' := .mk fun A E s₀ env s rm de tk f =>
  wpAny_mono (h.run A E s₀ env s rm de tk (f.weak h1)) (fun fl s' q => by
    obtain ⟨q1, s₁, m, f', hh⟩ := q
    exact ⟨q1, s₁, m, f'.weak h2, hh⟩) fun _ _ e => e
/-- several statements -/
structure StsM (g : Pl) (rows rows' : List Row) (k : Nat) (sc : Scope) (ρ : Names) (b : List Stmt) (ρ' : Names) : Prop where
  run : ∀ (A : Around) (E : Value → Shared → Prop) (s₀ : Shared) (env : Env) (s : Shared), Room A k → DefEnv sc env → 1 ≤ s.toks → Frm (GT g rows) s₀ env ρ s →
    wpAny (model g.prog g.w) A (execs b env) (fun f s' => f = .next ∧ ∃ s₁, Mv g s₀ s₁ ∧ Frm (GT g rows') s₁ env ρ' s' ∧ HeldM g env s s') E s
theorem StsM.nil : StsM g rows rows k sc ρ [] ρ := .mk fun A E s₀ env s rm de tk f => wpAny_execs_nil ⟨rfl, s₀, .refl, f, .refl⟩
theorem StsM.cons {a : Stmt} {b : List Stmt} (h : StM g rows rows' k sc ρ a ρ') (r : StsM g rows' rows'' k sc ρ' b ρ'') : StsM g rows rows'' k sc ρ (a :: b) ρ'' := .mk fun A E s₀ env s rm de tk f =>
  wpAny_execs_cons (wpAny_monoT tk (h.run A E s₀ env s rm de tk f) (fun fl s' tk' q => by
    obtain ⟨rfl, s₁, m, f', hh⟩ := q
    refine wpAny_mono (r.run A E s₁ env s' rm de tk' f') (fun fl s'' z => ?_) fun _ _ e => e
    obtain ⟨z1, s₂, m2, f2, hh2⟩ := z
    exact ⟨z1, s₂, m.trans m2, f2, hh.trans hh2⟩) fun _ _ e => e)
theorem StsM.one {a : Stmt} (h : StM g rows rows' k sc ρ a ρ') : StsM g rows rows' k sc ρ [a] ρ' := .cons h .nil
theorem StM.ifT {t : Expr} {b o : List Stmt} {pos : Pos} (ht : Tst (GT g rows) k sc.names ρ t true) (h : StsM g rows rows' k sc ρ b ρ') (hk : sc.kind = .function := by rfl) : StM g rows rows' k sc ρ (.If t b o pos) ρ' := .mk fun A E s₀ env s rm de tk f =>
  wpAny_If (wpAny_monoT tk (ht.run A E env s rm (de.fun hk) f.at_ f.rep) (fun v s' tk' q => by
    obtain ⟨kp, rfl⟩ := q
    simp only [if_true]
    refine wpAny_mono (h.run A E s₀ env s' rm de tk' (f.of kp)) (fun fl s'' z => ?_) fun _ _ e => e
    obtain ⟨z1, s₂, m2, f2, hh2⟩ := z
    exact ⟨z1, s₂, m2, f2, (HeldM.of (Held.of kp)).trans hh2⟩) fun _ _ e => e)
theorem StM.ifF {t : Expr} {b o : List Stmt} {pos : Pos} (ht : Tst (GT g rows) k sc.names ρ t false) (h : StsM g rows rows' k sc ρ o ρ') (hk : sc.kind = .function := by rfl) : StM g rows rows' k sc ρ (.If t b o pos) ρ' := .mk fun A E s₀ env s rm de tk f =>
  wpAny_If (wpAny_monoT tk (ht.run A E env s rm (de.fun hk) f.at_ f.rep) (fun v s' tk' q => by
    obtain ⟨kp, rfl⟩ := q
    simp only [Bool.false_eq_true, if_false]
    refine wpAny_mono (h.run A E s₀ env s' rm de tk' (f.of kp)) (fun fl s'' z => ?_) fun _ _ e => e
    obtain ⟨z1, s₂, m2, f2, hh2⟩ := z
    exact ⟨z1, s₂, m2, f2, (HeldM.of (Held.of kp)).trans hh2⟩) fun _ _ e => e)
theorem CallM.le {f : Value} {j : Nat} (h : CallM g rows rows' k f ds d) (hj : k ≤ j) : CallM g rows rows' j f ds d := .mk fun A E s vs rm => h.run A E s vs (rm.le hj)

/-- a call of a global name -/
theorem EvM.call {x : Str} {p pos : Pos} {es : List Expr} {f : Value} (hx : GlobIs (GT g rows) x f) (hc : Callee (GT g rows) f) (ha : Evs (GT g rows) k nm ρ es ds) (h : CallM g rows rows' k f ds d)
    (hk : nm.lookup x = some .globalImplicit := by rfl) (hd : (x == ("__debug__" : Str)) = false := by decide) : EvM g rows rows' k nm ρ (.Call (.Name x p) es [] pos) d := .mk fun A E env s rm fe at' tk he =>
  Call_Name rfl (glob_name (G := GT g rows) hx fe at' hk hd (callWith_any (G := GT g rows) (ha.run A E env s pos rm fe at' he).1 hc (wpAny_monoT tk (ha.run A E env s pos rm fe at' he).2 (fun vs s' tk' q =>
    ⟨at'.of q.1, wpAny_mono (h.run A E s' vs rm (at'.of q.1) tk' q.2) (fun v s'' z => ⟨(Mv.of q.1).trans z.1, z.2⟩) fun _ _ e => e⟩) fun _ _ e => e)))

/-- a call of a def that changes the table -/
theorem call_cells {prog : Program} {w : World} {A : Around} {s : Shared} {R : Result → Shared → Prop} {a : Addr} {o : Obj} {fd : FuncData} {body : List Stmt} {args : Args} {binds : List (Str × Value)}
    (hroom : A.depth < recursionLimit) (ho : s.heap.get? a = some o) (hdata : o.data = .func fd) (hlim : s.heap.NoLimit) (hcd : s.heap.CodeRec fd.code fd.qualname)
    (hbody : fd.body = .stmts body) (hbind : BindsTo s fd args binds) (hclo : fd.closure = [])
    (hkind : ∀ x ∈ binds, fd.scope.names.lookup x.1 = some .local ∨ (fd.scope.names.lookup x.1 = some .cell ∧ ((cellsFrom (s.heap.objs.size + 1) fd.scope.names []).lookup x.1).isSome = true))
    (h : ∀ s₁, s.toks ≤ s₁.toks → InCallC s (callEnvC fd s.heap.objs.size a).locals (bindL (callEnvC fd s.heap.objs.size a).kindOf binds fun _ => none) (callEnvC fd s.heap.objs.size a).cells
        (bindC (callEnvC fd s.heap.objs.size a).kindOf binds fun _ => none) s₁ →
      wpAny (model prog w) (A.deeper (callEnvC fd s.heap.objs.size a)) (execs body (callEnvC fd s.heap.objs.size a)) (fun f s' => R (.ok (.ret (match f with | .ret v => v | _ => .none))) s')
        (fun e s' => wpAny (model prog w) (A.deeper (callEnvC fd s.heap.objs.size a)) (leaving (callEnvC fd s.heap.objs.size a) e) (fun _ s'' => R (.error e) s'') (fun e' s'' => R (.error e') s'') s') s₁)
    (hco : fd.scope.isCoroutine = false) (hgen : fd.scope.isGenerator = false) (hk : fd.scope.kind = .function) :
    codeAny (model prog w) A (.call (.ref a) args) R s := by
  refine codeAny_call_function hroom ho hdata hco hgen hbody hcd ?_
  rw [hclo]
  refine hbind _ _ _ _ (wpAny_with_toks (Nat.le_refl _) (wpAny_mono (wpAny_newFunctionEnv_cells (Q := fun env s' => s.toks ≤ s'.toks → s'.heap.NoLimit ∧ codeAny (model prog w) A (.func body env) R s') hk hkind fun env he s' x tk => ?_) (fun _ _ q => q) fun _ _ q _ => q))
  subst he
  exact ⟨hlim.keeps x.toInCall.keep, codeAny_func (h s' tk x)⟩

/-- the frame at a def's start -/
theorem frm_start {G : Glo} {f : Addr} {fd : FuncData} {body : List Stmt} {ns : List Str} {ds : List D} {s s₁ : Shared} {vs : List Value} (hf : DefAt G f fd body) (hl : ns.length = ds.length) (hn : ns.Nodup) (hs : ns.all (storable fd.scope) = true) (ha : At G s) (r : Reps G.H s.heap ds vs)
    (I : InCallC s (callEnvC fd s.heap.objs.size f).locals (bindL (callEnvC fd s.heap.objs.size f).kindOf (ns.zip vs) fun _ => none) (callEnvC fd s.heap.objs.size f).cells (bindC (callEnvC fd s.heap.objs.size f).kindOf (ns.zip vs) fun _ => none) s₁) :
    Frm G s (callEnvC fd s.heap.objs.size f) (ns.zip ds) s₁ ∧ DefEnv fd.scope (callEnvC fd s.heap.objs.size f) := by
  have hlen := r.length
  have hzn : (ns.zip vs).map (·.1) = ns := by rw [List.map_fst_zip]; lia
  have hcell : (callEnvC fd s.heap.objs.size f).cells = cellsFrom (s.heap.objs.size + 1) fd.scope.names [] := rfl
  have kp : Keeps s s₁ := by
    obtain ⟨h', tk, rfl, kk⟩ := I.toInCall.done
    exact ⟨h', tk, rfl, kk⟩
  refine ⟨⟨ha.bs, ha.of kp, fun a hm => ?_, _, _, I, fun x e hx => ?_⟩, ⟨rfl, hf.globals, hf.builtins, rfl⟩⟩
  · have hlt : a < s.heap.objs.size := by
      rcases hm with hm | hm
      · obtain ⟨o, e⟩ := ha.fl a hm; exact Heap.lt_size e
      · obtain ⟨o, e⟩ := ha.live a hm; exact Heap.lt_size e
    exact ⟨Nat.ne_of_lt hlt, fun n c hc => Nat.ne_of_lt (Nat.lt_trans hlt (I.above n c (mem_of_lookup hc)))⟩
  · obtain ⟨v, hv, rv⟩ := lookup_zip r hx
    refine ⟨v, ?_, rv.keep I.toInCall.keep⟩
    have hnd : ((ns.zip vs).map (·.1)).Nodup := by rw [hzn]; exact hn
    have hmem := mem_of_lookup hv
    have hm : x ∈ ns := by rw [← hzn]; exact List.mem_map_of_mem hmem
    have := List.all_eq_true.mp hs _ hm
    unfold storable at this
    rcases Bool.or_eq_true_iff.mp this with q | q
    · exact .inl ⟨beq_iff_eq.mp q, bind_names _ _ _ _ (beq_iff_eq.mp q) hnd hv⟩
    · obtain ⟨h1, h2⟩ := Bool.and_eq_true_iff.mp q
      refine .inr ⟨beq_iff_eq.mp h1, ?_, bindC_names _ _ _ _ (by show fd.scope.names.lookup x ≠ _; rw [beq_iff_eq.mp h1]; decide) hnd hv⟩
      rw [hcell]
      exact Option.isSome_iff_exists.mp (by rw [cellsFrom_isSome fd.scope.names _ 0 [] [] rfl]; exact h2)
theorem kinds_of {fd : FuncData} {ns : List Str} {vs : List Value} (n : Nat) (hs : ns.all (storable fd.scope) = true) : ∀ x ∈ ns.zip vs, fd.scope.names.lookup x.1 = some .local ∨ (fd.scope.names.lookup x.1 = some .cell ∧ ((cellsFrom (n + 1) fd.scope.names []).lookup x.1).isSome = true) := by
  intro x hx
  have hm : x.1 ∈ ns := (List.of_mem_zip hx).1
  have := List.all_eq_true.mp hs _ hm
  unfold storable at this
  rcases Bool.or_eq_true_iff.mp this with q | q
  · exact .inl (beq_iff_eq.mp q)
  · obtain ⟨h1, h2⟩ := Bool.and_eq_true_iff.mp q
    exact .inr ⟨beq_iff_eq.mp h1, by rw [cellsFrom_isSome fd.scope.names _ 0 [] [] rfl]; exact h2⟩
theorem CallM.def {f : Addr} {fd : FuncData} {body : List Stmt} {ns : List Str} (hf : DefAt (GT g rows) f fd body)
    (hb : ∀ vs, vs.length = ds.length → bindArgs fd ⟨vs, []⟩ = pure (ns.zip vs)) (hl : ns.length = ds.length) (hn : ns.Nodup) (hs : ns.all (storable fd.scope) = true)
    (h : RetM g rows rows' k fd.scope (ns.zip ds) body d) : CallM g rows rows' (k + 1) (.ref f) ds d := by
  constructor
  intro A E s vs rm ha tk0 r
  obtain ⟨o, ho, hd⟩ := hf.obj
  refine wpAny_call (call_cells rm.d (ha.keep _ _ ho) hd (hf.nolimit.keeps ha.keep) (hf.code.keeps ha.keep) hf.body (.of_eq (hb vs r.length)) hf.closure (kinds_of _ hs) (fun s₁ tk I => ?_) hf.co hf.gen hf.kind)
  obtain ⟨fr, de⟩ := frm_start hf hl hn hs ha r I
  refine wpAny_mono (h.run _ _ s _ s₁ (rm.deeper _) de (Nat.le_trans tk0 tk) fr) (fun fl s' q => ?_) fun _ _ e => e
  rcases q with ⟨q1, q2, q3, q4⟩ | ⟨v, rfl, q1, q2, q3⟩
  · subst q2
    rcases q1 with rfl | rfl
    · exact ⟨q3, q4, by unfold Rep; rfl⟩
    · exact ⟨q3, q4, by unfold Rep; rfl⟩
  · exact ⟨q1, q2, q3⟩
/-- a pure call, its arguments bound somehow -/
theorem call_defE {G : Glo} {f : Addr} {fd : FuncData} {body : List Stmt} {ns : List Str} {args : Args} {vs : List Value} {A : Around} {E : Value → Shared → Prop} {s : Shared} (hf : DefAt G f fd body)
    (hb : BindsTo s fd args (ns.zip vs)) (hl : ns.length = ds.length) (hn : ns.Nodup) (hs : ns.all (storable fd.scope) = true)
    (h : Ret G k fd.scope (ns.zip ds) body d) (rm : Room A (k + 1)) (ha : At G s) (r : Reps G.H s.heap ds vs) :
    wpAny (model G.prog G.w) A (call (.ref f) args.pos args.kw) (fun v s' => Keeps s s' ∧ Rep G.H s'.heap d v) E s := by
  obtain ⟨o, ho, hd⟩ := hf.obj
  refine wpAny_call (call_cells rm.d (ha.keep _ _ ho) hd (hf.nolimit.keeps ha.keep) (hf.code.keeps ha.keep) hf.body hb hf.closure (kinds_of _ hs) (fun s₁ tk I => ?_) hf.co hf.gen hf.kind)
  obtain ⟨fr, de⟩ := frm_start hf hl hn hs ha r I
  refine wpAny_mono (h.run _ _ s _ s₁ (rm.deeper _) de ha.bs fr) (fun fl s' q => ?_) fun _ _ e => e
  obtain ⟨v, rfl, kp, _, rv⟩ := q
  exact ⟨kp, rv⟩
end
end Mine
end

section
open PySem PySem.W PyProof.Rows
set_option Elab.async false
set_option linter.unusedVariables false
namespace Mine
set_option maxRecDepth 100000

/-! ## the class's own ways -/
theorem At.kin {G : Glo} {s : Shared} (h : Gnd G) (a : At G s) : (KK G.w).In s.heap := h.kin.keeps a.keep

section
variable {g : Pl} {rows rows' : List Row} {k : Nat} {nm : List (Str × NameKind)} {ρ : Names} {d d' : D} {ds : List D}
theorem instT {s : Shared} (a : At (GT g rows) s) : ∃ hs tk n, PySem.W.InstAt s.heap g.T ⟨.ref 256, some g.TD, .plain, #[]⟩ 256 (some (dictOf [⟨hs, .str (Str.ofString "_headers") tk, .ref g.L⟩] n)) := by
  have t : TabAt g.T g.TD g.L [g.L] (rowsD rows) s.heap := a.tab
  obtain ⟨hs, tk, n, hd⟩ := t.dict
  exact ⟨hs, tk, n, t.inst, rfl, rfl, hd⟩
theorem getHeaders {A : Around} {E : Value → Shared → Prop} {s : Shared} {ex : Bool} {Q : Value → Shared → Prop} (h : Gnd (GT g rows)) (a : At (GT g rows) s) (q : Q (.ref g.L) { s with toks := s.toks + 1 }) : wpAny (model g.prog g.w) A (getAttr (.ref g.T) (Str.ofString "_headers") ex) Q E s := by
  obtain ⟨hs, tk, n, I⟩ := instT a
  exact get_value (K := KK g.w) (a.kin h) I rfl (findObj_own (attr := none) rfl rfl rfl rfl) rfl q
theorem ev_headers {x : Str} {p pos : Pos} (h : Gnd (GT g rows)) (hx : Ev (GT g rows) k nm ρ (.Name x p) (.ref g.T)) : Ev (GT g rows) k nm ρ (.Attribute (.Name x p) (Str.ofString "_headers") pos) (.ref g.L) := .mk fun A E env s rm fe ha he =>
  Attribute_any_ (wpAny_mono (hx.run A E env s rm fe ha he) (fun v s' q => by
    obtain ⟨kp, r⟩ := q
    rw [ref_of r]
    exact getHeaders h (ha.of kp) ⟨kp_trans kp (kp_tok s' _), rep_ref⟩) fun _ _ e => e) (he := rfl)
theorem getOwn {A : Around} {E : Value → Shared → Prop} {s : Shared} {name : Str} {pl : Sem Bool} {f : Addr} {Q : Value × List Value → Shared → Prop} (h : Gnd (GT g rows)) (a : At (GT g rows) s)
    (hf : findIn (KK g.w) (.ref 256) name = some (some (.ref f))) (ht : isFn (KK g.w) (.ref f) = true) (hn : ∀ hs tk v, getL name [⟨hs, .str (Str.ofString "_headers") tk, v⟩] = some none) (q : Q (.ref f, [.ref g.T]) s) :
    wpAny (model g.prog g.w) A (getMethod (.ref g.T) name pl) Q E s := by
  obtain ⟨hs, tk, n, I⟩ := instT a
  exact method_fn (K := KK g.w) (a.kin h) I rfl rfl hf (beq_iff_eq.mp ht) (by show (lookIn name (dictOf _ n)).map _ = _; rw [lookIn_dict, hn]; rfl) q

/-- self.name(args) -/
theorem own_call {o : Expr} {name : Str} {args : List Expr} {apos pos : Pos} {f : Addr} {A : Around} {E : Value → Shared → Prop} {env : Env} {s : Shared} {Q : Value → Shared → Prop} (h : Gnd (GT g rows)) (ho : Ev (GT g rows) k nm ρ o (.ref g.T)) (ha : Evs (GT g rows) k nm ρ args ds)
    (hf : findIn (KK g.w) (.ref 256) name = some (some (.ref f))) (ht : isFn (KK g.w) (.ref f) = true) (hc : Callee (GT g rows) (.ref f)) (hn : ∀ hs tk v, getL name [⟨hs, .str (Str.ofString "_headers") tk, v⟩] = some none)
    (rm : Room A k) (fe : FunEnv nm env) (at' : At (GT g rows) s) (hev : EnvRep [g.L] s.heap env ρ)
    (q : ∀ vs s', Keeps s s' → Reps [g.L] s'.heap (.ref g.T :: ds) vs → wpAny (model g.prog g.w) A (call (.ref f) vs) Q E s')
    (he : ∃ pl, eval (.Call (.Attribute o name apos) args [] pos) env = (do
      let ov ← eval o env
      standAt apos.atName
      let (f, first) ← holding [ov] (getMethod ov name pl)
      callWith pos f first (backTo pos (starEach args env)) [])) : wpAny (model g.prog g.w) A (eval (.Call (.Attribute o name apos) args [] pos) env) Q E s := by
  obtain ⟨pl, he⟩ := he
  refine PyProof.Rows.MethodCall_ (wpAny_mono (ho.run A E env s rm fe at' hev) (fun ov s₁ q1 => ?_) fun _ _ e => e) he
  have e := ref_of q1.2
  subst e
  have a1 := at'.of q1.1
  refine getOwn h a1 hf ht hn ?_
  have r2 := ha.run A E env s₁ pos rm fe a1 (hev.keep (kp_keep q1.1))
  cases hc with
  | «def» ho' hd' =>
    refine callWith_function_kw (evalArgs_any r2.1 (wpAny_mono r2.2 (fun vs s₂ q2 => ⟨⟨(a1.of q2.1).keep _ _ ho', hd'⟩, ?_⟩) fun _ _ e => e))
    exact q (.ref g.T :: vs) s₂ (kp_trans q1.1 q2.1) (reps_cons (H := [g.L]) rep_ref q2.2)
theorem ev_own {o : Expr} {name : Str} {args : List Expr} {apos pos : Pos} {f : Addr} (h : Gnd (GT g rows)) (ho : Ev (GT g rows) k nm ρ o (.ref g.T)) (ha : Evs (GT g rows) k nm ρ args ds) (hc : CallOk (GT g rows) k (.ref f) (.ref g.T :: ds) d)
    (hf : findIn (KK g.w) (.ref 256) name = some (some (.ref f)) := by rfl) (ht : isFn (KK g.w) (.ref f) = true := by rfl) (hcl : Callee (GT g rows) (.ref f)) (hn : ∀ hs tk v, getL name [⟨hs, .str (Str.ofString "_headers") tk, v⟩] = some none := by intro _ _ _; rfl)
    (he : ∀ env, ∃ pl, eval (.Call (.Attribute o name apos) args [] pos) env = (do
      let ov ← eval o env
      standAt apos.atName
      let (f, first) ← holding [ov] (getMethod ov name pl)
      callWith pos f first (backTo pos (starEach args env)) []) := by intro _; exact ⟨_, rfl⟩) : Ev (GT g rows) k nm ρ (.Call (.Attribute o name apos) args [] pos) d := .mk fun A E env s rm fe at' hev =>
  own_call h ho ha hf ht hcl hn rm fe at' hev (fun vs s' kp r => wpAny_mono (hc.run A E s' vs rm (at'.of kp) r) (fun v s'' z => ⟨kp_trans kp z.1, z.2⟩) fun _ _ e => e) (he env)

/-! _convert_string_type -/
noncomputable def okChr (x : Str) (lo hi : Nat) : Prop := x.cps.size ≤ 1000 ∧ ∀ i, i < x.cps.size → lo ≤ x.cps.getD i 0 ∧ x.cps.getD i 0 < hi
theorem Ev.glob {G : Glo} {x : Str} {pos : Pos} {a : Addr} (hx : GlobIs G x (.ref a)) (hk : nm.lookup x = some .globalImplicit := by rfl) (hd : (x == ("__debug__" : Str)) = false := by decide) : Ev G k nm ρ (.Name x pos) (.ref a) := .mk fun A E env s rm fe ha he =>
  glob_name hx fe ha hk hd ⟨kp_refl s, rep_ref⟩
theorem Ev.globT {G : Glo} {x : Str} {pos : Pos} {v : Value} (hx : GlobIs G x v) (hk : nm.lookup x = some .globalImplicit := by rfl) (hd : (x == ("__debug__" : Str)) = false := by decide) : Ev G k nm ρ (.Name x pos) (.cst v) := .mk fun A E env s rm fe ha he =>
  glob_name hx fe ha hk hd ⟨kp_refl s, rep_cst⟩
theorem CmpOk.isType {G : Glo} {n : String} : CmpOk G k .Is (.cst (.type n)) (.cst (.type n)) true := by
  constructor
  intro A E s v₁ v₂ _ _ r₁ r₂
  rw [cst_of r₁, cst_of r₂]
  exact wpAny_is_self rfl ⟨kp_refl s, rfl⟩
theorem TruthOk.none {G : Glo} : TruthOk G k .none false := by
  constructor
  intro A E s v _ _ r
  rw [none_of r]
  exact wpAny_pure ⟨kp_refl s, rfl⟩
theorem CallOk.typeS {G : Glo} {x : Str} : CallOk G k (.type "type") [.str x] (.cst (.type "str")) := by
  constructor
  intro A E s vs rm ha r
  obtain ⟨v, rfl, r1⟩ := reps1 r
  obtain ⟨t, rfl⟩ := str_of r1
  obtain ⟨hh, gg, dd, tt, os⟩ := s
  refine wpAny_call (codeAny_of_tree ?_)
  show wpAny _ _ (callAny (.type "type") ⟨[.str x t], []⟩) _ _ _
  simp only [callAny]
  refine wpAny_pure ⟨Code.quiet_builtin _ (by decide +kernel), codeAny_builtin PyProof.Rows.entry_type_call ?_⟩
  unfold Builtin.«type.__call__»
  dsimp only
  unfold shownTypeOf
  repeat (first | wp_step)
  exact ⟨kp_refl _, rep_cst⟩

theorem ek1 : (((#[.int 14 0, .int 10 0, .int 4 0, .int 1 0, .int 1 0, .int 22 0, .int 0 0, .int 31 0, .int 16 0, .int 127 0, .int 0 0, .int 13 0, .int 7 0, .int 22 0, .int 0 0, .int 31 0, .int 16 0, .int 127 0, .int 0 0, .int 1 0] : Array Value).map Builtin.Re.reRawOf).map (·.toNat)) = code1 := by decide +kernel
theorem ek2 : (((#[.int 14 0, .int 14 0, .int 4 0, .int 1 0, .int 1 0, .int 9 0, .int 4294966783 0, .int 0 0, .int 0 0, .int 2147483648 0, .int 0 0, .int 0 0, .int 0 0, .int 0 0, .int 0 0, .int 13 0, .int 11 0, .int 9 0, .int 4294966783 0, .int 0 0, .int 0 0, .int 2147483648 0, .int 0 0, .int 0 0, .int 0 0, .int 0 0, .int 0 0, .int 1 0] : Array Value).map Builtin.Re.reRawOf).map (·.toNat)) = code2 := by decide +kernel
theorem ev_search {G : Glo} {o a : Expr} {apos pos : Pos} {p : Addr} {x : Str} (h : Gnd G) (hp : p = 128 ∧ okChr x 32 127 ∨ p = 133 ∧ okChr x 32 64) (ho : Ev G k nm ρ o (.ref p)) (ha : Ev G k nm ρ a (.str x))
    (he : ∀ env, ∃ pl, eval (.Call (.Attribute o (Str.ofString "search") apos) [a] [] pos) env = (do
      let ov ← eval o env
      standAt apos.atName
      let (f, first) ← holding [ov] (getMethod ov (Str.ofString "search") pl)
      callWith pos f first (backTo pos (starEach [a] env)) []) := by intro _; exact ⟨_, rfl⟩)
    (hse : ∀ env, starEach (a :: []) env = (false, eval a env) :: starEach [] env := by intro _; rfl) : Ev G k nm ρ (.Call (.Attribute o (Str.ofString "search") apos) [a] [] pos) .none := .mk fun A E env s rm fe at' hev => by
  obtain ⟨pl, he⟩ := he env
  refine PyProof.Rows.MethodCall_ (wpAny_mono (ho.run A E env s rm fe at' hev) (fun ov s₁ q => ?_) fun _ _ e => e) he
  have e := ref_of q.2
  subst e
  have a1 := at'.of q.1
  have K1 := a1.kin h
  have e128 : s₁.heap.get? 128 = some { cls := .type "re.Pattern", data := _ } := K1 128 _ rfl
  have e133 : s₁.heap.get? 133 = some { cls := .type "re.Pattern", data := _ } := K1 133 _ rfl
  have hT : s₁.TypeIs (.ref p) "re.Pattern" := by
    rcases hp with ⟨rfl, _⟩ | ⟨rfl, _⟩
    · exact ⟨_, e128, rfl⟩
    · exact ⟨_, e133, rfl⟩
  have hD : ∀ b, Value.ref p = .ref b → ∃ o, s₁.heap.get? b = some o ∧ o.dict = none := by
    intro b e; cases e
    rcases hp with ⟨rfl, _⟩ | ⟨rfl, _⟩
    · exact ⟨_, e128, rfl⟩
    · exact ⟨_, e133, rfl⟩
  refine getMethod_builtin (T := "re.Pattern") hT plainAttrs_pattern slot_search type_search hD ?_
  have r2 := (Evs.cons ha Evs.nil hse).run A E env s₁ pos rm fe a1 (hev.keep (kp_keep q.1))
  refine Calls.callWith_builtin r2.1 (evalArgs_any r2.1 (wpAny_mono r2.2 (fun vs s₂ q2 => ?_) fun _ _ e => e))
  obtain ⟨v, rfl, r3⟩ := reps1 q2.2
  obtain ⟨t, rfl⟩ := str_of r3
  have K2 := (a1.of q2.1).kin h
  rcases hp with ⟨rfl, hx⟩ | ⟨rfl, hx⟩
  · exact call_search (K2 128 _ rfl) rfl rfl rfl rfl rfl (K2 127 _ rfl) rfl (.inl ek1) hx.1 (fun i hi => ek1.symm ▸ refuses1 (hx.2 i hi).1 (hx.2 i hi).2) ⟨kp_trans q.1 q2.1, rep_none⟩
  · exact call_search (K2 133 _ rfl) rfl rfl rfl rfl rfl (K2 132 _ rfl) rfl (.inr ek2) hx.1 (fun i hi => ek2.symm ▸ refuses2 (hx.2 i hi).1 (hx.2 i hi).2) ⟨kp_trans q.1 q2.1, rep_none⟩
theorem conv_call {G : Glo} (h : Gnd G) {T : Addr} {x : Str} {b : Bool} (hx : b = true ∧ okChr x 32 127 ∨ b = false ∧ okChr x 32 64) {A : Around} {E : Value → Shared → Prop} {s : Shared} {v : Value} (rm : Room A (k + 1)) (ha : At G s) (r : Rep G.H s.heap (.str x) v) :
    wpAny (model G.prog G.w) A (call (.ref 155) [.ref T, v] [(Str.ofString "name", .bool b)]) (fun v s' => Keeps s s' ∧ Rep G.H s'.heap (.str x) v) E s := by
  refine call_defE (args := ⟨[.ref T, v], [(Str.ofString "name", .bool b)]⟩) (vs := [.ref T, v, .bool b]) (ds := [.ref T, .str x, .bool b]) (ns := [Str.ofString "self", Str.ofString "value", Str.ofString "name"]) (h.def (f := 155) rfl (by kernel_rfl)) (.of_eq rfl) rfl (by decide) (by decide +kernel) ?_ rm ha (reps_cons rep_ref (reps_cons r (reps_cons rep_bool (by unfold Reps; rfl))))
  refine' Ret.ifT (Tst.cmp (Ev.call (h.built rfl rfl (by decide)) (.type _) (Evs.cons (Ev.name rfl) Evs.nil) CallOk.typeS) (Ev.globT (h.built rfl rfl (by decide))) CmpOk.isType) ?_
  rcases hx with ⟨rfl, hx⟩ | ⟨rfl, hx⟩
  · refine' Ret.cons (St.assign (d := .ref 128) (Ev.ifT (Tst.plain (Ev.name rfl) TruthOk.bool) (Ev.glob (h.glob rfl)))) ?_
    refine' Ret.cons (St.ifF (Tst.plain (ev_search h (.inl ⟨rfl, hx⟩) (Ev.name rfl) (Ev.name rfl)) TruthOk.none) Sts.nil) ?_
    exact Ret.ret (Ev.name rfl)
  · refine' Ret.cons (St.assign (d := .ref 133) (Ev.ifF (Tst.plain (Ev.name rfl) TruthOk.bool) (Ev.glob (h.glob rfl)))) ?_
    refine' Ret.cons (St.ifF (Tst.plain (ev_search h (.inr ⟨rfl, hx⟩) (Ev.name rfl) (Ev.name rfl)) TruthOk.none) Sts.nil) ?_
    exact Ret.ret (Ev.name rfl)
theorem ev_conv {o e : Expr} {apos pos p1 p2 : Pos} {n : Nat} {x : Str} {b : Bool} (h : Gnd (GT g rows)) (hx : b = true ∧ okChr x 32 127 ∨ b = false ∧ okChr x 32 64) (ho : Ev (GT g rows) (k + 1) nm ρ o (.ref g.T)) (hv : Ev (GT g rows) (k + 1) nm ρ e (.str x))
    (he : ∀ env, ∃ pl, eval (.Call (.Attribute o (Str.ofString "_convert_string_type") apos) [e] [⟨some (Str.ofString "name"), .Constant (.bool b) n p1, p2⟩] pos) env = (do
      let ov ← eval o env
      standAt apos.atName
      let (f, first) ← holding [ov] (getMethod ov (Str.ofString "_convert_string_type") pl)
      callWith pos f first (backTo pos (starEach [e] env)) (backToKw pos (keywordEach [⟨some (Str.ofString "name"), .Constant (.bool b) n p1, p2⟩] env))) := by intro _; exact ⟨_, rfl⟩)
    (hse : ∀ env, starEach (e :: []) env = (false, eval e env) :: starEach [] env := by intro _; rfl) :
    Ev (GT g rows) (k + 1) nm ρ (.Call (.Attribute o (Str.ofString "_convert_string_type") apos) [e] [⟨some (Str.ofString "name"), .Constant (.bool b) n p1, p2⟩] pos) (.str x) := .mk fun A E env s rm fe at' hev => by
  obtain ⟨pl, he⟩ := he env
  refine methodCall_KW (pl := pl) (wpAny_mono (ho.run A E env s rm fe at' hev) (fun ov s₁ q1 => ?_) fun _ _ e => e) he
  have e1 := ref_of q1.2
  subst e1
  have a1 := at'.of q1.1
  refine getOwn (f := 155) h a1 rfl rfl (by intro _ _ _; rfl) ?_
  have r2 := (Evs.cons hv Evs.nil hse).run A E env s₁ pos rm fe a1 (hev.keep (kp_keep q1.1))
  have hc : Callee (GT g rows) (.ref 155) := h.callee (f := 155) rfl
  cases hc with
  | «def» ho' hd' =>
    rename_i oo fd
    refine callWith_function_kw (o := oo) (fd := fd) (evalArgs_kw2 rfl (wpAny_mono r2.2 (fun vs s₂ q2 => ?_) fun _ _ e => e) (hse env))
    obtain ⟨v, rfl, rv⟩ := reps1 q2.2
    refine kwAll_cons (wpAny_pure (kwAll_nil ⟨⟨(a1.of q2.1).keep _ _ ho', hd'⟩, ?_⟩))
    have k12 := kp_trans q1.1 q2.1
    exact wpAny_mono (conv_call (k := k) (G := GT g rows) h hx rm (at'.of k12) rv) (fun v s' z => ⟨kp_trans k12 z.1, z.2⟩) fun _ _ e => e
end
end Mine
end

section
open PySem PySem.W PyProof.Rows
set_option Elab.async false
set_option linter.unusedVariables false
namespace Mine
set_option maxRecDepth 100000

noncomputable abbrev low (x : Str) : Str := Txt.lower x
/-- the row's texts are such as the class takes -/
structure RowOk (p : Row) : Prop where
  name : okChr p.1 32 127
  low : okChr (low p.1) 32 127
  text : okChr p.2 32 64
theorem okChr.tooLong {x : Str} {lo hi : Nat} (h : okChr x lo hi) : Builtin.Str.tooLong x.length = false := by
  unfold Builtin.Str.tooLong
  have h1 := h.1
  have h2 : 1000 ≤ sizeLine := by rw [sizeLine_eq]; decide
  have h3 : x.length = x.cps.size := rfl
  simp; lia
noncomputable def findRow (rows : List Row) (key : Str) : Option Str := (rows.find? fun p => low p.1 == key).map (·.2)
noncomputable def optD : Option Str → D
  | some t => .str t
  | none => .none

theorem rowsD_len (r : List Row) : (rowsD r).length = r.length := by simp [rowsD]
theorem Frm.fr {G : Glo} {s₀ s : Shared} {env : Env} {ρ : Names} (f : Frm G s₀ env ρ s) : ∃ m, Fr s₀.heap env.locals s.heap m := by
  obtain ⟨m, cm, I, h⟩ := f.ex
  exact ⟨m, I.toInCall.ns, I.toInCall.keep, I.toInCall.fresh⟩
theorem Bs.kin {G : Glo} {s : Shared} (h : Gnd G) (a : Bs G s) : (KK G.w).In s.heap := h.kin.keeps a.keep
theorem Room.in1 {A : Around} {k : Nat} (r : Room A (k + 1)) : Room A.in1 k := ⟨r.handled, by have := r.depth; show A.depth + k < _; lia, by have := r.units; show A.units + 1 + 10 * k + 100 < _; lia⟩

section
variable {g : Pl} {rows rows' : List Row} {k : Nat} {nm : List (Str × NameKind)} {ρ : Names} {d d' : D} {ds : List D}
theorem At.rws {s : Shared} (a : At (GT g rows) s) : ∃ vs, s.heap.PlainList g.L (List.toArray vs) ∧ Reps [g.L] s.heap (rowsD rows) vs := by
  obtain ⟨vs, n, e, r⟩ := a.tab.list
  exact ⟨vs, ⟨n, e⟩, r⟩
theorem Itr.headers {e : Expr} (hz : rows.length ≤ 1000) (h : Ev (GT g rows) k nm ρ e (.ref g.L)) (hf : ∀ x env, foldedSetIterable e env x = pure x := by intro _ _; rfl) : Itr (GT g rows) k nm ρ e (rowsD rows) := ⟨hf, by rw [rowsD_len]; exact hz, fun A E env s rm fe ha he =>
  wpAny_mono (h.run A E env s rm fe ha he) (fun v s₁ q => by
    obtain ⟨kp, r⟩ := q
    rw [ref_of r]
    obtain ⟨vs, pl, rs⟩ := (ha.of kp).rws
    exact ⟨kp, gives_at (G := GT g rows) (X := []) rm.handled (by simp) pl.isList rs _ fun _ _ a b => ⟨a, b⟩⟩) fun _ _ e => e⟩
theorem CallOk.lenT (hz : rows.length ≤ 1000) : CallOk (GT g rows) k (.builtin "len") [.ref g.L] (.int rows.length) := by
  constructor
  intro A E s vs rm ha r
  obtain ⟨v, rfl, r1⟩ := reps1 r
  have e := ref_of r1
  subst e
  obtain ⟨vs, pl, rs⟩ := ha.rws
  have hl := rs.length
  rw [rowsD_len] at hl
  refine PyProof.Rows.len_list pl.isList (by simp; lia) ⟨kp_tok s _, ?_⟩
  rw [show vs.toArray.size = rows.length by simp [hl]]
  exact rep_int
/-- __len__ -/
theorem len_ok (h : Gnd (GT g rows)) (hz : rows.length ≤ 1000) : CallOk (GT g rows) 1 (.ref 162) [.ref g.T] (.int rows.length) := by
  refine CallOk.def (ns := [Str.ofString "self"]) (h.def (f := 162) rfl (by kernel_rfl)) (fun vs hv => ?_) rfl (by decide) (by decide +kernel) ?_
  · exact binds1 (fun _ => rfl) vs hv
  · exact Ret.ret (Ev.call (h.built rfl rfl (by decide)) (.builtin _) (Evs.cons (ev_headers h (Ev.name rfl)) Evs.nil) (CallOk.lenT hz))
/-- items -/
theorem items_ok (h : Gnd (GT g rows)) (hz : rows.length ≤ 1000) : CallOk (GT g rows) 1 (.ref 220) [.ref g.T] (.list (rowsD rows)) := by
  refine CallOk.def (ns := [Str.ofString "self"]) (h.def (f := 220) rfl (by kernel_rfl)) (fun vs hv => ?_) rfl (by decide) (by decide +kernel) ?_
  · exact binds1 (fun _ => rfl) vs hv
  · refine Ret.ret (Ev.cast (slice_core (G := GT g rows) (ds := rowsD rows) (lo := none) (hi := none) (by rw [rowsD_len]; exact hz) (fun A E env s rm fe ha he => wpAny_mono ((ev_headers h (Ev.name rfl)).run A E env s rm fe ha he) (fun v s' q => ?_) fun _ _ e => e) Part.none Part.none (by intro _ _; rfl)) ?_)
    · obtain ⟨vs, pl, rs⟩ := (ha.of q.1).rws
      rw [ref_of q.2]
      exact ⟨q.1, g.L, vs, rfl, pl.isList, rs⟩
    · congr 1
      unfold pick kms_lo kms_hi
      simp
/-- get(name) -/
theorem get_ok (h : Gnd (GT g rows)) (hz : rows.length ≤ 1000) (hr : ∀ p ∈ rows, RowOk p) {x : Str} (hx : okChr (low x) 32 127) : CallOk (GT g rows) 3 (.ref 203) [.ref g.T, .str x] (optD (findRow rows (low x))) := by
  constructor
  intro A E s vs rm ha r
  obtain ⟨v1, v2, rfl, r1, r2⟩ := reps2 r
  have hlen : (rowsD rows).length = rows.length := rowsD_len rows
  refine call_defE (args := ⟨[v1, v2], []⟩) (vs := [v1, v2, .none]) (ds := [.ref g.T, .str x, .none]) (ns := [Str.ofString "self", Str.ofString "name", Str.ofString "default"]) (h.def (f := 203) rfl (by kernel_rfl))
    (binds_K (K := KK g.w) (ha.kin h) (T := 196) rfl rfl rfl rfl rfl) rfl (by decide) (by decide +kernel) ?_ rm ha (reps_cons r1 (reps_cons r2 (reps_cons rep_none (by unfold Reps; rfl))))
  refine' Ret.cons (St.assign (d := .str (low x)) (ev_conv (k := 1) h (.inl ⟨rfl, hx⟩) (Ev.name rfl) (ev_meth (Ev.name rfl) Meth.lower Evs.nil (CallOk.lower hx.tooLong)))) ?_
  let ρ0 : Names := [(Str.ofString "name", .str (low x)), (Str.ofString "self", .ref g.T), (Str.ofString "default", .none)]
  have hsub : Sub ρ0 ((Str.ofString "name", .str (low x)) :: ([Str.ofString "self", Str.ofString "name", Str.ofString "default"] : List Str).zip [.ref g.T, .str x, .none]) := Sub.cons rfl (Sub.cons rfl (Sub.cons rfl Sub.nil))
  refine Ret.weak ?_ hsub
  let δ : D → Names := fun d => match d with
    | .tup [a, b] => [(Str.ofString "v", b), (Str.ofString "k", a)]
    | _ => []
  generalize hN : rows.findIdx (fun p => low p.1 == low x) = N
  have before : ∀ i (hi : i < rows.length), i < N → (low rows[i].1 == low x) = false := by
    intro i hi hlt
    rw [← hN] at hlt
    simpa using List.not_of_lt_findIdx hlt
  have turn : ∀ i d, i < N → (rowsD rows)[i]? = some d → ∃ p, d = rowD p ∧ RowOk p ∧ (low p.1 == low x) = false := by
    intro i d hi hd
    have hl : i < rows.length := by rw [← hlen]; exact (List.getElem?_eq_some_iff.mp hd).1
    simp [rowsD, hl] at hd
    exact ⟨rows[i], hd.symm, hr _ (List.getElem_mem hl), before i hl hi⟩
  by_cases hf : N < rows.length
  · have hat : (low rows[N].1 == low x) = true := by
      subst hN
      exact List.findIdx_getElem (w := hf)
    have hres : optD (findRow rows (low x)) = .str rows[N].2 := by
      unfold findRow
      rw [List.find?_eq_getElem?_findIdx, hN, List.getElem?_eq_getElem hf]; rfl
    rw [hres]
    refine' Ret.for (fun _ => ρ0) δ N (by rw [hlen]; exact hf) (Itr.headers hz (ev_headers h (Ev.name rfl))) ?put ?turn (fun d hd => ?_)
    (case put =>
      intro d hd
      obtain ⟨p, hp, rfl⟩ := List.mem_map.mp hd
      exact Put.tup (xs := [Str.ofString "k", Str.ofString "v"]) (d := rowD p) (ds := [.str p.1, .str p.2]) (.inr rfl) rfl rfl (by decide +kernel))
    (case turn =>
      intro i d hi hd
      obtain ⟨p, rfl, ok, hne⟩ := turn i d (by lia) hd
      refine ⟨_, Sts.one (St.ifF (Tst.cast (Tst.cmp (ev_meth (Ev.name rfl) Meth.lower Evs.nil (CallOk.lower ok.low.tooLong)) (Ev.name rfl) CmpOk.seq) hne) Sts.nil), ?_⟩
      exact Sub.cons rfl (Sub.cons rfl (Sub.cons rfl Sub.nil)))
    have ed : d = rowD rows[N] := by simp [rowsD, hf] at hd; exact hd.symm
    subst ed
    exact Ret.ifT (Tst.cast (Tst.cmp (ev_meth (Ev.name rfl) Meth.lower Evs.nil (CallOk.lower (hr _ (List.getElem_mem hf)).low.tooLong)) (Ev.name rfl) CmpOk.seq) hat) (Ret.ret (Ev.name rfl))
  · have hN2 : N = rows.length := by
      have := List.findIdx_le_length (xs := rows) (p := fun p => low p.1 == low x)
      lia
    have hres : optD (findRow rows (low x)) = .none := by
      unfold findRow
      rw [List.find?_eq_getElem?_findIdx, hN, List.getElem?_eq_none (by lia)]; rfl
    rw [hres]
    refine' Ret.cons (St.for (fun _ => ρ0) δ (Itr.headers hz (ev_headers h (Ev.name rfl))) ?put ?turn) ?_
    (case put =>
      intro d hd
      obtain ⟨p, hp, rfl⟩ := List.mem_map.mp hd
      exact Put.tup (xs := [Str.ofString "k", Str.ofString "v"]) (d := rowD p) (ds := [.str p.1, .str p.2]) (.inr rfl) rfl rfl (by decide +kernel))
    (case turn =>
      intro i d hi hd
      obtain ⟨p, rfl, ok, hne⟩ := turn i d (by lia) hd
      refine ⟨_, Sts.one (St.ifF (Tst.cast (Tst.cmp (ev_meth (Ev.name rfl) Meth.lower Evs.nil (CallOk.lower ok.low.tooLong)) (Ev.name rfl) CmpOk.seq) hne) Sts.nil), ?_⟩
      exact Sub.cons rfl (Sub.cons rfl (Sub.cons rfl Sub.nil)))
    exact Ret.ret (Ev.name rfl)
/-- __getitem__ -/
theorem getitem_own (h : Gnd (GT g rows)) (hz : rows.length ≤ 1000) (hr : ∀ p ∈ rows, RowOk p) {x : Str} (hx : okChr (low x) 32 127) : CallOk (GT g rows) 4 (.ref 181) [.ref g.T, .str x] (optD (findRow rows (low x))) := by
  refine CallOk.def (ns := [Str.ofString "self", Str.ofString "name"]) (h.def (f := 181) rfl (by kernel_rfl)) (fun vs hv => ?_) rfl (by decide) (by decide +kernel) ?_
  · exact binds2 (fun _ _ => rfl) vs hv
  · exact Ret.ret (ev_own h (Ev.name rfl) (Evs.cons (Ev.name rfl) Evs.nil) (get_ok h hz hr hx) (hcl := h.callee rfl))
/-- operator.getitem -/
theorem getitem_ok (h : Gnd (GT g rows)) (hz : rows.length ≤ 1000) (hr : ∀ p ∈ rows, RowOk p) {x : Str} (hx : okChr (low x) 32 127) : CallOk (GT g rows) 6 (.ref 101) [.ref g.T, .str x] (optD (findRow rows (low x))) := by
  refine CallOk.def (ns := [Str.ofString "a", Str.ofString "b"]) (h.def (f := 101) rfl (by kernel_rfl)) (fun vs hv => ?_) rfl (by decide) (by decide +kernel) ?_
  · exact binds2 (fun _ _ => rfl) vs hv
  · constructor
    intro A E s₀ env s rm de hb f
    refine wpAny_execs_cons (wpAny_Return_some (Subscript_ (wpAny_mono ((Ev.name (x := Str.ofString "a") rfl).run A _ env s rm (de.fun rfl) f.at_ f.rep) (fun v₁ s₁ q1 => wpAny_mono ((Ev.name (x := Str.ofString "b") rfl).run A _ env s₁ rm (de.fun rfl) (f.of q1.1).at_ (f.of q1.1).rep) (fun v₂ s₂ q2 => ?_) fun _ _ e => e) fun _ _ e => e)))
    have f2 := (f.of q1.1).of q2.1
    have e1 := ref_of q1.2
    subst e1
    obtain ⟨m, F⟩ := f2.fr
    obtain ⟨hs, tk, n, I⟩ := instT f2.at_
    refine sub_K (K := KK g.w) (f := 181) F (hb.kin h) I rfl rfl rfl ?_
    refine wpAny_mono ((getitem_own h hz hr hx).run A.in1 _ s₂ [.ref g.T, v₂] rm.in1 f2.at_ (reps_cons rep_ref (reps_cons q2.2 (by unfold Reps; rfl)))) (fun v s' z => ?_) fun _ _ e => e
    exact ⟨v, rfl, kp_trans f2.kp z.1, f2.at_.of z.1, z.2⟩
theorem CallOk.isiInt {G : Glo} {i : Int} : CallOk G k (.builtin "isinstance") [.int i, .cst (.type "int")] (.bool true) := by
  constructor
  intro A E s vs rm ha r
  obtain ⟨v, u, rfl, r1, r2⟩ := reps2 r
  obtain ⟨t, rfl⟩ := int_of r1
  have e := cst_of r2
  subst e
  exact PySem.IsiPair.int_int ⟨kp_refl s, rep_bool⟩
theorem Ret.try {G : Glo} {sc : Scope} {b o rest : List Stmt} {h0 : ExceptHandler} {hs : List ExceptHandler} {pos : Pos} (h : Ret G k sc ρ b d) : Ret G k sc ρ (.Try b (h0 :: hs) o [] pos :: rest) d := .mk fun A E s₀ env s rm de hb f =>
  wpAny_execs_cons (wpAny_Try_except (wpAny_mono (h.run A _ s₀ env s rm de hb f) (fun fl s' q => by
    obtain ⟨v, rfl, q⟩ := q
    exact ⟨v, rfl, q⟩) fun _ _ e => e))
/-- return len(x), x the table -/
theorem ret_len {sc : Scope} {x : Str} {p1 p2 p3 p4 : Pos} {rest : List Stmt} (h : Gnd (GT g rows)) (hz : rows.length ≤ 1000) (hx : ρ.lookup x = some (.ref g.T)) (hd : (x == ("__debug__" : Str)) = false := by decide) (hk : sc.kind = .function := by rfl) (hg : sc.names.lookup (Str.ofString "len") = some .globalImplicit := by rfl) :
    Ret (GT g rows) 3 sc ρ (.Return (some (.Call (.Name (Str.ofString "len") p1) [.Name x p2] [] p3)) p4 :: rest) (.int rows.length) := .mk fun A E s₀ env s rm de hb f => by
  refine wpAny_execs_cons (wpAny_Return_some (Call_Name rfl (glob_name (G := GT g rows) (h.built (x := Str.ofString "len") rfl rfl (by decide)) (de.fun hk) f.at_ hg (by decide) ?_)))
  have r2 := (Evs.cons (Ev.name (G := GT g rows) (k := 3) (g := sc.names) (pos := p2) hx hd) Evs.nil (by intro _; rfl)).run A E env s p3 rm (de.fun hk) f.at_ f.rep
  refine callWith_any (G := GT g rows) r2.1 (.builtin _) (wpAny_mono r2.2 (fun vs s₂ q2 => ⟨f.at_.of q2.1, ?_⟩) fun _ _ e => e)
  obtain ⟨v, rfl, r1⟩ := reps1 q2.2
  have e := ref_of r1
  subst e
  have f2 := f.of q2.1
  obtain ⟨m, F⟩ := f2.fr
  obtain ⟨hs, tk, n, I⟩ := instT f2.at_
  refine len_K (K := KK g.w) (f := 162) F (hb.kin h) I rfl rfl ?_
  refine wpAny_mono ((len_ok h hz).run A.in1 _ s₂ [.ref g.T] (rm.in1.le (by decide)) f2.at_ (reps_cons rep_ref (by unfold Reps; rfl))) (fun v s' z => ?_) fun _ _ e => e
  obtain ⟨t, rfl⟩ := int_of z.2
  have k3 := kp_trans z.1 (kp_tok s' (s'.toks + 1))
  exact ⟨⟨by lia, by lia⟩, _, rfl, kp_trans f2.kp k3, f2.at_.of k3, rep_int⟩
/-- operator.length_hint -/
theorem hint_ok (h : Gnd (GT g rows)) (hz : rows.length ≤ 1000) : CallOk (GT g rows) 4 (.ref 123) [.ref g.T] (.int rows.length) := by
  constructor
  intro A E s vs rm ha r
  obtain ⟨v1, rfl, r1⟩ := reps1 r
  refine call_defE (args := ⟨[v1], []⟩) (vs := [v1, .int 0 413]) (ds := [.ref g.T, .int 0]) (ns := [Str.ofString "obj", Str.ofString "default"]) (h.def (f := 123) rfl (by kernel_rfl))
    (binds_K (K := KK g.w) (ha.kin h) (T := 116) rfl rfl rfl rfl rfl) rfl (by decide) (by decide +kernel) ?_ rm ha (reps_cons r1 (reps_cons rep_int (by unfold Reps; rfl)))
  refine' Ret.cons (St.ifF (Tst.cast (Tst.not (Tst.plain (Ev.call (h.built rfl rfl (by decide)) (.builtin _) (Evs.cons (Ev.name rfl) (Evs.cons (Ev.globT (h.built rfl rfl (by decide))) Evs.nil)) CallOk.isiInt) TruthOk.bool)) rfl) Sts.nil) ?_
  exact Ret.try (ret_len h hz rfl)
end
end Mine
end

section
open PySem PySem.W PyProof.Rows
set_option Elab.async false
set_option linter.unusedVariables false
namespace Mine
set_option maxRecDepth 100000

theorem Reps.snoc {H : List Addr} {h : Heap} {ds : List D} {vs : List Value} {d : D} {v : Value} (r : Reps H h ds vs) (q : Rep H h d v) : Reps H h (ds ++ [d]) (vs ++ [v]) :=
  Reps.append r (reps_cons q (by unfold Reps; rfl))
theorem Reps.scal {H H' : List Addr} {h h' : Heap} : ∀ {l : List D} {us : List Value}, (∀ d ∈ l, d.scalar = true) → Reps H h l us → Reps H' h' l us
  | [], us, _, r => by unfold Reps at r ⊢; exact r
  | d :: l, us, hs, r => by
    unfold Reps at r ⊢
    obtain ⟨v, us', e, r1, r2⟩ := r
    exact ⟨v, us', e, r1.scal (hs _ (.head _)), Reps.scal (fun d hd => hs _ (.tail _ hd)) r2⟩
theorem two_rep {H : List Addr} {h : Heap} {env : Env} {x y : Str} {d1 d2 : D} {v1 v2 : Value} {m : Str → Option Value} (kx : env.kindOf x = some .local) (ky : env.kindOf y = some .local) (hn : h.Ns env.locals m) (e2 : m y = some v2) (e1 : m x = some v1)
    (r1 : Rep H h d1 v1) (r2 : Rep H h d2 v2) : EnvRep H h env [(y, d2), (x, d1)] := by
  intro z d hz
  rw [List.lookup_cons] at hz
  cases hb : z == y with
  | true =>
    rw [hb] at hz; cases hz
    obtain rfl := beq_iff_eq.mp hb
    exact ⟨v2, .inl ⟨ky, _, hn, e2⟩, r2⟩
  | false =>
    rw [hb] at hz
    rw [List.lookup_cons] at hz
    cases hb' : z == x with
    | true =>
      rw [hb'] at hz; cases hz
      obtain rfl := beq_iff_eq.mp hb'
      exact ⟨v1, .inl ⟨kx, _, hn, e1⟩, r1⟩
    | false => rw [hb'] at hz; cases hz
section
variable {G : Glo} {k : Nat} {g : List (Str × NameKind)} {ρ : Names}
/-- [elt for x, y in iter] -/
theorem ev_comp2 {elt iter : Expr} {x y : Str} {px py tp : Pos} {n : Nat} {scope : Scope} {pos : Pos} (ps : List (D × D)) (out : D × D → D) (hit : Itr G k g ρ iter (ps.map fun p => .tup [p.1, p.2]))
    (helt : ∀ p ∈ ps, Ev G k scope.names [(y, p.2), (x, p.1)] elt (out p) ∧ (out p).scalar = true) (hxy : x ≠ y)
    (hfree : ∀ z ∈ scope.names, z.2 ≠ .free := by decide +kernel) (hcell : ∀ y ∈ scope.names, y.2 ≠ .cell := by decide +kernel) (hkind : scope.kind = .function := by rfl)
    (hnames : ∀ y ∈ scope.names, y.2 = .local → scope.names.lookup y.1 = some .local := by decide +kernel) (hx : scope.names.lookup x = some .local := by rfl) (hy : scope.names.lookup y = some .local := by rfl) :
    Ev G k g ρ (.ListComp elt [⟨.Tuple [.Name x px, .Name y py] n tp, iter, [], 0⟩] scope pos) (.list (ps.map out)) := .mk fun A E env s rm fe ha he => by
  rw [eval_ListComp]
  refine wpAny_comprehension_free (use := none) rfl (fun x => hit.fold x env) (closure_eq fun p hp h => absurd h (hfree p hp)) hkind hnames (wpAny_mono (hit.run A E env s rm fe ha he) (fun xv s₁ q => wpAny_mono q.2 (fun it s₂ q2 => ?_) fun _ _ e => e) fun _ _ e => e)
  have k1 := q.1
  have k2 := q2.1
  obtain ⟨I, fp, wr, P, St, rfl, W, hst, hfp, hwr, _, _, hP, hcalm, hge⟩ := q2.2
  have hlen : (ps.map fun p => D.tup [p.1, p.2]).length = ps.length := by simp
  rw [hlen] at W
  refine wpAny_newObj_type (wpAny_newFunctionEnv hcell (by intro y hy; simp at hy) (fun h₁ hns₁ hsb₁ => ?_) hkind)
  dsimp only at hns₁ hsb₁ ⊢
  generalize hH2 : s₂.heap.push { cls := .type "list", dict := none, data := .seq ([] : List Value).toArray } = H2 at hns₁ hsb₁ ⊢
  have hC : H2.objs.size = s₂.heap.objs.size + 1 := by rw [← hH2, Heap.size_push]
  generalize hCC : H2.objs.size = C at hC hns₁ hsb₁ ⊢
  generalize hDD : s₂.heap.objs.size = L at hC hfp ⊢
  have hLC : L ≠ C := by rw [hC]; exact Nat.ne_of_lt (Nat.lt_succ_self _)
  have below : ∀ b o, s₂.heap.get? b = some o → b ≠ C ∧ b ≠ L := fun b o e => by
    have := Heap.lt_size e
    rw [hDD] at this
    exact ⟨by rw [hC]; exact Nat.ne_of_lt (Nat.lt_succ_of_lt this), Nat.ne_of_lt this⟩
  have hLf : L ∉ fp := fun hm => Nat.lt_irrefl _ (hfp _ hm)
  have hCf : C ∉ fp := fun hm => by have := hfp _ hm; rw [hC] at this; exact Nat.lt_irrefl _ (Nat.lt_of_succ_lt this)
  have old₁ : ∀ b o, s₂.heap.get? b = some o → h₁.get? b = some o := fun b o e => hsb₁.extBut b o (below b o e).1 (Heap.get?_push_of_some _ (by rw [← hH2]; exact Heap.get?_push_of_some _ e))
  have hacc : h₁.PlainList L #[] := ⟨_, hsb₁.extBut _ _ hLC (Heap.get?_push_of_some _ (by rw [← hH2, ← hDD]; exact Heap.get?_push_size _ rfl))⟩
  have hst₁ : St 0 h₁ := W.frame _ _ _ hst fun b _ o e => old₁ b o e
  have kk1 := kp_keep k1
  obtain ⟨P0, hP0⟩ : ∃ P0, P0 = compPost (model G.prog G.w) A E none (fun v s' => Keeps s s' ∧ Rep G.H s'.heap (.list (ps.map out)) v) (.ref L) C := ⟨_, rfl⟩
  have loop : ∀ s₃ : Shared, s₃ = { s₂ with heap := h₁, toks := s₂.toks + ([] : List (Str × Value)).length } →
      codeAny (model G.prog G.w) A (.compLoop (.ListComp elt [⟨.Tuple [.Name x px, .Name y py] n tp, iter, [], 0⟩] scope pos) 0 (.ref I) (.ref L) (compEnvC scope (closOf env scope.names []) C env)) P0 s₃ := by
    rintro s₃ rfl
    have hfe : FunEnv scope.names (compEnvC scope (closOf env scope.names []) C env) := comp_fun fe hkind
    have kx : (compEnvC scope (closOf env scope.names []) C env).kindOf x = some .local := lookup_relabel_local hx
    have ky : (compEnvC scope (closOf env scope.names []) C env).kindOf y = some .local := lookup_relabel_local hy
    have hcls : ((compEnvC scope (closOf env scope.names []) C env).scope.kind == .class || ((compEnvC scope (closOf env scope.names []) C env).scope.kind == .module && (compEnvC scope (closOf env scope.names []) C env).locals != (compEnvC scope (closOf env scope.names []) C env).globals)) = false := by
      simp [compEnvC, relabel, hkind]
    generalize hce : compEnvC scope (closOf env scope.names []) C env = cenv at hfe kx ky hcls
    have hcl : cenv.locals = C := by rw [← hce]; rfl
    obtain ⟨Inv, hInv⟩ : ∃ Inv : Nat → Shared → Prop, Inv = fun m s' => ∃ h' tk i m', ∃ ys : List Value, s' = { s₂ with heap := h', toks := tk } ∧ i ≤ ps.length ∧ m = ps.length + 1 - i ∧ St i h' ∧ h'.Ns C m' ∧ h'.PlainList L ys.toArray ∧ Reps G.H h' ((ps.take i).map out) ys ∧
        (∀ b o, b ∉ wr → s₂.heap.get? b = some o → h'.get? b = some o) := ⟨_, rfl⟩
    refine LCp.codeAny_compLoop_pair Inv ?_ (ps.length + 1) (by rw [hInv]; exact ⟨h₁, _, 0, _, [], rfl, Nat.zero_le _, rfl, hst₁, hns₁, hacc, by simp; unfold Reps; rfl, fun b o _ e => old₁ b o e⟩)
    intro m s' hI
    rw [hInv] at hI
    obtain ⟨h', tk, i, m', ys, rfl, hi, rfl, st, hn, hl, hr, hk⟩ := hI
    have oldk : ∀ b o, s.heap.get? b = some o → b ∉ wr ∧ b ≠ C ∧ b ≠ L := fun b o e => by
      have e1 := kk1 b o e
      have e2 := kp_keep k2 _ _ e1
      exact ⟨fun hb => (by rw [hwr b hb] at e1; cases e1), below b o e2⟩
    by_cases hlt : i < ps.length
    · refine W.item i _ _ _ hlt st fun v h₂ tk₂ hPv st₂ hk₂ => ?_
      obtain ⟨d, hd, hlst⟩ := hP i v hPv
      have ed : d = .tup [ps[i].1, ps[i].2] := by simp [hlt] at hd; exact hd.symm
      subst ed
      have lat : ∀ {hh : Heap}, (∀ b o, b ≠ C → b ≠ L → b ∉ wr → s₁.heap.get? b = some o → hh.get? b = some o) → Later G s₁.heap hh := fun hq b o its nn _ _ e => by
        have e2 := kp_keep k2 _ _ e
        exact hq b o (below b o e2).1 (below b o e2).2 (fun hb => by rw [hwr b hb] at e; cases e) e
      have kA : ∀ b o, b ∉ wr → s₁.heap.get? b = some o → h₂.get? b = some o := fun b o hb e => hk₂ b o hb (hk b o hb (kp_keep k2 _ _ e))
      have rv : Rep G.H h₂ (.tup [ps[i].1, ps[i].2]) v := hlst _ (lat fun b o _ _ hb e => kA b o hb e)
      obtain ⟨oI, nI, hoI, hcI, hcm⟩ := hcalm _ _ st₂
      refine letGo_calm hoI hcI hcm ?_
      rw [arm_assign_Tuple]
      refine wpAny_bind (wpAny_standAt ?_)
      unfold PySem.unpack
      obtain ⟨tg, tl, ti⟩ := tg_of (env := cenv) (elts := [.Name x px, .Name y py]) (xs := [x, y]) rfl
      rw [tl, ti]
      refine wpAny_bind (wpAny_holding (unpackItems_any (ds := [ps[i].1, ps[i].2]) rm.handled (.inr rv) fun vs s₄ kp4 rs4 => ?_))
      obtain ⟨v1, v2, rfl, r1, r2⟩ := reps2 rs4
      have kk4 := kp_keep kp4
      obtain ⟨h₄, tk₄, rfl, kk4'⟩ := kp4
      show wpAny _ A (holding [v2] _ >>= fun _ => _) _ _ _
      have wrC : C ∉ wr := fun hb => by
        have := W.sub C hb; exact hCf this
      have wrL : L ∉ wr := fun hb => hLf (W.sub L hb)
      have hn4 : h₄.Ns C m' := (hn.at' fun o e => hk₂ _ o wrC e).keeps kk4'
      refine wpAny_bind (wpAny_holding (wpAny_bind (wpAny_standAt (wpAny_bindName (wpAny_storeName_local kx (by rw [hcl]; exact hn4) (fun h₅ hn₅ hs₅ => ?_) hcls)))))
      rw [hcl] at hn₅ hs₅
      show wpAny _ A (holding [] _ >>= fun _ => _) _ _ _
      refine wpAny_bind (wpAny_holding (wpAny_bind (wpAny_standAt (wpAny_bindName (wpAny_storeName_local ky (by rw [hcl]; exact hn₅) (fun h₆ hn₆ hs₆ => ?_) hcls)))))
      rw [hcl] at hn₆ hs₆
      refine wpAny_pure ?_
      have k26 : ∀ b o, b ≠ C → h₂.get? b = some o → h₆.get? b = some o := fun b o hb e => hs₆.extBut b o hb (hs₅.extBut b o hb (kk4' b o e))
      have k06 : ∀ b o, s.heap.get? b = some o → h₆.get? b = some o := fun b o e => by
        obtain ⟨w1, w2, w3⟩ := oldk b o e
        exact k26 b o w2 (kA b o w1 (kk1 b o e))
      have ndict : ∀ b o its nn, o.data = .seq its nn → h₄.get? b = some o → b ≠ C := by
        intro b o its nn hd e hb
        subst hb
        obtain ⟨o', es', ep', ho', hd', _⟩ := hn4
        rw [e] at ho'; cases ho'
        rw [hd'] at hd; cases hd
      have tr : ∀ {d : D} {v : Value}, Rep G.H h₄ d v → Rep G.H h₆ d v := fun r => r.mono
        (fun b o its nn _ hd e => hs₆.extBut b o (ndict b o its nn hd e) (hs₅.extBut b o (ndict b o its nn hd e) e))
        (fun b o its nn _ hd e => hs₆.extBut b o (ndict b o its nn hd e) (hs₅.extBut b o (ndict b o its nn hd e) e))
      obtain ⟨hev, hsc⟩ := helt ps[i] (List.getElem_mem hlt)
      have her := two_rep (H := G.H) (d1 := ps[i].1) (d2 := ps[i].2) kx ky (by rw [hcl]; exact hn₆) (by simp) (by simp [hxy]) (tr r1) (tr r2)
      refine wpAny_mono (hev.run A _ cenv _ rm hfe (ha.hp k06) her) (fun u s₇ q7 => ?_) fun _ _ e => e
      obtain ⟨⟨h₇, tk₇, rfl, kk7⟩, ru⟩ := q7
      have hl7 : h₇.PlainList L ys.toArray := by
        obtain ⟨nn, e⟩ := hl
        exact ⟨nn, kk7 _ _ (k26 _ _ hLC (hk₂ _ _ wrL e))⟩
      have hlen2 : ys.length ≤ ps.length := by
        have := hr.length
        rw [this]; simp; lia
      refine wpAny_list_append_plain (hsz := by rw [List.size_toArray]; exact le_sizeLine (Nat.le_trans hlen2 (hlen ▸ hit.size))) hl7 fun h₈ hl₈ hs₈ => ?_
      refine ⟨ps.length + 1 - (i + 1), by lia, ?_⟩
      rw [hInv]
      refine ⟨h₈, tk₇, i + 1, _, ys ++ [u], rfl, hlt, rfl, ?_, ((hn₆.keeps kk7).sameBut hs₈ (Ne.symm hLC)), by simpa using hl₈, ?_, ?_⟩
      · exact W.frame _ _ _ st₂ fun b hb o e => hs₈.extBut b o (fun q => hLf (q ▸ hb)) (kk7 _ _ (k26 _ _ (fun q => hCf (q ▸ hb)) e))
      · have e1 : (ps.take (i + 1)).map out = (ps.take i).map out ++ [out ps[i]] := by rw [List.take_succ_eq_append_getElem hlt, List.map_append]; rfl
        rw [e1]
        have e0 : Reps G.H h₈ ((ps.take i).map out) ys := by
          refine Reps.scal (fun d hd => ?_) hr
          obtain ⟨p, hp, rfl⟩ := List.mem_map.mp hd
          exact (helt p (List.mem_of_mem_take hp)).2
        exact Reps.snoc e0 (ru.scal hsc)
      · intro b o hb e
        have hbC := (below b o e)
        exact hs₈.extBut b o hbC.2 (kk7 _ _ (k26 _ _ hbC.1 (hk₂ _ _ hb (hk _ _ hb e))))
    · have ei : i = ps.length := by lia
      subst ei
      refine W.done _ _ _ st fun h₂ tk₂ hk₂ => ?_
      have wrC : C ∉ wr := fun hb => hCf (W.sub C hb)
      have wrL : L ∉ wr := fun hb => hLf (W.sub L hb)
      rw [hP0]
      refine ⟨m', (hn.at' fun o e => hk₂ _ o wrC e), fun h₃ hs₃ => ?_⟩
      have kk : ∀ b o, s.heap.get? b = some o → h₃.get? b = some o := fun b o e => by
        obtain ⟨w1, w2, w3⟩ := oldk b o e
        exact hs₃.extBut b o w2 (hk₂ b o w1 (hk b o w1 (kp_keep k2 _ _ (kk1 b o e))))
      have kp : Keeps s { s₂ with heap := h₃, toks := tk₂ } := by
        obtain ⟨hh, tt, e2, _⟩ := kp_trans k1 k2
        exact ⟨h₃, tk₂, by rw [e2], kk⟩
      refine ⟨kp, ?_⟩
      unfold Rep
      refine ⟨L, ys, rfl, fun hm => ?_, ?_, ?_⟩
      · obtain ⟨o, e⟩ := ha.live L hm
        exact (oldk L o e).2.2 rfl
      · obtain ⟨nn, e⟩ := hl
        exact ⟨nn, hs₃.extBut _ _ hLC (hk₂ _ _ wrL e)⟩
      · rw [List.take_length] at hr
        refine Reps.scal (fun d hd => ?_) hr
        obtain ⟨p, hp, rfl⟩ := List.mem_map.mp hd
        exact (helt p hp).2
  subst hP0
  exact codeAny_compStart_list (loop _ rfl) (W.self 0 _ _ _ hst₁ (loop _ rfl))
end
end Mine
end

section
open PySem PySem.W PyProof.Rows
set_option Elab.async false
set_option linter.unusedVariables false
namespace Mine
set_option maxRecDepth 100000

/-- xs[:] = ys -/
theorem set_all {prog : Program} {w : World} {A : Around} {E : Value → Shared → Prop} {s : Shared} {L sl Y : Addr} {its ys : Array Value} {Q : Unit → Shared → Prop} (hL : s.heap.PlainList L its) (hs : s.heap.IsSliceOf sl .none .none .none) (hY : s.heap.IsList Y ys) (hne : L ≠ Y) (z1 : its.size ≤ 1000) (z2 : ys.size ≤ 1000)
    (h : ∀ h', h'.PlainList L ys → Heap.SameBut L s.heap h' → Q () { s with heap := h' }) : wpAny (model prog w) A (setItem (.ref L) (.ref sl) (.ref Y)) Q E s := by
  obtain ⟨n, ho⟩ := id hL
  obtain ⟨os, hos, hcs, hds⟩ := id hs
  obtain ⟨oy, hoy, hcy, ny, hdy⟩ := id hY
  have hTs : s.TypeIs (.ref sl) "slice" := ⟨os, hos, hcs⟩
  have hTy : s.TypeIs (.ref Y) "list" := ⟨oy, hoy, hcy⟩
  have big : 2000 ≤ sizeLine := by rw [sizeLine_eq]; decide
  unfold setItem
  try with_reducible refine wpAny_holding ?_
  refine wpAny_bind (wpAny_sequenceKey hL.isList.typeIs (by decide) ?_)
  refine wpAny_bind (wpAny_callSpecial?_slot (name := Str.ofString "__setitem__") hL.isList.typeIs slot_list_setitem
    (wpAny_call_entry slot_list_setitem hL.isList.typeIs entry_list_setitem ?_ (args_list_setitem _ _ _)))
  show wpAny _ _ (Builtin.List.listSubscript? (.ref sl) >>= _) _ _ s
  refine wpAny_bind ?_
  unfold Builtin.List.listSubscript?
  refine wpAny_bind (wpAny_specialOf hTs slice_no_index ?_)
  simp only [Option.isNone_none, if_true]
  refine wpAny_pure ?_
  show wpAny _ _ (typeOf (.ref sl) >>= _) _ _ s
  refine wpAny_bind (wpAny_typeOf hTs ?_)
  rw [if_neg (by decide)]
  rw [listSliceParts_eq]
  refine wpAny_bind (wpAny_bind (wpAny_field hos hds (x := .none) rfl (wpAny_bind (wpAny_listPart .none ?_))))
  rw [if_neg (show ¬ ((rawPart none == rawInt 0) = true) from Bool.false_ne_true)]
  refine wpAny_bind (wpAny_field hos hds (x := .none) rfl (wpAny_bind (wpAny_listPart .none ?_)))
  refine wpAny_bind (wpAny_field hos hds (x := .none) rfl (wpAny_bind (wpAny_listPart .none (wpAny_pure ?_))))
  rw [if_neg (by show ¬ ((L == Y) = true); simpa using hne)]
  refine wpAny_bind (m := Builtin.List.listAllItems (.ref Y) "must assign iterable to extended slice") ?_
  unfold Builtin.List.listAllItems
  refine wpAny_bind (wpAny_typeOf hTy ?_)
  rw [if_pos (by decide)]
  unfold Builtin.List.listItems
  refine wpAny_bind (wpAny_seqItems hoy hdy (wpAny_pure ?_))
  refine wpAny_bind (m := Builtin.List.listItems (.ref L)) ?_
  unfold Builtin.List.listItems
  refine wpAny_bind (wpAny_seqItems ho rfl (wpAny_pure ?_))
  refine wpAny_bind (wpAny_of_eq (sliceIndices_raw none none none its.size (by simp)) ?_)
  have eb : sliceBounds none none none its.size = (0, (its.size : Int), 1) := rfl
  rw [eb]
  dsimp only
  rw [if_pos (by decide)]
  refine wpAny_bind (wpAny_rule ?_)
  rw [if_neg (by unfold Builtin.List.listTooLong; simp; lia)]
  have ef : ∀ xs : Array Value, xs = its → (fun xs : Array Value => xs.extract 0 (Int.toNat 0) ++ ys ++ xs.extract (max (0 : Int) (its.size : Int)).toNat) xs = ys := by
    intro xs e
    subst e
    simp
  refine wpAny_bind (m := Builtin.List.listUpdate (.ref L) _) ?_
  unfold Builtin.List.listUpdate
  have hz1 : its.size ≤ sizeLine := by lia
  refine' wpAny_updateSeq (hz := hz1) (_hz' := ?z) ho rfl ?q
  (case z =>
    have := ef its rfl
    dsimp only at this
    rw [this]; lia)
  (case q =>
    refine wpAny_bind (PySem.wpAny_letGo (wpAny_pure ⟨.none, rfl, wpAny_pure (h _ ?_ (Heap.SameBut.update ..))⟩))
    have e1 := ef its rfl
    dsimp only at e1
    refine ⟨if ys.size == its.size then n else n + 1, ?_⟩
    rw [Heap.get?_update_self _ ho rfl]
    show some (Obj.mapSeq _ _) = _
    unfold Obj.mapSeq
    dsimp only
    rw [e1])

/-- what the heap at the start says of the table's place -/
structure GndT (g : Pl) : Prop where
  gnd : Gnd (GT g [])
  fresh : g.hB.get? g.L = none
  hid : g.hB.get? tabA = none
  main : ∃ p loose mean mg mb, Top p loose mean mg mb g.hB
theorem GndT.at {g : Pl} (h : GndT g) (rows : List Row) : Gnd (GT g rows) := ⟨h.gnd.kin, h.gnd.top⟩

section
variable {g : Pl} {rows rows' : List Row} {k : Nat} {nm : List (Str × NameKind)} {ρ : Names} {d d' : D} {ds : List D}
/-- keys -/
theorem keys_ok (h : Gnd (GT g rows)) (hz : rows.length ≤ 1000) : CallOk (GT g rows) 1 (.ref 208) [.ref g.T] (.list (rows.map fun p => .str p.1)) := by
  refine CallOk.def (ns := [Str.ofString "self"]) (h.def (f := 208) rfl (by kernel_rfl)) (fun vs hv => ?_) rfl (by decide) (by decide +kernel) ?_
  · exact binds1 (fun _ => rfl) vs hv
  · have e1 : ((rows.map fun p => (D.str p.1, D.str p.2)).map fun p => D.tup [p.1, p.2]) = rowsD rows := by
      rw [List.map_map]; rfl
    have e2 : ((rows.map fun p => (D.str p.1, D.str p.2)).map fun p : D × D => p.1) = rows.map fun p => .str p.1 := by
      rw [List.map_map]; rfl
    rw [← e2]
    refine Ret.ret (ev_comp2 (rows.map fun p => (D.str p.1, D.str p.2)) (fun p => p.1) ?_ (fun p hp => ⟨?_, ?_⟩) (by decide))
    · rw [e1]; exact Itr.headers hz (ev_headers h (Ev.name rfl))
    · exact Ev.name rfl
    · obtain ⟨q, hq, rfl⟩ := List.mem_map.mp hp
      rfl

theorem at_changed {s s' : Shared} {ys : List Value} (h : GndT g) (a : At (GT g rows) s) (m : ∀ b o, b ≠ g.L → s.heap.get? b = some o → s'.heap.get? b = some o) (pl : s'.heap.PlainList g.L ys.toArray) (r : Reps [g.L] s'.heap (rowsD rows') ys) : At (GT g rows') s' := by
  have t : TabAt g.T g.TD g.L [g.L] (rowsD rows) s.heap := a.tab
  have hT : g.T ≠ g.L := fun e => by
    obtain ⟨vs, n, e1, _⟩ := t.list
    have := t.inst
    rw [e, e1] at this; cases this
  obtain ⟨hs, tk, n, hd⟩ := t.dict
  have hTD : g.TD ≠ g.L := fun e => by
    obtain ⟨vs, n, e1, _⟩ := t.list
    rw [e, e1] at hd; simp at hd
  obtain ⟨nn, e⟩ := pl
  refine ⟨fun b o hb => m b o (fun q => ?_) (a.keep b o hb), fun b hb => ?_, fun b hb => ?_, ⟨m _ _ hT t.inst, ⟨hs, tk, n, m _ _ hTD hd⟩, ys, nn, e, r⟩, a.tabP.soft fun b o vs hf e => m b o (fun q => ?_) e⟩
  · subst q
    have e0 : g.hB.get? g.L = none := h.fresh
    rw [show (GT g rows').hB = g.hB from rfl, e0] at hb; cases hb
  · have hb := List.mem_singleton.mp hb
    subst hb
    exact ⟨_, e⟩
  · have hb : b ∈ [g.T, g.TD] := hb
    simp at hb
    rcases hb with rfl | rfl
    · exact ⟨_, m _ _ hT t.inst⟩
    · exact ⟨_, m _ _ hTD hd⟩
  · obtain ⟨oL, its, nL, hL, hdL, _⟩ := a.listL
    rw [q, hL] at e; cases e
    rw [hdL] at hf; cases hf.1

theorem delItem_own {M : Model} {A : Around} {E : Value → Shared → Prop} {s : Shared} {K : Frag} {x C f : Addr} {ox : Obj} {od : Option Obj} {i : Value} {Q : Unit → Shared → Prop} (X : K.In s.heap) (I : PySem.W.InstAt s.heap x ox C od) (hq : noSeq K C = true)
    (hs : findIn K (.ref C) "__delitem__" = some (some (.ref f))) (hf : isFn K (.ref f) = true) (h : wpAny M A (call (.ref f) [.ref x, i]) (fun _ s' => Q () s') E s) : wpAny M A (delItem (.ref x) i) Q E s := by
  unfold delItem sequenceKey
  refine wpAny_holding (wpAny_bind (wpAny_bind (I.type.here ?_)))
  refine wpAny_bind ((anyM_none X hq).here ?_)
  rw [if_pos (show (!false) = true from rfl)]
  refine wpAny_pure (wpAny_bind (special_fn X I hs (beq_iff_eq.mp hf) (wpAny_mono h (fun v s' z => ?_) fun _ _ z => z)))
  exact wpAny_pure z

/-- del a[b] -/
theorem StM.del {sc : Scope} {a b : Str} {p1 p2 p3 p4 : Pos} {x : Str} (h : Gnd (GT g rows)) (ha : ρ.lookup a = some (.ref g.T)) (hb : ρ.lookup b = some (.str x)) (hc : CallM g rows rows' k (.ref 174) [.ref g.T, .str x] .none)
    (da : (a == ("__debug__" : Str)) = false := by decide) (db : (b == ("__debug__" : Str)) = false := by decide) (hk : sc.kind = .function := by rfl) : StM g rows rows' k sc ρ (.Delete [.Subscript (.Name a p1) (.Name b p2) p3] p4) ρ := .mk fun A E s₀ env s rm de tk f => by
  refine wpAny_Delete (wpAny_deleteEach_cons (wpAny_delete_Subscript ?_))
  refine wpAny_monoT tk ((Ev.name (G := GT g rows) (k := k) (g := sc.names) (pos := p1) ha da).run A _ env s rm (de.fun hk) f.at_ f.rep) (fun v₁ s₁ tk1 q1 => wpAny_monoT tk1 ((Ev.name (G := GT g rows) (k := k) (g := sc.names) (pos := p2) hb db).run A _ env s₁ rm (de.fun hk) (f.of q1.1).at_ (f.of q1.1).rep) (fun v₂ s₂ tk2 q2 => ?_) fun _ _ e => e) fun _ _ e => e
  have f2 := (f.of q1.1).of q2.1
  have e1 := ref_of q1.2
  subst e1
  obtain ⟨hs, tk, n, I⟩ := instT f2.at_
  refine delItem_own (K := KK g.w) (f := 174) (f2.at_.kin h) I rfl rfl rfl ?_
  refine wpAny_mono (hc.run A _ s₂ [.ref g.T, v₂] rm f2.at_ tk2 (reps_cons rep_ref (reps_cons q2.2 (by unfold Reps; rfl)))) (fun v s' z => ?_) fun _ _ e => e
  exact wpAny_deleteEach_nil ⟨rfl, f2.movedH (.mv (Mv.of (kp_trans q1.1 q2.1))) z.1 z.2.1⟩
/-- a[b] = c -/
theorem StM.set {sc : Scope} {a b c : Str} {p1 p2 p3 p4 p5 : Pos} {x y : Str} (h : Gnd (GT g rows)) (ha : ρ.lookup a = some (.ref g.T)) (hb : ρ.lookup b = some (.str x)) (hcc : ρ.lookup c = some (.str y)) (hc : CallM g rows rows' k (.ref 169) [.ref g.T, .str x, .str y] .none)
    (hs : ∀ env, swapsWith (.Name c p5) (some (.Subscript (.Name a p1) (.Name b p2) p3)) p4.line env = pure false := by intro _; rfl)
    (da : (a == ("__debug__" : Str)) = false := by decide) (db : (b == ("__debug__" : Str)) = false := by decide) (dc : (c == ("__debug__" : Str)) = false := by decide) (hk : sc.kind = .function := by rfl) : StM g rows rows' k sc ρ (.Assign [.Subscript (.Name a p1) (.Name b p2) p3] (.Name c p5) p4) ρ := .mk fun A E s₀ env s rm de tk f => by
  refine wpAny_Assign_Subscript ?_ (hs env)
  refine wpAny_monoT tk ((Ev.name (G := GT g rows) (k := k) (g := sc.names) (pos := p5) hcc dc).run A _ env s rm (de.fun hk) f.at_ f.rep) (fun v₀ t₀ tk0 q0 => ?_) fun _ _ e => e
  have f0 := f.of q0.1
  refine wpAny_monoT tk0 ((Ev.name (G := GT g rows) (k := k) (g := sc.names) (pos := p1) ha da).run A _ env t₀ rm (de.fun hk) f0.at_ f0.rep) (fun v₁ s₁ tk1 q1 => wpAny_monoT tk1 ((Ev.name (G := GT g rows) (k := k) (g := sc.names) (pos := p2) hb db).run A _ env s₁ rm (de.fun hk) (f0.of q1.1).at_ (f0.of q1.1).rep) (fun v₂ s₂ tk2 q2 => ?_) fun _ _ e => e) fun _ _ e => e
  have f2 := (f0.of q1.1).of q2.1
  have e1 := ref_of q1.2
  subst e1
  obtain ⟨hs, tk, n, I⟩ := instT f2.at_
  obtain ⟨m, F⟩ := f2.fr
  refine ksp_setItem (K := KK g.w) (f := 169) F (f2.base.kin h) I rfl rfl rfl ?_
  refine wpAny_mono (hc.run A _ s₂ [.ref g.T, v₂, v₀] rm f2.at_ tk2 (reps_cons rep_ref (reps_cons q2.2 (reps_cons ((q0.2.keep (kp_keep q1.1)).keep (kp_keep q2.1)) (by unfold Reps; rfl))))) (fun v s' z => ?_) fun _ _ e => e
  exact ⟨rfl, f2.movedH (.mv (Mv.of (kp_trans q0.1 (kp_trans q1.1 q2.1)))) z.1 z.2.1⟩
end
end Mine
end

section
open PySem PySem.W PyProof.Rows
set_option Elab.async false
set_option linter.unusedVariables false
namespace Mine
set_option maxRecDepth 100000

noncomputable def dropRow (rows : List Row) (key : Str) : List Row := rows.filter fun p => low p.1 != key
theorem rowsD_solid : ∀ rows : List Row, D.solids (rowsD rows) = true
  | [] => rfl
  | p :: r => by
    show D.solids (rowD p :: rowsD r) = true
    simp only [D.solids, rowD, D.solid, Bool.and_true, Bool.true_and]
    exact rowsD_solid r
noncomputable def keepD (key : Str) : D → Bool
  | .tup [.str a, _] => low a != key
  | _ => false
theorem rowsD_keep (rows : List Row) (key : Str) : ((rowsD rows).filter (keepD key)).map id = rowsD (dropRow rows key) := by
  rw [List.map_id]
  unfold rowsD dropRow
  rw [List.filter_map]
  rfl

section
variable {g : Pl} {rows rows' : List Row} {k : Nat} {nm : List (Str × NameKind)} {ρ : Names} {d d' : D} {ds : List D}
/-- self._headers[:] = e -/
theorem StM.slice {sc : Scope} {x : Str} {e : Expr} {p1 p2 p3 p4 p5 : Pos} (h : GndT g) (hx : ρ.lookup x = some (.ref g.T)) (he : Ev (GT g rows) k sc.names ρ e (.list (rowsD rows'))) (hz : rows.length ≤ 1000) (hz' : rows'.length ≤ 1000)
    (hs : ∀ env, swapsWith e (some (.Subscript (.Attribute (.Name x p1) (Str.ofString "_headers") p2) (.Slice none none none p3) p4)) p5.line env = pure false := by intro _; rfl) (dx : (x == ("__debug__" : Str)) = false := by decide) (hk : sc.kind = .function := by rfl) :
    StM g rows rows' k sc ρ (.Assign [.Subscript (.Attribute (.Name x p1) (Str.ofString "_headers") p2) (.Slice none none none p3) p4] e p5) ρ := .mk fun A E s₀ env s rm de tk f => by
  refine wpAny_Assign_Subscript ?_ (hs env)
  refine wpAny_mono (he.run A _ env s rm (de.fun hk) f.at_ f.rep) (fun v₀ t₀ q0 => ?_) fun _ _ e => e
  have f0 := f.of q0.1
  refine wpAny_mono ((ev_headers (p := p1) (pos := p2) (h.at rows) (Ev.name (g := sc.names) (k := k) hx dx)).run A _ env t₀ rm (de.fun hk) f0.at_ f0.rep) (fun v₁ s₁ q1 => ?_) fun _ _ e => e
  have f1 := f0.of q1.1
  have e1 := ref_of q1.2
  subst e1
  refine wpAny_Slice ?_
  rw [evalPart_none]
  refine wpAny_pure (wpAny_pure (wpAny_pure ?_))
  have r0 := q0.2.keep (kp_keep q1.1)
  obtain ⟨Y, ys, rfl, hY, hYl, rY⟩ := list_of r0
  obtain ⟨vs, pl, rs⟩ := f1.at_.rws
  have l1 := rs.length
  have l2 := rY.length
  rw [rowsD_len] at l1 l2
  have hne : g.L ≠ Y := fun q => hY (List.mem_singleton.mpr q.symm)
  obtain ⟨n, ho⟩ := id pl
  refine set_all ⟨n, Heap.get?_push_of_some _ ho⟩ (Heap.IsSliceOf.new ..) (hYl.push _) hne (by simp; lia) (by simp; lia) fun h' pl' sb => ⟨rfl, ?_⟩
  have mL : ∀ b o, b ≠ g.L → s₁.heap.get? b = some o → h'.get? b = some o := fun b o hb e => sb.extBut b o hb (Heap.get?_push_of_some _ e)
  have mv : Mv g s₁ { s₁ with heap := h' } := ⟨⟨h', s₁.toks, rfl⟩, fun b o hb e => mL b o hb.1 e⟩
  have lat : Later (GT g rows) s₁.heap h' := mv.later f1.at_
  exact f1.movedH (.mv (Mv.of (kp_trans q0.1 q1.1))) mv (at_changed h f1.at_ mL pl' (rY.lasts h' lat))

/-- __delitem__ -/
theorem delitem_own (h : GndT g) (hz : rows.length ≤ 1000) (hr : ∀ p ∈ rows, RowOk p) {x : Str} (hx : okChr (low x) 32 127) : CallM g rows (dropRow rows (low x)) 3 (.ref 174) [.ref g.T, .str x] .none := by
  refine CallM.def (ns := [Str.ofString "self", Str.ofString "name"]) ((h.at rows).def (f := 174) rfl (by kernel_rfl)) (fun vs hv => ?_) rfl (by decide) (by decide +kernel) ?_
  · exact binds2 (fun _ _ => rfl) vs hv
  · have hg := h.at rows
    refine' RetM.cons (StM.of (St.assign (d := .str (low x)) (ev_conv (k := 1) hg (.inl ⟨rfl, hx⟩) (Ev.name rfl) (ev_meth (Ev.name rfl) Meth.lower Evs.nil (CallOk.lower hx.tooLong))))) ?_
    refine' RetM.cons (StM.slice h rfl (ev_compE (keepD (low x)) id (Itr.headers hz (ev_headers hg (Ev.name rfl))) (rowsD_keep rows (low x)) (rowsD_solid rows) (fun d hd => ?t) (fun d hd hp => .self _ rfl (by decide) rfl)) hz ?z) RetM.end
    (case t =>
      obtain ⟨p, hp, rfl⟩ := List.mem_map.mp hd
      exact Ifs.one (Tst.cmp (ev_meth (Ev.sub (Ev.name rfl) Ev.int (GetOk.tup (d := .str p.1) (by decide) (by decide) rfl)) Meth.lower Evs.nil (CallOk.lower (hr p hp).low.tooLong)) (Ev.name rfl) CmpOk.sne))
    (case z => exact Nat.le_trans (List.length_filter_le _ _) hz)
/-- self._headers.append(e) -/
theorem EvM.append {s : Str} {e : Expr} {p1 p2 p3 pos : Pos} {x y : Str} (h : GndT g) (hx : Ev (GT g rows) k nm ρ (.Name s p1) (.ref g.T)) (he : Ev (GT g rows) k nm ρ e (.tup [.str x, .str y])) (hz : rows.length < 1000)
    (hse : ∀ env, starEach (e :: []) env = (false, eval e env) :: starEach [] env := by intro _; rfl)
    (hce : ∀ env, ∃ pl, eval (.Call (.Attribute (.Attribute (.Name s p1) (Str.ofString "_headers") p2) (Str.ofString "append") p3) [e] [] pos) env = (do
      let ov ← eval (.Attribute (.Name s p1) (Str.ofString "_headers") p2) env
      standAt p3.atName
      let (f, first) ← holding [ov] (getMethod ov (Str.ofString "append") pl)
      callWith pos f first (backTo pos (starEach [e] env)) []) := by intro _; exact ⟨_, rfl⟩) :
    EvM g rows (rows ++ [(x, y)]) k nm ρ (.Call (.Attribute (.Attribute (.Name s p1) (Str.ofString "_headers") p2) (Str.ofString "append") p3) [e] [] pos) .none := .mk fun A E env s rm fe at' tk hev => by
  obtain ⟨pl, hce⟩ := hce env
  have hg := h.at rows
  refine PyProof.Rows.MethodCall_ (wpAny_mono ((ev_headers hg hx).run A _ env s rm fe at' hev) (fun ov s₁ q => ?_) fun _ _ e => e) hce
  have e := ref_of q.2
  subst e
  have a1 := at'.of q.1
  obtain ⟨vs, ⟨n, ho⟩, rs⟩ := a1.rws
  refine getMethod_builtin (T := "list") ⟨_, ho, rfl⟩ PySem.F.plainAttrs_list PySem.F.slot_list_append PySem.F.type_list_append (fun b e => by cases e; exact ⟨_, ho, rfl⟩) ?_
  have r2 := (Evs.cons he Evs.nil hse).run A E env s₁ pos rm fe a1 (hev.keep (kp_keep q.1))
  refine Calls.callWith_builtin r2.1 (evalArgs_any r2.1 (wpAny_mono r2.2 (fun us s₂ q2 => ?_) fun _ _ e => e))
  obtain ⟨v, rfl, rv⟩ := reps1 q2.2
  have a2 := a1.of q2.1
  obtain ⟨vs2, pl2, rs2⟩ := a2.rws
  have l2 := rs2.length
  rw [rowsD_len] at l2
  refine wpAny_list_append_plain (hsz := le_sizeLine (by simp; lia)) pl2 fun h' pl' sb => ?_
  have mL : ∀ b o, b ≠ g.L → s₂.heap.get? b = some o → h'.get? b = some o := fun b o hb e => sb.extBut b o hb e
  have mv : Mv g s₂ { s₂ with heap := h' } := ⟨⟨h', s₂.toks, rfl⟩, fun b o hb e => mL b o hb.1 e⟩
  have lat : Later (GT g rows) s₂.heap h' := mv.later a2
  have k12 := kp_trans q.1 q2.1
  refine ⟨(Mv.of k12).trans mv, ?_, rep_none⟩
  refine at_changed (ys := vs2 ++ [v]) h a2 mL (by simpa using pl') ?_
  have e3 : rowsD (rows ++ [(x, y)]) = rowsD rows ++ [rowD (x, y)] := by simp [rowsD]
  rw [e3]
  exact Reps.snoc (rs2.lasts h' lat) (rv.later lat)
/-- __setitem__ -/
theorem setitem_own (h : GndT g) (hz : rows.length < 1000) (hr : ∀ p ∈ rows, RowOk p) {x y : Str} (hxy : RowOk (x, y)) : CallM g rows (dropRow rows (low x) ++ [(x, y)]) 4 (.ref 169) [.ref g.T, .str x, .str y] .none := by
  refine CallM.def (ns := [Str.ofString "self", Str.ofString "name", Str.ofString "val"]) ((h.at rows).def (f := 169) rfl (by kernel_rfl)) (fun vs hv => ?_) rfl (by decide) (by decide +kernel) ?_
  · exact binds3 (fun _ _ _ => rfl) vs hv
  · refine' RetM.cons (StM.del (h.at rows) rfl rfl (delitem_own h (by lia) hr hxy.low)) ?_
    have hz2 : (dropRow rows (low x)).length < 1000 := Nat.lt_of_le_of_lt (List.length_filter_le _ _) hz
    generalize dropRow rows (low x) = rows₂ at hz2
    have hg := h.at rows₂
    refine' RetM.cons (StM.expr (EvM.append h (Ev.name rfl) (ev_tup2 (Evs.cons ?a (Evs.cons ?b Evs.nil))) hz2) (fun env de => ?_)) RetM.end
    (case a => refine' ev_conv (k := 2) hg (.inl ⟨rfl, hxy.name⟩) (Ev.name rfl) (Ev.name rfl))
    (case b => refine' ev_conv (k := 2) hg (.inr ⟨rfl, hxy.text⟩) (Ev.name rfl) (Ev.name rfl))
    have := de.scope
    unfold interactive
    rw [this]; rfl
/-- operator.delitem -/
theorem delitem_ok (h : GndT g) (hz : rows.length ≤ 1000) (hr : ∀ p ∈ rows, RowOk p) {x : Str} (hx : okChr (low x) 32 127) : CallM g rows (dropRow rows (low x)) 4 (.ref 94) [.ref g.T, .str x] .none := by
  refine CallM.def (ns := [Str.ofString "a", Str.ofString "b"]) ((h.at rows).def (f := 94) rfl (by kernel_rfl)) (fun vs hv => ?_) rfl (by decide) (by decide +kernel) ?_
  · exact binds2 (fun _ _ => rfl) vs hv
  · exact RetM.cons (StM.del (h.at rows) rfl rfl (delitem_own h hz hr hx)) RetM.end
/-- operator.setitem -/
theorem setitem_ok (h : GndT g) (hz : rows.length < 1000) (hr : ∀ p ∈ rows, RowOk p) {x y : Str} (hxy : RowOk (x, y)) : CallM g rows (dropRow rows (low x) ++ [(x, y)]) 5 (.ref 115) [.ref g.T, .str x, .str y] .none := by
  refine CallM.def (ns := [Str.ofString "a", Str.ofString "b", Str.ofString "c"]) ((h.at rows).def (f := 115) rfl (by kernel_rfl)) (fun vs hv => ?_) rfl (by decide) (by decide +kernel) ?_
  · exact binds3 (fun _ _ _ => rfl) vs hv
  · exact RetM.cons (StM.set (h.at rows) rfl rfl rfl (setitem_own h hz hr hxy)) RetM.end
end
end Mine
end

section
open PySem PySem.W PyProof.Rows
set_option Elab.async false
set_option linter.unusedVariables false
namespace Mine
set_option maxRecDepth 100000

/-! ## enumerate -/
/-- the record of an enumerate -/
noncomputable def enumO (v : Value) (it : Addr) (i : Int) (old : Value) : Obj := { cls := .type "enumerate", dict := none, data := .fields #[v, .bool false, .ref it, rawInt i, .none, old], slots := #[] }

section
variable {prog : Program} {w : World} {A : Around} {E : Value → Shared → Prop} {s : Shared}
/-- the next pair of an enumerated text; the sign's token is told -/
theorem enum_str_next {e it : Addr} {x : Str} {t : Tok} {i c : Nat} {old : Value} {Q : Option Value → Shared → Prop} (he : s.heap.get? e = some (enumO .none it i old)) (hit : s.heap.IsStrIter it "str_ascii_iterator" x t i) (hx : x.cps[i]? = some c) (hne : e ≠ it)
    (hQ : ∀ h', h'.get? e = some (enumO (rawInt s.heap.objs.size) it ((i : Int) + 1) (.str ⟨#[c]⟩ s.toks)) → h'.IsStrIter it "str_ascii_iterator" x t (i + 1) →
      h'.IsTuple s.heap.objs.size #[.int i (s.toks + 1), .str ⟨#[c]⟩ s.toks] → (∀ b o, b ≠ e → b ≠ it → s.heap.get? b = some o → h'.get? b = some o) →
      Q (some (.ref s.heap.objs.size)) { s with heap := h', toks := s.toks + 2 }) : wpAny (model prog w) A (pyNext (.ref e)) Q E s := by
  have hT : s.TypeIs (.ref e) "enumerate" := ⟨_, he, rfl⟩
  unfold pyNext
  refine wpAny_bind (wpAny_attempt (wpAny_callSpecial?_slot (name := Str.ofString "__next__") hT PySem.F.slot_enumerate_next
    (wpAny_call_entry PySem.F.slot_enumerate_next hT PySem.F.entry_enumerate_next ?_ (PySem.F.args_enumerate_next_1 _))))
  obtain ⟨hp, g, d, tk, os⟩ := s
  show wpAny _ _ (field (.ref e) 2 >>= _) _ _ _
  refine wpAny_bind (wpAny_field he rfl (x := .ref it) rfl ?_)
  refine wpAny_bind (wpAny_nextOf_ascii_item hit hx fun h₁ it₁ b₁ => ?_)
  dsimp only at b₁ ⊢
  have e₁ : h₁.get? e = some (enumO .none it i old) := (b₁.2 e hne).trans he
  show wpAny _ _ (field (.ref e) 3 >>= _) _ _ _
  refine wpAny_bind (wpAny_field e₁ rfl (x := rawInt i) rfl ?_)
  show wpAny _ _ (field (.ref e) 4 >>= _) _ _ _
  refine wpAny_bind (wpAny_field e₁ rfl (x := .none) rfl ?_)
  show wpAny _ _ (mkInt i >>= _) _ _ _
  refine wpAny_bind (wpAny_mkInt ?_)
  show wpAny _ _ (setField (.ref e) 3 (rawInt ((i : Int) + 1)) >>= _) _ _ _
  refine wpAny_bind (wpAny_setField_rec e₁ (by simp) fun h₂ e₂ b₂ => ?_)
  dsimp only at b₂ ⊢
  refine wpAny_bind (wpAny_setField_rec e₂ (by simp) fun h₃ e₃ b₃ => ?_)
  dsimp only at b₃ ⊢
  replace e₃ : h₃.get? e = some (enumO .none it ((i : Int) + 1) old) := e₃
  have hsz : h₃.objs.size = hp.objs.size := by rw [b₃.1, b₂.1, b₁.1]
  show wpAny _ _ (newTuple [.int i (tk + 1), .str ⟨#[c]⟩ tk] >>= _) _ _ _
  refine wpAny_bind (wpAny_newTuple ?_)
  dsimp only
  generalize hh₄ : h₃.push { cls := .type "tuple", data := .seq #[.int i (tk + 1), .str ⟨#[c]⟩ tk] } = h₄
  have e₄ : h₄.get? e = some (enumO .none it ((i : Int) + 1) old) := by rw [← hh₄]; exact Heap.get?_push_of_some _ e₃
  have hTp : h₄.IsTuple hp.objs.size #[.int i (tk + 1), .str ⟨#[c]⟩ tk] := ⟨_, by rw [← hh₄, ← hsz]; exact Heap.get?_push_size _ rfl, rfl, 0, rfl⟩
  have k₄ : ∀ b o, b ≠ e → b ≠ it → hp.get? b = some o → h₄.get? b = some o := fun b o q1 q2 q => by
    rw [← hh₄]; exact Heap.get?_push_of_some _ (b₃.extBut b o q1 (b₂.extBut b o q1 (b₁.extBut b o q2 q)))
  have it₄ : h₄.IsStrIter it "str_ascii_iterator" x t (i + 1) := by
    obtain ⟨o, ho, r⟩ := it₁
    exact ⟨o, by rw [← hh₄]; exact Heap.get?_push_of_some _ (b₃.extBut it o (Ne.symm hne) (b₂.extBut it o (Ne.symm hne) ho)), r⟩
  have hel : e ≠ hp.objs.size := Nat.ne_of_lt (Heap.lt_size he)
  rw [hsz]
  refine wpAny_bind (m := Builtin.SmallTypes.ownedTupleIsFree (.ref e)) ?_
  unfold Builtin.SmallTypes.ownedTupleIsFree
  refine wpAny_bind (wpAny_field e₄ rfl (x := .none) rfl (wpAny_pure ?_))
  simp only [if_true]
  refine wpAny_bind (wpAny_rule (wpAny_bind (wpAny_field e₄ rfl (x := old) rfl ?_)))
  refine wpAny_bind (wpAny_setField_rec e₄ (by simp) fun h₅ e₅ b₅ => ?_)
  dsimp only at b₅ ⊢
  refine wpAny_bind (m := Builtin.SmallTypes.ownedTupleHandOut (.ref e) (.ref hp.objs.size)) ?_
  unfold Builtin.SmallTypes.ownedTupleHandOut
  refine wpAny_bind (wpAny_setField_rec e₅ (by simp) fun h₆ e₆ b₆ => ?_)
  dsimp only at b₆ ⊢
  refine wpAny_setField_rec e₆ (by simp) fun h₇ e₇ b₇ => ?_
  dsimp only at b₇ ⊢
  refine wpAny_bind (PySem.wpAny_letGo (wpAny_pure ⟨_, rfl, wpAny_pure (hQ h₇ e₇ ?_ ?_ fun b o q1 q2 q => ?_)⟩))
  · exact ((it₄.extBut b₅.extBut (Ne.symm hne)).extBut b₆.extBut (Ne.symm hne)).extBut b₇.extBut (Ne.symm hne)
  · obtain ⟨o, ho, r⟩ := hTp
    exact ⟨o, b₇.extBut _ _ (Ne.symm hel) (b₆.extBut _ _ (Ne.symm hel) (b₅.extBut _ _ (Ne.symm hel) ho)), r⟩
  · exact b₇.extBut b o q1 (b₆.extBut b o q1 (b₅.extBut b o q1 (k₄ b o q1 q2 q)))
end

/-- a walk over pairs (place, item): the items are such as PV says -/
structure EW (prog : Program) (w : World) (A : Around) (n0 : Nat) (I : Addr) (fp wr : List Addr) (N : Nat) (PV : Nat → Value → Prop) (St : Nat → Heap → Prop) (Mid : Nat → Addr → Heap → Prop) : Prop where
  sub : ∀ b ∈ wr, b ∈ fp
  frame : ∀ i h h', St i h → (∀ b ∈ fp, ∀ o, h.get? b = some o → h'.get? b = some o) → St i h'
  item : ∀ i (s : Shared) (Q : Option Value → Shared → Prop) (E : Value → Shared → Prop), i < N → St i s.heap → n0 ≤ s.toks →
    (∀ T t x h' tk, PV i x → s.heap.objs.size ≤ T → h'.IsTuple T #[.int i t, x] → Mid i T h' → (∀ b o, b ∉ wr → s.heap.get? b = some o → h'.get? b = some o) → Q (some (.ref T)) { s with heap := h', toks := tk }) →
    wpAny (model prog w) A (pyNext (.ref I)) Q E s
  go : ∀ (elts : List Expr) (k : Nat) (pos : Pos) i T (s : Shared) (Q : Unit → Shared → Prop) (E : Value → Shared → Prop), Mid i T s.heap →
    (∀ h', St (i + 1) h' → (∀ b o, b ∉ wr → s.heap.get? b = some o → h'.get? b = some o) → Q () { s with heap := h' }) →
    wpAny (model prog w) A (letOwnedTupleGo (.Tuple elts k pos) (.ref I) (.ref T)) Q E s
  apart : ∀ i T h, Mid i T h → T ∉ wr
  soft : ∀ i h, St i h → ∀ b ∈ wr, ∀ o its n, h.get? b = some o → ¬ Hard o its n
  softM : ∀ i T h, Mid i T h → ∀ b ∈ wr, ∀ o its n, h.get? b = some o → ¬ Hard o its n
  done : ∀ (s : Shared) (Q : Option Value → Shared → Prop) (E : Value → Shared → Prop), St N s.heap →
    (∀ h' tk, (∀ b o, b ∉ wr → s.heap.get? b = some o → h'.get? b = some o) → Q none { s with heap := h', toks := tk }) → wpAny (model prog w) A (pyNext (.ref I)) Q E s

theorem EW.list {prog : Program} {w : World} {A : Around} (n0 : Nat) (hh : A.handled = none) (e it l : Addr) (hei : e ≠ it) (hle : l ≠ e) (hli : l ≠ it) (items : Array Value) :
    EW prog w A n0 e [e, it, l] [e, it] items.size (fun i x => items[i]? = some x)
      (fun i h => (∃ old, h.get? e = some (enumO .none it i old)) ∧ h.IsListIter it l i ∧ h.IsList l items)
      (fun i T h => (∃ x, h.get? e = some (enumO (rawInt T) it ((i : Int) + 1) x)) ∧ h.IsListIter it l (i + 1) ∧ h.IsList l items ∧ T ≠ e ∧ T ≠ it) := by
  have W := WalksT.enumerate (prog := prog) (w := w) hh e it l hei hle hli items
  have sf : ∀ (h : Heap) (j : Nat) (v : Value) (i : Int) (x : Value), h.get? e = some (enumO v it i x) → h.IsListIter it l j → ∀ b ∈ [e, it], ∀ o its n, h.get? b = some o → ¬ Hard o its n := by
    intro h j v i x he hi b hb o its n ho q
    simp at hb
    rcases hb with rfl | rfl
    · rw [he] at ho; cases ho; rcases q with q | ⟨_, q | q⟩ <;> simp [enumO] at q
    · obtain ⟨o', ho', hc, hd⟩ := hi
      rw [ho] at ho'; cases ho'
      rcases q with q | ⟨_, q⟩
      · rw [hd] at q; cases q
      · rw [hc] at q; rcases q with q | q <;> simp at q
  refine ⟨W.sub, W.frame, fun i s Q E hi st _ hQ => W.item i s Q E hi st fun T vals h' tk hp hz hT hm hk => ?_, W.go, W.apart, fun i h st => ?_, fun i T h st => ?_, W.done⟩
  · obtain ⟨t, x, hx, rfl⟩ := hp
    exact hQ T t x h' tk hx hz hT hm hk
  · obtain ⟨⟨old, he⟩, hi, _⟩ := st
    exact sf h _ _ _ _ he hi
  · obtain ⟨⟨x, he⟩, hi, _⟩ := st
    exact sf h _ _ _ _ he hi
theorem EW.str {prog : Program} {w : World} {A : Around} (n0 : Nat) (hh : A.handled = none) (e it : Addr) (x : Str) (t : Tok) (hei : e ≠ it) :
    EW prog w A n0 e [e, it] [e, it] x.cps.size (fun i v => ∃ c u, x.cps[i]? = some c ∧ v = .str ⟨#[c]⟩ u ∧ n0 ≤ u)
      (fun i h => (∃ old, h.get? e = some (enumO .none it i old)) ∧ h.IsStrIter it "str_ascii_iterator" x t i)
      (fun i T h => (∃ y, h.get? e = some (enumO (rawInt T) it ((i : Int) + 1) y)) ∧ h.IsStrIter it "str_ascii_iterator" x t (i + 1) ∧ T ≠ e ∧ T ≠ it) where
  sub := fun b hb => hb
  frame := fun i h h' st hk => by
    obtain ⟨⟨old, he⟩, o, ho, r⟩ := st
    exact ⟨⟨old, hk e (by simp) _ he⟩, o, hk it (by simp) _ ho, r⟩
  item := fun i s Q E hi st tk hQ => by
    obtain ⟨⟨old, he⟩, hs⟩ := st
    refine enum_str_next he hs (c := x.cps[i]) (by simp [hi]) hei fun h' e' s' hT hk => ?_
    have h1 : e < s.heap.objs.size := Heap.lt_size he
    have h2 : it < s.heap.objs.size := by obtain ⟨o, ho, _⟩ := hs; exact Heap.lt_size ho
    exact hQ _ _ _ h' _ ⟨_, _, by simp [hi], rfl, tk⟩ (Nat.le_refl _) hT ⟨⟨_, e'⟩, s', Nat.ne_of_gt h1, Nat.ne_of_gt h2⟩ fun b o hb q => hk b o (fun z => hb (by simp [z])) (fun z => hb (by simp [z])) q
  go := fun elts k pos i T s Q E hm hQ => by
    obtain ⟨⟨y, he⟩, hs, q1, q2⟩ := hm
    refine wpAny_letOwnedTupleGo_enum he fun h' e' b' => hQ h' ⟨⟨y, ?_⟩, hs.extBut b'.extBut (Ne.symm hei)⟩ fun b o hb q => b'.extBut b o (fun z => hb (by simp [z])) q
    have : ((i + 1 : Nat) : Int) = (i : Int) + 1 := by lia
    rw [this]; exact e'
  apart := fun i T h hm hT => by
    obtain ⟨_, _, q1, q2⟩ := hm
    simp at hT
    rcases hT with rfl | rfl
    · exact q1 rfl
    · exact q2 rfl
  soft := fun i h st b hb o its n ho q => by
    obtain ⟨⟨old, he⟩, o', ho', hc, hd⟩ := st
    simp at hb
    rcases hb with rfl | rfl
    · rw [he] at ho; cases ho; rcases q with q | ⟨_, q | q⟩ <;> simp [enumO] at q
    · rw [ho] at ho'; cases ho'
      rcases q with q | ⟨_, q⟩
      · rw [hd] at q; cases q
      · rw [hc] at q; rcases q with q | q <;> simp at q
  softM := fun i T h st b hb o its n ho q => by
    obtain ⟨⟨old, he⟩, ⟨o', ho', hc, hd⟩, _⟩ := st
    simp at hb
    rcases hb with rfl | rfl
    · rw [he] at ho; cases ho; rcases q with q | ⟨_, q | q⟩ <;> simp [enumO] at q
    · rw [ho] at ho'; cases ho'
      rcases q with q | ⟨_, q⟩
      · rw [hd] at q; cases q
      · rw [hc] at q; rcases q with q | q <;> simp at q
  done := fun s Q E st hQ => by
    obtain ⟨⟨old, he⟩, hs⟩ := st
    exact wpAny_pyNext_enum_endD (Draws.strAscii (prog := prog) (w := w) (A := A.in1) hh it x t) he hs fun h' hx => hQ h' s.toks fun b o hb y => hx b o (fun e' => hb (by simp [e'])) y
end Mine
end

section
open PySem PySem.W PyProof.Rows
set_option Elab.async false
set_option linter.unusedVariables false
namespace Mine
set_option maxRecDepth 100000

/-- the source of an enumerated loop -/
structure ESrc (g : Pl) (A : Around) (n0 N : Nat) (PD : Nat → D → Prop) (s : Shared) (it : Value) (s₂ : Shared) : Prop where
  ex : ∃ I fp wr PV St Mid, it = .ref I ∧ EW g.prog g.w A n0 I fp wr N PV St Mid ∧ St 0 s₂.heap ∧ (∀ b ∈ wr, ∀ a o, s.heap.get? a = some o → a < b) ∧
    (∀ b ∈ fp, b ∈ wr ∨ ∃ o its n, s₂.heap.get? b = some o ∧ o.data = .seq its n ∧ b ≠ g.L) ∧ (∀ i v, PV i v → ∃ d, PD i d ∧ ∀ h, Rep [g.L] h d v)

section
variable {g : Pl} {k : Nat} {sc : Scope}
theorem n0E {rows rows' : List Row} {s₀ s s₁ s₂ : Shared} {env : Env} {ρ ρ' : Names} (f : Frm (GT g rows) s₀ env ρ s) {wr : List Addr} (hwr : ∀ b ∈ wr, ∀ a o, s.heap.get? a = some o → a < b) (f' : Frm (GT g rows') s₁ env ρ' s₂) (b : Addr) (hb : b ∈ wr) : s₁.heap.get? b = none := by
  obtain ⟨⟨oL, _, _, hoL, _⟩, _⟩ := f.places
  exact Heap.get?_none_of_le (Nat.le_trans f'.size (Nat.le_of_lt (hwr b hb _ _ hoL)))
theorem fpE {rows : List Row} {s₀ s s₂ : Shared} {env : Env} {ρ ρ' : Names} (f : Frm (GT g rows) s₀ env ρ s) (f2 : Frm (GT g rows) s₀ env ρ' s₂) {fp wr : List Addr} (live : ∀ a o, s.heap.get? a = some o → a ∉ wr)
    (hfo : ∀ b ∈ fp, b ∈ wr ∨ ∃ o its n, s₂.heap.get? b = some o ∧ o.data = .seq its n ∧ b ≠ g.L) (b : Addr) (hb : b ∈ fp) : (b ≠ env.locals ∧ ∀ n c, env.cells.lookup n = some c → b ≠ c) ∧ Nm g b := by
  obtain ⟨ps, hP0, _⟩ := f.at_.tabP.ex
  obtain ⟨ps', hP2, _⟩ := f2.at_.tabP.ex
  rcases hfo b hb with h | ⟨o, its, n, ho, hd, hx⟩
  · exact ⟨f.apL live h, fun e => (f.n5 live b h).2 (by rw [e]; exact .head _), fun e => live _ _ hP0 (e ▸ h)⟩
  · exact ⟨f2.seqL ho hd, hx, fun e => by rw [e, hP2] at ho; cases ho; cases hd⟩
theorem for_enum {x y : Str} {px py tp pos : Pos} {c : Nat} {iter : Expr} {body orelse : List Stmt} (rowsS : Nat → List Row) (ρs : Nat → Names) (PD : Nat → D → Prop) (N M n0 : Nat) (hM : M ≤ N) (h1 : 1 ≤ n0)
    (hs : ([x, y] : List Str).all (storable sc) = true) (hk : sc.kind = .function)
    (turn : ∀ i d, i < M → PD i d → ∃ ρ', StsM g (rowsS i) (rowsS (i + 1)) k sc ((y, d) :: (x, .int i) :: ρs i) body ρ' ∧ Sub (ρs (i + 1)) ρ')
    {A : Around} {E : Value → Shared → Prop} {s₀ : Shared} {env : Env} {s : Shared} (rm : Room A k) (de : DefEnv sc env) (tk : n0 ≤ s.toks) (f : Frm (GT g (rowsS 0)) s₀ env (ρs 0) s) {Q : Flow → Shared → Prop}
    (src : wpAny (model g.prog g.w) A (eval iter env) (fun xv s₁ => wpAny (model g.prog g.w) A (pyIter xv) (fun it s₂ => Keeps s s₂ ∧ ESrc g A n0 N PD s it s₂) E s₁) E s) (hfold : ∀ x env, foldedSetIterable iter env x = pure x)
    (fin : M = N → ∀ E' s₁ s', 1 ≤ s'.toks → Mv g s₀ s₁ → Frm (GT g (rowsS M)) s₁ env (ρs M) s' → HeldM g env s s' → wpAny (model g.prog g.w) A (execs orelse env) Q E' s')
    (back : M < N → ∀ d, PD M d → ∀ E' s₁ s', 1 ≤ s'.toks → Mv g s₀ s₁ → Frm (GT g (rowsS M)) s₁ env ((y, d) :: (x, .int M) :: ρs M) s' → HeldM g env s s' → wpAny (model g.prog g.w) A (execs body env) (fun fl s3 => ∃ v, fl = .ret v ∧ Q (.ret v) s3) E' s') :
    wpAny (model g.prog g.w) A (exec (.For (.Tuple [.Name x px, .Name y py] c tp) iter body orelse pos) env) Q E s := by
  refine wpAny_For (wpAny_monoT tk src (fun xv s₁ tk1 q => wpAny_monoT tk1 q (fun it s₂ tk2 q2 => ?_) fun _ _ e => e) fun _ _ e => e) (fun x => hfold x env)
  have kp := q2.1
  obtain ⟨I, fp, wr, PV, St, Mid, rfl, W, hst, hwr, hfp, hP⟩ := q2.2.ex
  have f2 := f.of kp
  have live : ∀ a o, s.heap.get? a = some o → a ∉ wr := fun a o e h => Nat.lt_irrefl _ (hwr _ h _ _ e)
  have fpL : ∀ b ∈ fp, (b ≠ env.locals ∧ (∀ n c, env.cells.lookup n = some c → b ≠ c)) ∧ Nm g b := fun b hb => fpE f f2 live hfp b hb
  refine codeAny_forLoop_any (fun n s' => ∃ i s₁, i ≤ M ∧ n = N + 1 - i ∧ St i s'.heap ∧ n0 ≤ s'.toks ∧ Mv g s₀ s₁ ∧ Frm (GT g (rowsS i)) s₁ env (ρs i) s' ∧ HeldM g env s s') ?_ (N + 1) ⟨0, s₀, Nat.zero_le _, rfl, hst, tk2, .refl, f2, .mv (Mv.of kp)⟩
  rintro n s' ⟨i, s₁, hi, rfl, st, tki, mi, fi, hd⟩
  by_cases hlt : i < N
  · refine wpAny_with_toks tki (W.item i s' _ _ hlt st tki fun T t v h' tk' hPv hT hTup hm kk tkA => ?_)
    obtain ⟨d, hPD, rd⟩ := hP i v hPv
    have f' := fi.but (tk := tk') kk (f.nL live) (f.nC live) (n0E f hwr fi) (W.soft i _ st) (f.n5 live)
    have hd' : HeldM g env s { s' with heap := h', toks := tk' } := ⟨fun b o h1 h2 h3 e => kk b o (live b o e) (hd.k b o h1 h2 h3 e)⟩
    refine W.go _ _ _ i T _ _ _ hm fun h'' st'' kk' => ?_
    have f'' := f'.but (tk := tk') kk' (f.nL live) (f.nC live) (n0E f hwr f') (W.softM i T _ hm) (f.n5 live)
    have hd'' : HeldM g env s { s' with heap := h'', toks := tk' } := ⟨fun b o h1 h2 h3 e => kk' b o (live b o e) (hd'.k b o h1 h2 h3 e)⟩
    have rT : Rep [g.L] h'' (.tup [.int i, d]) (.ref T) := by
      unfold Rep
      obtain ⟨o, ho, hc, nn, hdd⟩ := hTup
      exact ⟨T, [.int i t, v], rfl, ⟨o, kk' _ _ (W.apart i T _ hm) ho, hc, nn, hdd⟩, reps_cons rep_int (reps_cons (rd _) (by unfold Reps; rfl))⟩
    refine wpAny_with_toks (n := n0) (by exact tkA) ((Put.tup (G := GT g (rowsS i)) (k := k) (xs := [x, y]) (ds := [.int i, d]) (d := .tup [.int i, d]) (.inr rfl) rfl rfl hs hk).run A _ s₁ env (ρs i) _ _ _ rm de f''.base f'' rT fun s4 f4 hl4 tk4 => ?_)
    have st4 : St (i + 1) s4.heap := W.frame _ _ _ st'' fun b hb o e => hl4.k b o (fpL b hb).1.1 (fpL b hb).1.2 e
    have f4' : Frm (GT g (rowsS i)) s₁ env ((y, d) :: (x, .int i) :: ρs i) s4 := f4
    by_cases hiM : i < M
    · obtain ⟨ρ', hb, hsub⟩ := turn i d hiM hPD
      refine wpAny_monoT tk4 (hb.run A _ s₁ env s4 rm de (Nat.le_trans h1 tk4) f4') (fun fl s5 tk5 z => ?_) fun _ _ e => e
      obtain ⟨rfl, s₂', m2, f5, hl5⟩ := z
      refine ⟨_, ?_, i + 1, s₂', hiM, rfl, W.frame _ _ _ st4 fun b hb o e => hl5.k b o (fpL b hb).1.1 (fpL b hb).1.2 (fpL b hb).2 e, tk5, mi.trans m2, f5.weak hsub, (hd''.trans (.of hl4)).trans hl5⟩
      lia
    · have e : i = M := by lia
      subst e
      refine wpAny_mono (back hlt d hPD _ s₁ s4 (Nat.le_trans h1 tk4) mi f4' (hd''.trans (.of hl4))) (fun fl s5 z => ?_) fun _ _ e => e
      obtain ⟨v, rfl, hQ⟩ := z
      exact hQ
  · have e : i = N := by lia
    subst e
    have e : M = i := by lia
    subst e
    refine wpAny_with_toks (n := 1) (Nat.le_trans h1 tki) (W.done s' _ _ st fun h' tk' kk tk3 => ?_)
    exact fin rfl _ _ _ tk3 mi (fi.but (tk := tk') kk (f.nL live) (f.nC live) (n0E f hwr fi) (W.soft _ _ st) (f.n5 live)) ⟨fun b o h1 h2 h3 e => kk b o (live b o e) (hd.k b o h1 h2 h3 e)⟩
end
end Mine
end

section
open PySem PySem.W PyProof.Rows
set_option Elab.async false
set_option linter.unusedVariables false
namespace Mine
set_option maxRecDepth 100000

section
variable {g : Pl} {rows : List Row} {k : Nat} {sc : Scope} {ρ : Names}
/-- enumerate(e), e a list of plain things -/
theorem src_list {e : Expr} {p pos : Pos} {ds : List D} (h : Gnd (GT g rows)) {A : Around} {E : Value → Shared → Prop} {s₀ : Shared} {env : Env} {s : Shared} (n0 : Nat) (rm : Room A k) (de : DefEnv sc env) (f : Frm (GT g rows) s₀ env ρ s) (he : Ev (GT g rows) k sc.names ρ e (.list ds)) (hsc : ∀ d ∈ ds, d.scalar = true)
    (hk : sc.kind = .function := by rfl) (hg : sc.names.lookup (Str.ofString "enumerate") = some .globalImplicit := by rfl) (hse : ∀ env, starEach (e :: []) env = (false, eval e env) :: starEach [] env := by intro _; rfl) :
    wpAny (model g.prog g.w) A (eval (.Call (.Name (Str.ofString "enumerate") p) [e] [] pos) env) (fun xv s₁ => wpAny (model g.prog g.w) A (pyIter xv) (fun it s₂ => Keeps s s₂ ∧ ESrc g A n0 ds.length (fun i d => ds[i]? = some d) s it s₂) E s₁) E s := by
  refine Call_Name rfl (glob_name (G := GT g rows) (h.built (x := Str.ofString "enumerate") rfl rfl (by decide)) (de.fun hk) f.at_ hg (by decide) ?_)
  have r2 := (Evs.cons he Evs.nil hse).run A E env s pos rm (de.fun hk) f.at_ f.rep
  refine callWith_any (G := GT g rows) r2.1 (.type _) (wpAny_mono r2.2 (fun vs s₁ q => ⟨f.at_.of q.1, ?_⟩) fun _ _ e => e)
  obtain ⟨v, rfl, r1⟩ := reps1 q.2
  obtain ⟨l, vs, rfl, hl, hL, rs⟩ := list_of r1
  refine call_enumerate_list hL fun h' he' hit hsz hk' => ?_
  refine wpAny_pyIter_enum he' ?_
  have hlt : l < s₁.heap.objs.size := by obtain ⟨o, ho, _⟩ := hL; exact Heap.lt_size ho
  have W := EW.list (prog := g.prog) (w := g.w) n0 rm.handled (s₁.heap.objs.size + 1) s₁.heap.objs.size l (Nat.succ_ne_self _) (Nat.ne_of_lt (Nat.lt_succ_of_lt hlt)) (Nat.ne_of_lt hlt) vs.toArray
  rw [show vs.toArray.size = ds.length by rw [List.size_toArray, rs.length]] at W
  refine ⟨kp_trans q.1 ⟨h', s₁.toks, rfl, hk'⟩, _, _, _, _, _, _, rfl, W, ⟨⟨_, he'⟩, hit, by obtain ⟨o, ho, r⟩ := hL; exact ⟨o, hk' _ _ ho, r⟩⟩, ?_, ?_, ?_⟩
  · intro b hb a o e
    have := Heap.lt_size (kp_keep q.1 _ _ e)
    simp at hb
    rcases hb with rfl | rfl
    · exact Nat.lt_succ_of_lt this
    · exact this
  · intro b hb
    simp at hb
    rcases hb with rfl | rfl | rfl
    · exact .inl (by simp)
    · exact .inl (by simp)
    · obtain ⟨o, ho, _, n, hd⟩ := hL
      exact .inr ⟨o, _, n, hk' _ _ ho, hd, fun e => hl (List.mem_singleton.mpr e)⟩
  · intro i v hv
    have hi : i < ds.length := by rw [← rs.length]; have := (Array.getElem?_eq_some_iff.mp hv).1; simpa using this
    obtain ⟨u, hu, ru⟩ := rs.get (i := i) (d := ds[i]) (by simp [hi])
    have : u = v := by simp at hv; rw [hu] at hv; cases hv; rfl
    subst this
    exact ⟨ds[i], by simp [hi], fun h => ru.scal (hsc _ (List.getElem_mem hi))⟩
/-- enumerate(x), x a text -/
theorem src_str {e : Expr} {p pos : Pos} {x : Str} (h : Gnd (GT g rows)) {A : Around} {E : Value → Shared → Prop} {s₀ : Shared} {env : Env} {s : Shared} (n0 : Nat) (rm : Room A k) (de : DefEnv sc env) (f : Frm (GT g rows) s₀ env ρ s) (he : Ev (GT g rows) k sc.names ρ e (.str x)) (hx : x.cps.all (· < 128) = true)
    (hk : sc.kind = .function := by rfl) (hg : sc.names.lookup (Str.ofString "enumerate") = some .globalImplicit := by rfl) (hse : ∀ env, starEach (e :: []) env = (false, eval e env) :: starEach [] env := by intro _; rfl) :
    wpAny (model g.prog g.w) A (eval (.Call (.Name (Str.ofString "enumerate") p) [e] [] pos) env) (fun xv s₁ => wpAny (model g.prog g.w) A (pyIter xv) (fun it s₂ => Keeps s s₂ ∧ ESrc g A n0 x.cps.size (fun i d => ∃ c u, x.cps[i]? = some c ∧ d = .cst (.str ⟨#[c]⟩ u) ∧ n0 ≤ u) s it s₂) E s₁) E s := by
  refine Call_Name rfl (glob_name (G := GT g rows) (h.built (x := Str.ofString "enumerate") rfl rfl (by decide)) (de.fun hk) f.at_ hg (by decide) ?_)
  have r2 := (Evs.cons he Evs.nil hse).run A E env s pos rm (de.fun hk) f.at_ f.rep
  refine callWith_any (G := GT g rows) r2.1 (.type _) (wpAny_mono r2.2 (fun vs s₁ q => ⟨f.at_.of q.1, ?_⟩) fun _ _ e => e)
  obtain ⟨v, rfl, r1⟩ := reps1 q.2
  obtain ⟨t, rfl⟩ := str_of r1
  refine call_enumerate_str fun h' he' hit hsz hk' => ?_
  refine wpAny_pyIter_enum he' ?_
  have ety : strIterType x = "str_ascii_iterator" := by unfold strIterType; rw [if_pos hx]
  rw [ety] at hit
  refine ⟨kp_trans q.1 ⟨h', s₁.toks, rfl, hk'⟩, _, _, _, _, _, _, rfl, EW.str (prog := g.prog) (w := g.w) n0 rm.handled (s₁.heap.objs.size + 1) s₁.heap.objs.size x t (Nat.succ_ne_self _), ⟨⟨_, he'⟩, hit⟩, ?_, ?_, ?_⟩
  · intro b hb a o e
    have := Heap.lt_size (kp_keep q.1 _ _ e)
    simp at hb
    rcases hb with rfl | rfl
    · exact Nat.lt_succ_of_lt this
    · exact this
  · intro b hb
    exact .inl hb
  · rintro i v ⟨c, u, hc, rfl, hu⟩
    exact ⟨_, ⟨c, u, hc, rfl, hu⟩, fun h => rep_cst⟩

/-! indexOf -/
theorem none_booked {s : Shared} (h : Gnd (GT g rows)) (a : At (GT g rows) s) : NoneBooked s.heap := by
  obtain ⟨p, loose, mg, mb, T⟩ := h.top
  have X := a.kin h
  have e : nsOkIn (KK g.w) cStatics = true := by kernel_rfl
  refine ⟨s.heap.nsMap cStatics, .of_isNs (isNs_of_in X e), nsMap_none_of_in X e (by rfl)⟩
theorem tok_ne0 {u : Nat} (h : 1 ≤ u) : ((u : Tok) == (0 : Tok)) = false := beq_eq_false_iff_ne.mpr (show u ≠ 0 by lia)
theorem tok_ne {u t : Nat} (h : t < u) : ((u : Tok) == (t : Tok)) = false := beq_eq_false_iff_ne.mpr (show u ≠ t by lia)
theorem tok_or {u t : Nat} (h : 1 ≤ u) (h' : 1 ≤ t) : ((u : Tok) == (0 : Tok) || (t : Tok) == (0 : Tok)) = false := by rw [tok_ne0 h, tok_ne0 h']; rfl
/-- j is b, b a text with another token -/
theorem CmpOk.isStr {x y : Str} {t u : Nat} (ht : 1 ≤ t) (hu : t < u) (hne : (x == y) = false) : CmpOk (GT g rows) k .Is (.cst (.str x u)) (.cst (.str y t)) false := by
  constructor
  intro A E s v₁ v₂ rm ha r₁ r₂
  rw [cst_of r₁, cst_of r₂]
  show wpAny _ _ (isSame (.str x u) (.str y t) >>= fun b => pure (Value.bool b)) _ _ _
  rw [isSame_str_other x y u t (tok_or (by lia) ht) (tok_ne hu) hne]
  exact wpAny_bind (wpAny_pure (wpAny_pure ⟨kp_refl s, rfl⟩))
theorem CmpOk.seqC {x y : Str} {t u : Tok} : CmpOk (GT g rows) k .Eq (.cst (.str x u)) (.cst (.str y t)) (x == y) := by
  constructor
  intro A E s v₁ v₂ rm ha r₁ r₂
  rw [cst_of r₁, cst_of r₂]
  exact PyProof.Rows.eq_str ⟨kp_refl s, rfl⟩
/-- j is b or .., j and b equal texts -/
theorem Tst.isOr {x : Str} {t u : Nat} {l r e2 : Expr} {nm : List (Str × NameKind)} {p1 p2 : Pos} (h : Gnd (GT g rows)) (ht : 1 ≤ t) (hu : t < u) (hl : Ev (GT g rows) k nm ρ l (.cst (.str x u))) (hr : Ev (GT g rows) k nm ρ r (.cst (.str x t))) (h2 : Tst (GT g rows) k nm ρ e2 true)
    (hm : behindInMarks .Is r = false := by with_unfolding_all rfl) : Tst (GT g rows) k nm ρ (.BoolOp .Or [.Compare l [.Is] [r] p1, e2] p2) true := .mk fun A E env s rm fe ha he => by
  refine isTrue_or (wpAny_isTrue_Compare1 (hm := hm) (wpAny_mono (hl.run A E env s rm fe ha he) (fun v₁ s₁ h₁ => wpAny_mono (hr.run A E env s₁ rm fe (ha.of h₁.1) (he.keep (kp_keep h₁.1))) (fun v₂ s₂ h₂ => ?_) fun _ _ e => e) fun _ _ e => e))
  have a2 := (ha.of h₁.1).of h₂.1
  rw [cst_of h₁.2, cst_of h₂.2]
  show wpAny _ _ (isSame (.str x u) (.str x t) >>= fun b => pure (Value.bool b)) _ _ _
  refine wpAny_bind (wpAny_isSame_str (tok_or (by lia) ht) (none_booked h a2) fun b => wpAny_pure ?_)
  have kp := kp_trans h₁.1 h₂.1
  cases b with
  | true => exact wpAny_pure (by simp only [if_true]; exact ⟨kp, trivial⟩)
  | false =>
    refine wpAny_pure ?_
    simp only [Bool.false_eq_true, if_false]
    exact isTrue_or (wpAny_mono (h2.run A E env s₂ rm fe a2 (he.keep (kp_keep kp))) (fun c s₃ q => by
      obtain ⟨kp3, rfl⟩ := q
      simp only [if_true]
      exact ⟨kp_trans kp kp3, trivial⟩) fun _ _ e => e)
/-- operator.indexOf over a text -/
theorem index_str (h : Gnd (GT g rows)) {x : Str} {b i t : Nat} {t0 : Tok} (hx : x.cps.all (· < 128) = true) (hi : x.cps[i]? = some b) (hb : ∀ j, j < i → x.cps[j]? ≠ some b) {A : Around} {E : Value → Shared → Prop} {s : Shared} (rm : Room A 2) (ha : At (GT g rows) s) (ht : 1 ≤ t) (hts : t < s.toks) :
    wpAny (model g.prog g.w) A (call (.ref 108) [.str x t0, .str ⟨#[b]⟩ t]) (fun v s' => Mv g s s' ∧ At (GT g rows) s' ∧ Rep [g.L] s'.heap (.int i) v) E s := by
  have hf : DefAt (GT g rows) 108 _ _ := h.def (f := 108) rfl (by kernel_rfl)
  obtain ⟨o, ho, hd⟩ := hf.obj
  have hilt : i < x.cps.size := (Array.getElem?_eq_some_iff.mp hi).1
  have r : Reps [g.L] s.heap [.str x, .cst (.str ⟨#[b]⟩ t)] [.str x t0, .str ⟨#[b]⟩ t] := reps_cons rep_str (reps_cons rep_cst (by unfold Reps; rfl))
  refine wpAny_call (call_cells rm.d (ha.keep _ _ ho) hd (hf.nolimit.keeps ha.keep) (hf.code.keeps ha.keep) hf.body (binds := ([Str.ofString "a", Str.ofString "b"] : List Str).zip [.str x t0, .str ⟨#[b]⟩ t]) (.of_eq rfl) hf.closure (kinds_of _ (by decide +kernel)) (fun s₁ tk I => ?_) hf.co hf.gen hf.kind)
  obtain ⟨fr, de⟩ := frm_start (G := GT g rows) (ns := [Str.ofString "a", Str.ofString "b"]) hf rfl (by decide) (by decide +kernel) ha r I
  refine wpAny_execs_cons (for_enum (k := 1) (fun _ => rows) (fun _ => ([Str.ofString "a", Str.ofString "b"] : List Str).zip [.str x, .cst (.str ⟨#[b]⟩ t)]) _ x.cps.size i (t + 1) (Nat.le_of_lt hilt) (by lia) (by decide +kernel) rfl ?_ (rm.deeper _) de (Nat.le_trans hts tk) fr (src_str h (t + 1) (rm.deeper _) de fr (Ev.name rfl) hx) (by intro _ _; rfl) (fun e => absurd e (Nat.ne_of_lt hilt)) ?_)
  · rintro j d hj ⟨c, u, hc, rfl, hu⟩
    have hne : c ≠ b := fun e => hb j hj (e ▸ hc)
    have hne' : ((⟨#[c]⟩ : Str) == ⟨#[b]⟩) = false := by
      rw [beq_eq_false_iff_ne]
      intro e
      injection e with e
      simp at e
      exact hne e
    refine ⟨_, StsM.one (StM.ifF (Tst.orF (Tst.cmp (Ev.name rfl) (Ev.name rfl) (CmpOk.isStr ht hu hne')) (Tst.orF (Tst.cast (Tst.cmp (Ev.name rfl) (Ev.name rfl) CmpOk.seqC) hne') Tst.or0)) StsM.nil), ?_⟩
    exact Sub.cons rfl (Sub.cons rfl Sub.nil)
  · rintro _ d ⟨c, u, hc, rfl, hu⟩ E' s₂ s' tk' mv f' _
    rw [hi] at hc; cases hc
    refine wpAny_execs_cons (wpAny_If (wpAny_mono ((Tst.isOr h ht hu (Ev.name rfl) (Ev.name rfl) (Tst.cast (Tst.cmp (Ev.name rfl) (Ev.name rfl) CmpOk.seqC) (by simp))).run _ _ _ s' (rm.deeper _) (de.fun rfl) f'.at_ f'.rep) (fun v s3 q => ?_) fun _ _ e => e))
    obtain ⟨kp, rfl⟩ := q
    simp only [if_true]
    have f3 := f'.of kp
    refine wpAny_execs_cons (wpAny_Return_some (wpAny_mono ((Ev.name (x := Str.ofString "i") (d := .int i) rfl).run _ _ _ s3 (rm.deeper _) (de.fun rfl) f3.at_ f3.rep) (fun v s4 q => ?_) fun _ _ e => e))
    exact ⟨v, rfl, mv.trans (Mv.of (kp_trans f3.kp q.1)), f3.at_.of q.1, q.2⟩
/-- operator.indexOf over a list of bools -/
theorem index_bools (h : Gnd (GT g rows)) {l : List Bool} {i : Nat} (hz : l.length ≤ 1000) (hi : l[i]? = some true) (hb : ∀ j, j < i → l[j]? = some false) : CallM g rows rows 2 (.ref 108) [.list (boolsD l), .bool true] (.int i) := by
  constructor
  intro A E s vs rm ha tk0 r
  have hf : DefAt (GT g rows) 108 _ _ := h.def (f := 108) rfl (by kernel_rfl)
  obtain ⟨o, ho, hd⟩ := hf.obj
  have hilt : i < l.length := (List.getElem?_eq_some_iff.mp hi).1
  have hlen : (boolsD l).length = l.length := by simp [boolsD]
  obtain ⟨v1, v2, rfl, r1, r2⟩ := reps2 r
  refine wpAny_call (call_cells rm.d (ha.keep _ _ ho) hd (hf.nolimit.keeps ha.keep) (hf.code.keeps ha.keep) hf.body (binds := ([Str.ofString "a", Str.ofString "b"] : List Str).zip [v1, v2]) (.of_eq rfl) hf.closure (kinds_of _ (by decide +kernel)) (fun s₁ tk I => ?_) hf.co hf.gen hf.kind)
  obtain ⟨fr, de⟩ := frm_start (G := GT g rows) (ns := [Str.ofString "a", Str.ofString "b"]) hf rfl (by decide) (by decide +kernel) ha r I
  have at_ : ∀ {j : Nat} {d : D}, (boolsD l)[j]? = some d → ∃ c, l[j]? = some c ∧ d = .bool c := by
    intro j d e
    unfold boolsD at e
    rw [List.getElem?_map] at e
    obtain ⟨c, hc, rfl⟩ := Option.map_eq_some_iff.mp e
    exact ⟨c, hc, rfl⟩
  refine wpAny_execs_cons (for_enum (k := 1) (fun _ => rows) (fun _ => ([Str.ofString "a", Str.ofString "b"] : List Str).zip [.list (boolsD l), .bool true]) _ (boolsD l).length i 1 (by lia) (by lia) (by decide +kernel) rfl ?_ (rm.deeper _) de (Nat.le_trans tk0 tk) fr (src_list h 1 (rm.deeper _) de fr (Ev.name rfl) ?_) (by intro _ _; rfl) (fun e => absurd e (by lia)) ?_)
  · intro j d hj hd
    obtain ⟨c, hc, rfl⟩ := at_ hd
    rw [hb j hj] at hc; cases hc
    refine ⟨_, StsM.one (StM.ifF (Tst.orF (Tst.cmp (Ev.name rfl) (Ev.name rfl) CmpOk.bis) (Tst.orF (Tst.cmp (Ev.name rfl) (Ev.name rfl) CmpOk.beq) Tst.or0)) StsM.nil), ?_⟩
    exact Sub.cons rfl (Sub.cons rfl Sub.nil)
  · intro d hd
    obtain ⟨c, _, rfl⟩ := List.mem_map.mp hd
    rfl
  · intro _ d hd E' s₂ s' tk' mv f' _
    obtain ⟨c, hc, rfl⟩ := at_ hd
    rw [hi] at hc; cases hc
    refine wpAny_execs_cons (wpAny_If (wpAny_mono ((Tst.orT (Tst.cmp (b := true) (Ev.name rfl) (Ev.name rfl) CmpOk.bis)).run _ _ _ s' (rm.deeper _) (de.fun rfl) f'.at_ f'.rep) (fun v s3 q => ?_) fun _ _ e => e))
    obtain ⟨kp, rfl⟩ := q
    simp only [if_true]
    have f3 := f'.of kp
    refine wpAny_execs_cons (wpAny_Return_some (wpAny_mono ((Ev.name (x := Str.ofString "i") (d := .int i) rfl).run _ _ _ s3 (rm.deeper _) (de.fun rfl) f3.at_ f3.rep) (fun v s4 q => ?_) fun _ _ e => e))
    exact ⟨v, rfl, mv.trans (Mv.of (kp_trans f3.kp q.1)), f3.at_.of q.1, q.2⟩
end
end Mine
end

section
open PySem PySem.W PyProof.Rows
set_option Elab.async false
set_option linter.unusedVariables false
namespace Mine
set_option maxRecDepth 100000

/-! ## texts of numbers -/
noncomputable abbrev sp : Str := Str.ofString " "
theorem sp_cps : sp = ⟨#[32]⟩ := by decide
noncomputable abbrev num (a : Int) : Str := Str.ofString (toString a)
theorem txt3_join (a b c : Int) : txt3 a b c = Str.join sp [num a, num b, num c] := by
  have e : ∀ x y z : Str, x ++ y ++ z = x ++ (y ++ z) := fun x y z => by
    have : (x ++ y ++ z).cps = (x ++ (y ++ z)).cps := by
      rw [Str.cps_append, Str.cps_append, Str.cps_append, Str.cps_append, Array.append_assoc]
    cases h1 : x ++ y ++ z; cases h2 : x ++ (y ++ z)
    rw [h1, h2] at this
    exact congrArg Str.mk this
  rw [join_cons_cons, join_cons_cons, join_one]
  unfold txt3
  rw [e, e, e, e, e]
theorem num_digits {a : Int} (h0 : 0 ≤ a) : ∀ c ∈ (num a).cps.toList, 48 ≤ c ∧ c ≤ 57 := by
  obtain ⟨m, rfl⟩ := Int.eq_ofNat_of_zero_le h0
  intro c hc
  rw [KIN.signs_num] at hc
  obtain ⟨ch, hch, e⟩ := List.mem_map.mp hc
  have r := digit_range (Nat.isDigit_of_mem_toDigits (by decide) (by decide) hch)
  rw [← e]
  exact r
theorem num_len {a : Int} (h0 : 0 ≤ a) (h1 : a < 10000) : (num a).cps.size ≤ 10 := KT.len_num h0 (by lia)
theorem txt3_ok {a b c : Int} (ha : 0 ≤ a ∧ a < 10000) (hb : 0 ≤ b ∧ b < 10000) (hc : 0 ≤ c ∧ c < 10000) : okChr (txt3 a b c) 32 64 := by
  have mem : ∀ x ∈ (txt3 a b c).cps.toList, 32 ≤ x ∧ x < 64 := by
    intro x hx
    unfold txt3 at hx
    rw [mem_cps_append, mem_cps_append, mem_cps_append, mem_cps_append] at hx
    have es : ∀ x ∈ (Str.ofString " ").cps.toList, x = 32 := by decide
    rcases hx with (((hx | hx) | hx) | hx) | hx
    · have := num_digits ha.1 x hx; lia
    · have := es x hx; lia
    · have := num_digits hb.1 x hx; lia
    · have := es x hx; lia
    · have := num_digits hc.1 x hx; lia
  refine ⟨?_, fun i hi => ?_⟩
  · unfold txt3
    rw [Str.cps_append, Str.cps_append, Str.cps_append, Str.cps_append]
    simp only [Array.size_append]
    have e1 := num_len ha.1 ha.2
    have e2 := num_len hb.1 hb.2
    have e3 := num_len hc.1 hc.2
    have e4 : (Str.ofString " ").cps.size = 1 := by decide
    rw [e4]
    show (num a).cps.size + 1 + (num b).cps.size + 1 + (num c).cps.size ≤ 1000
    lia
  · refine mem _ ?_
    rw [Array.getD_eq_getD_getElem?, Array.getElem?_eq_getElem hi]
    simp

/-! the parts of a glued text -/
noncomputable def jn (c : Nat) : List (List Nat) → List Nat
  | [] => []
  | [x] => x
  | x :: y :: r => x ++ c :: jn c (y :: r)
theorem first_part {c : Nat} : ∀ {x y A B : List Nat}, c ∉ x → c ∉ y → x ++ c :: A = y ++ c :: B → x = y ∧ A = B
  | [], [], A, B, _, _, h => ⟨rfl, by simpa using h⟩
  | [], b :: y, A, B, _, hy, h => by
    injection h with h1 _
    exact absurd (h1 ▸ List.mem_cons_self) hy
  | a :: x, [], A, B, hx, _, h => by
    injection h with h1 _
    exact absurd (h1 ▸ List.mem_cons_self) hx
  | a :: x, b :: y, A, B, hx, hy, h => by
    injection h with h1 h2
    subst h1
    obtain ⟨e1, e2⟩ := first_part (fun q => hx (List.mem_cons_of_mem _ q)) (fun q => hy (List.mem_cons_of_mem _ q)) h2
    exact ⟨by rw [e1], e2⟩
theorem jn_inj {c : Nat} : ∀ {ps qs : List (List Nat)}, ps ≠ [] → qs ≠ [] → (∀ p ∈ ps, c ∉ p) → (∀ q ∈ qs, c ∉ q) → jn c ps = jn c qs → ps = qs
  | [], _, h, _, _, _, _ => absurd rfl h
  | _ :: _, [], _, h, _, _, _ => absurd rfl h
  | [x], [y], _, _, _, _, h => by rw [show x = y from h]
  | [x], y :: z :: r, _, _, hp, _, h => by
    have h : x = y ++ c :: jn c (z :: r) := h
    exact absurd (by rw [h]; simp) (hp x (by simp))
  | x :: z :: r, [y], _, _, _, hq, h => by
    have h : x ++ c :: jn c (z :: r) = y := h
    exact absurd (by rw [← h]; simp) (hq y (by simp))
  | x :: x2 :: r, y :: y2 :: r', _, _, hp, hq, h => by
    have h : x ++ c :: jn c (x2 :: r) = y ++ c :: jn c (y2 :: r') := h
    obtain ⟨e1, e2⟩ := first_part (hp x (by simp)) (hq y (by simp)) h
    rw [e1, jn_inj (by simp) (by simp) (fun p hp' => hp p (List.mem_cons_of_mem _ hp')) (fun q hq' => hq q (List.mem_cons_of_mem _ hq')) e2]
theorem jn_join : ∀ ts : List Str, (Str.join sp ts).cps.toList = jn 32 (ts.map fun t => t.cps.toList)
  | [] => by rw [join_nil]; rfl
  | [x] => by rw [join_one]; rfl
  | x :: y :: r => by
    rw [join_cons_cons, cps_toList_append, cps_toList_append, jn_join (y :: r)]
    have e : sp.cps.toList = [32] := by decide
    rw [e]
    show _ = x.cps.toList ++ 32 :: jn 32 _
    simp
theorem str_ext {x y : Str} (h : x.cps.toList = y.cps.toList) : x = y := by
  obtain ⟨a⟩ := x; obtain ⟨b⟩ := y
  have : a = b := Array.ext' h
  rw [this]
theorem split_txt3 {a b c : Int} (ha : 0 ≤ a) (hb : 0 ≤ b) (hc : 0 ≤ c) : Txt.split (txt3 a b c) sp = [num a, num b, num c] := by
  have e1 : Str.join sp (Txt.split (txt3 a b c) sp) = txt3 a b c := StrLaws.join_split _ _
  have e2 : ∀ p ∈ Txt.split (txt3 a b c) sp, 32 ∉ p.cps.toList := by
    have := StrLaws.split_free (txt3 a b c) 32
    rw [← sp_cps] at this
    exact this
  have e3 : 1 ≤ (Txt.split (txt3 a b c) sp).length := split_pos _ _
  generalize Txt.split (txt3 a b c) sp = ps at e1 e2 e3
  rw [txt3_join] at e1
  have e4 := congrArg (fun x : Str => x.cps.toList) e1
  rw [jn_join, jn_join] at e4
  have fr : ∀ {a : Int}, 0 ≤ a → 32 ∉ (num a).cps.toList := fun h q => by have := num_digits h 32 q; lia
  have e5 := jn_inj (c := 32) (by intro q; rw [List.map_eq_nil_iff] at q; rw [q] at e3; simp at e3) (by simp) (fun p hp => by obtain ⟨q, hq, rfl⟩ := List.mem_map.mp hp; exact e2 q hq) (fun p hp => by
    obtain ⟨q, hq, rfl⟩ := List.mem_map.mp hp
    simp at hq
    rcases hq with rfl | rfl | rfl
    · exact fr ha
    · exact fr hb
    · exact fr hc) e4
  have inj : ∀ {l l' : List Str}, l.map (fun t => t.cps.toList) = l'.map (fun t => t.cps.toList) → l = l' := by
    intro l
    induction l with
    | nil => intro l' h; cases l' with
      | nil => rfl
      | cons a r => cases h
    | cons a r ih => intro l' h; cases l' with
      | nil => cases h
      | cons b r' =>
        injection h with h1 h2
        rw [str_ext h1, ih h2]
  exact inj e5
theorem join_txt3 (a b c : Int) : Txt.join sp [num a, num b, num c] = txt3 a b c := by
  rw [txt3_join]
  refine str_ext ?_
  rw [jn_join]
  show ((_ : Array Nat)).toList = _
  unfold Txt.join
  simp [Builtin.Str.glued, jn, sp_cps]
end Mine
end

section
open PySem PySem.W PyProof.Rows
set_option Elab.async false
set_option linter.unusedVariables false
namespace Mine
set_option maxRecDepth 100000

/-! ## the table's colours -/
noncomputable abbrev Tri := Int × Int × Int
noncomputable abbrev Cell := Nat × Bool × Tri
noncomputable def lname (p : Nat) (gr : Bool) : Str := ⟨#[(if gr then 65 else 97) + p]⟩
theorem low_lname {p : Nat} (hp : p < 3) (gr : Bool) : low (lname p gr) = lname p false := by
  have cs : p = 0 ∨ p = 1 ∨ p = 2 := by lia
  rcases cs with rfl | rfl | rfl <;> cases gr <;> decide +kernel
noncomputable def cellRow (e : Cell) : Row := (lname e.1 e.2.1, txt3 e.2.2.1 e.2.2.2.1 e.2.2.2.2)
noncomputable def rowsOf (t : List Cell) : List Row := t.map cellRow
noncomputable def inb (a : Int) : Prop := 0 ≤ a ∧ a < 2000
structure CellOk (e : Cell) : Prop where
  place : e.1 < 3
  a : inb e.2.2.1
  b : inb e.2.2.2.1
  c : inb e.2.2.2.2
theorem lname_ok {p : Nat} (hp : p < 3) (gr : Bool) : okChr (lname p gr) 32 127 := by
  refine ⟨by simp [lname], fun i hi => ?_⟩
  have : i = 0 := by simp [lname] at hi; exact hi
  subst this
  show 32 ≤ (if gr = true then 65 else 97) + p ∧ (if gr = true then 65 else 97) + p < 127
  cases gr <;> simp <;> lia
theorem inb.lt {a : Int} (h : inb a) : 0 ≤ a ∧ a < 10000 := ⟨h.1, by have := h.2; lia⟩
theorem CellOk.row {e : Cell} (h : CellOk e) : RowOk (cellRow e) := ⟨lname_ok h.place _, by show okChr (low (lname e.1 e.2.1)) 32 127; rw [low_lname h.place]; exact lname_ok h.place _, txt3_ok h.a.lt h.b.lt h.c.lt⟩
noncomputable def TOk (t : List Cell) : Prop := t.length ≤ 3 ∧ ∀ e ∈ t, CellOk e
theorem TOk.rows {t : List Cell} (h : TOk t) : ∀ p ∈ rowsOf t, RowOk p := fun p hp => by
  obtain ⟨e, he, rfl⟩ := List.mem_map.mp hp
  exact (h.2 e he).row
theorem TOk.len {t : List Cell} (h : TOk t) : (rowsOf t).length ≤ 3 := by unfold rowsOf; rw [List.length_map]; exact h.1
theorem lname_inj {p q : Nat} : (lname p false == lname q false) = (p == q) := by
  rw [Bool.eq_iff_iff]
  simp only [beq_iff_eq, lname]
  constructor
  · intro h; injection h with h; simp at h; exact h
  · intro h; rw [h]
noncomputable def getT (t : List Cell) (p : Nat) : Option Tri := (t.find? fun e => e.1 == p).map (·.2.2)
noncomputable def partsT (t : List Cell) (p : Nat) : Tri := (getT t p).getD (0, 0, 0)
theorem find_rows {t : List Cell} (h : ∀ e ∈ t, CellOk e) (p : Nat) : findRow (rowsOf t) (lname p false) = (getT t p).map fun q => txt3 q.1 q.2.1 q.2.2 := by
  unfold findRow getT rowsOf
  induction t with
  | nil => rfl
  | cons e r ih =>
    have he := h e (by simp)
    rw [List.map_cons, List.find?_cons, List.find?_cons]
    have : (low (cellRow e).1 == lname p false) = (e.1 == p) := by
      show (low (lname e.1 e.2.1) == _) = _
      rw [low_lname he.place, lname_inj]
    rw [this]
    cases e.1 == p with
    | true => rfl
    | false => exact ih fun x hx => h x (by simp [hx])
noncomputable def dropT (t : List Cell) (p : Nat) : List Cell := t.filter fun e => e.1 != p
theorem drop_rows {t : List Cell} (h : ∀ e ∈ t, CellOk e) (p : Nat) : dropRow (rowsOf t) (lname p false) = rowsOf (dropT t p) := by
  unfold dropRow dropT rowsOf
  induction t with
  | nil => rfl
  | cons e r ih =>
    have he := h e (by simp)
    rw [List.map_cons, List.filter_cons, List.filter_cons]
    have : (low (cellRow e).1 != lname p false) = (e.1 != p) := by
      show (!(low (lname e.1 e.2.1) == _)) = !(e.1 == p)
      rw [low_lname he.place, lname_inj]
    rw [this]
    cases e.1 != p with
    | true => simp only [if_true, List.map_cons]; rw [ih fun x hx => h x (by simp [hx])]
    | false => simp only [Bool.false_eq_true, if_false]; exact ih fun x hx => h x (by simp [hx])

/-- int(word) -/
noncomputable def readD : D → D
  | .str x => .int ((PySem.intText? x).getD 0)
  | _ => .none
theorem readD_num {a : Int} (h : inb a) : readD (.str (num a)) = .int a := by
  show D.int ((PySem.intText? (num a)).getD 0) = _
  rw [KIN.num_reads h.1 (by have := h.2; lia)]; rfl
noncomputable def triD (t : Tri) : D := .list [.int t.1, .int t.2.1, .int t.2.2]
section
variable {g : Pl} {t : List Cell} {k : Nat} {nm : List (Str × NameKind)} {ρ : Names} {d d' : D} {ds : List D}
/-- _law_parts -/
theorem parts_ok (h : Gnd (GT g (rowsOf t))) (ht : TOk t) {p : Nat} (hp : p < 3) (gr : Bool) : CallOk (GT g (rowsOf t)) 8 (.ref 279) [.ref g.T, .str (lname p gr)] (triD (partsT t p)) := by
  have hl := ht.len
  have hx : okChr (low (lname p gr)) 32 127 := by rw [low_lname hp]; exact lname_ok hp _
  have hget := getitem_ok (x := lname p gr) h (by lia) ht.rows hx
  rw [low_lname hp, find_rows ht.2] at hget
  refine CallOk.def (ns := [Str.ofString "table", Str.ofString "name"]) (h.def (f := 279) rfl (by kernel_rfl)) (fun vs hv => ?_) rfl (by decide) (by decide +kernel) ?_
  · exact binds2 (fun _ _ => rfl) vs hv
  · refine' Ret.cons (St.assign (Ev.call (h.glob rfl) (h.callee rfl) (Evs.cons (Ev.name rfl) (Evs.cons (Ev.name rfl) Evs.nil)) (hget.le (by decide)))) ?_
    unfold partsT
    cases hg : getT t p with
    | none =>
      refine' Ret.cast (Ret.ifT (Tst.cmp (Ev.name rfl) Ev.none (CmpOk.isNone rfl)) (Ret.ret (ev_list3 (Evs.cons Ev.int (Evs.cons Ev.int (Evs.cons Ev.int Evs.nil)))))) rfl
    | some q =>
      obtain ⟨a, b, c⟩ := q
      have hq : inb a ∧ inb b ∧ inb c := by
        unfold getT at hg
        obtain ⟨e, he, hq⟩ := Option.map_eq_some_iff.mp hg
        have := ht.2 e (List.mem_of_find?_eq_some he)
        obtain ⟨_, i, j, k⟩ := this
        rw [hq] at i j k
        exact ⟨i, j, k⟩
      obtain ⟨ha, hb, hc⟩ := hq
      refine' Ret.cons (St.ifF (Tst.cmp (Ev.name rfl) Ev.none (CmpOk.isNone rfl)) Sts.nil) ?_
      have ok := txt3_ok ha.lt hb.lt hc.lt
      have hsplit := split_txt3 ha.1 hb.1 hc.1
      have hs : CallOk (GT g (rowsOf t)) 7 (.builtin "str.split") [.str (txt3 a b c), .str sp] (.list [.str (num a), .str (num b), .str (num c)]) := by
        have e1 : Txt.split (txt3 a b c) sp = [num a, num b, num c] := hsplit
        have := CallOk.split (G := GT g (rowsOf t)) (k := 7) (x := txt3 a b c) (y := sp) (by decide) (le_sizeLine ok.1) (by
          have e2 : (Builtin.Str.partsBetween (txt3 a b c) (Builtin.Str.occurrences (txt3 a b c) sp 0 (txt3 a b c).length ((txt3 a b c).length + 1)) sp.length).length ≤ (txt3 a b c).length + 2 := by
            unfold Builtin.Str.partsBetween
            simp only [List.length_map, List.length_zip, List.length_cons, List.length_append, List.length_nil]
            have := StrLaws.occ_length_le (txt3 a b c) sp 0 (txt3 a b c).length ((txt3 a b c).length + 1)
            lia
          have := ok.1
          have e3 : (txt3 a b c).length = (txt3 a b c).cps.size := rfl
          have e4 : 2000 ≤ sizeLine := by rw [sizeLine_eq]; decide
          lia)
        rw [e1] at this
        exact this
      refine' Ret.ret (ev_compE (fun _ => true) readD (Itr.list (ev_meth (Ev.name rfl) Meth.split (Evs.cons Ev.str Evs.nil) hs) (by simp)) ?hr rfl (fun d hd => Ifs.nil) (fun d hd _ => ?he))
      (case hr =>
        show [readD (.str (num a)), readD (.str (num b)), readD (.str (num c))] = _
        rw [readD_num ha, readD_num hb, readD_num hc]
        rfl)
      (case he =>
        simp only [List.mem_cons, List.not_mem_nil, or_false] at hd
        rcases hd with rfl | rfl | rfl
        · rw [readD_num ha]
          exact .scal (Ev.call (h.built rfl rfl (by decide)) (.type _) (Evs.cons (Ev.name rfl) Evs.nil) (CallOk.intS ha.1 (by have := ha.2; lia))) rfl
        · rw [readD_num hb]
          exact .scal (Ev.call (h.built rfl rfl (by decide)) (.type _) (Evs.cons (Ev.name rfl) Evs.nil) (CallOk.intS hb.1 (by have := hb.2; lia))) rfl
        · rw [readD_num hc]
          exact .scal (Ev.call (h.built rfl rfl (by decide)) (.type _) (Evs.cons (Ev.name rfl) Evs.nil) (CallOk.intS hc.1 (by have := hc.2; lia))) rfl)
end
end Mine
end

section
open PySem PySem.W PyProof.Rows
set_option Elab.async false
set_option linter.unusedVariables false
namespace Mine
set_option maxRecDepth 100000

/-! ## the floats of the law -/
/-- int(x) -/
noncomputable def toI (x : UInt64) : Option Int := match Float64.decode x with
  | .fin s m e => some (Float64.truncOf s m e)
  | _ => none
noncomputable def fq (a : Int) : UInt64 := Float64.ofFrac (decide (a < 0) != decide ((2048 : Int) < 0)) a.natAbs (2048 : Int).natAbs
noncomputable def min3 (a b c : Int) : Int := min a (min b c)
noncomputable def max3 (a b c : Int) : Int := max a (max b c)
theorem min3_le (a b c : Int) : min3 a b c ≤ a ∧ min3 a b c ≤ b ∧ min3 a b c ≤ c :=
  ⟨Int.min_le_left _ _, Int.le_trans (Int.min_le_right _ _) (Int.min_le_left _ _), Int.le_trans (Int.min_le_right _ _) (Int.min_le_right _ _)⟩
theorem le_min3 {x a b c : Int} (h1 : x ≤ a) (h2 : x ≤ b) (h3 : x ≤ c) : x ≤ min3 a b c := Int.le_min.mpr ⟨h1, Int.le_min.mpr ⟨h2, h3⟩⟩
theorem min3_eq {x a b c : Int} (h1 : x ≤ a) (h2 : x ≤ b) (h3 : x ≤ c) (h : a = x ∨ b = x ∨ c = x) : min3 a b c = x :=
  Int.le_antisymm (h.elim (fun e => e ▸ (min3_le a b c).1) fun h => h.elim (fun e => e ▸ (min3_le a b c).2.1) fun e => e ▸ (min3_le a b c).2.2) (le_min3 h1 h2 h3)
theorem min3_mem (a b c : Int) : a = min3 a b c ∨ b = min3 a b c ∨ c = min3 a b c := by
  unfold min3
  by_cases h : b ≤ c
  · rw [Int.min_eq_left h]
    by_cases h2 : a ≤ b
    · exact .inl (Int.min_eq_left h2).symm
    · exact .inr (.inl (Int.min_eq_right (Int.le_of_not_le h2)).symm)
  · rw [Int.min_eq_right (Int.le_of_not_le h)]
    by_cases h2 : a ≤ c
    · exact .inl (Int.min_eq_left h2).symm
    · exact .inr (.inr (Int.min_eq_right (Int.le_of_not_le h2)).symm)
theorem max3_ge (a b c : Int) : a ≤ max3 a b c ∧ b ≤ max3 a b c ∧ c ≤ max3 a b c :=
  ⟨Int.le_max_left _ _, Int.le_trans (Int.le_max_left _ _) (Int.le_max_right _ _), Int.le_trans (Int.le_max_right _ _) (Int.le_max_right _ _)⟩
theorem max3_mem (a b c : Int) : a = max3 a b c ∨ b = max3 a b c ∨ c = max3 a b c := by
  unfold max3
  by_cases h : b ≤ c
  · rw [Int.max_eq_right h]
    by_cases h2 : a ≤ c
    · exact .inr (.inr (Int.max_eq_right h2).symm)
    · exact .inl (Int.max_eq_left (Int.le_of_not_le h2)).symm
  · rw [Int.max_eq_left (Int.le_of_not_le h)]
    by_cases h2 : a ≤ b
    · exact .inr (.inl (Int.max_eq_right h2).symm)
    · exact .inl (Int.max_eq_left (Int.le_of_not_le h2)).symm
theorem or3 {P : Int → Prop} {x a b c : Int} (h : a = x ∨ b = x ∨ c = x) (ha : P a) (hb : P b) (hc : P c) : P x :=
  h.elim (fun e => e ▸ ha) fun h => h.elim (fun e => e ▸ hb) fun e => e ▸ hc
theorem bnd3 {a b c M m : Int} (ha : inb a) (hb : inb b) (hc : inb c) (eM : max3 a b c = M) (em : min3 a b c = m) :
    inb M ∧ inb m ∧ (m ≤ a ∧ a ≤ M) ∧ (m ≤ b ∧ b ≤ M) ∧ (m ≤ c ∧ c ≤ M) ∧ (a = M ∨ b = M ∨ c = M) := by
  subst eM em
  have l := min3_le a b c
  have u := max3_ge a b c
  exact ⟨or3 (max3_mem a b c) ha hb hc, or3 (min3_mem a b c) ha hb hc, ⟨l.1, u.1⟩, ⟨l.2.1, u.2.1⟩, ⟨l.2.2, u.2.2⟩, max3_mem a b c⟩
noncomputable abbrev fI (i : Int) : UInt64 := Float64.ofInt i
/-- int(x * 2048 + 0.5) -/
noncomputable def back (x : UInt64) : Option Int := toI (Float64.add (Float64.mul x (fI 2048)) fhalf)
noncomputable def sixthF (r g b : UInt64) : UInt64 := Float64.mul (hsvF r g b).1 f6
noncomputable def awayF (r g b : UInt64) (i : Int) : UInt64 := Float64.abs (Float64.sub (sixthF r g b) (fI (2 * i)))
/-- what the walk wants of the floats of a colour -/
structure FlOk (a b c : Int) : Prop where
  qa : Float64.isInf (fq a) = false
  qb : Float64.isInf (fq b) = false
  qc : Float64.isInf (fq c) = false
  hsv : feq (mn (fq a) (fq b) (fq c)) (mx (fq a) (fq b) (fq c)) = false → Float64.isZero (rangeF (fq a) (fq b) (fq c)) = false ∧ Float64.isZero (mx (fq a) (fq b) (fq c)) = false
  hls : feq (mn (fq a) (fq b) (fq c)) (mx (fq a) (fq b) (fq c)) = false → Float64.isZero (rangeF (fq a) (fq b) (fq c)) = false ∧ Float64.isZero (Float64.add (mx (fq a) (fq b) (fq c)) (mn (fq a) (fq b) (fq c))) = false ∧ Float64.isZero (Float64.sub (Float64.sub f2 (mx (fq a) (fq b) (fq c))) (mn (fq a) (fq b) (fq c))) = false
  val : (hsvF (fq a) (fq b) (fq c)).2.2 = mx (fq a) (fq b) (fq c)
  least : back (Float64.sub (Float64.mul (fI 2) (lightF (fq a) (fq b) (fq c))) (mx (fq a) (fq b) (fq c))) = some (min3 a b c)
  most : back (mx (fq a) (fq b) (fq c)) = some (max3 a b c)
  spread : Float64.isInf (fI (max3 a b c - min3 a b c)) = false
  away : ∃ i, toI (Float64.add (Float64.div (sixthF (fq a) (fq b) (fq c)) (fI 2)) fhalf) = some i ∧ Float64.isInf (fI (2 * i)) = false ∧ (2 * i).natAbs < 2 ^ 64 ∧
    toI (Float64.add (Float64.mul (awayF (fq a) (fq b) (fq c) i) (fI (max3 a b c - min3 a b c))) fhalf) = some (a + b + c - max3 a b c - 2 * min3 a b c)
  paint : (feq (hsvF (fq a) (fq b) (fq c)).2.1 f0 = true ∧ back (mx (fq a) (fq b) (fq c)) = some a ∧ back (mx (fq a) (fq b) (fq c)) = some b ∧ back (mx (fq a) (fq b) (fq c)) = some c) ∨
    (feq (hsvF (fq a) (fq b) (fq c)).2.1 f0 = false ∧ ∃ i, toI (sixthF (fq a) (fq b) (fq c)) = some i ∧ Float64.isInf (fI i) = false ∧
      back (rgbF (hsvF (fq a) (fq b) (fq c)).1 (hsvF (fq a) (fq b) (fq c)).2.1 (hsvF (fq a) (fq b) (fq c)).2.2 i).1 = some a ∧
      back (rgbF (hsvF (fq a) (fq b) (fq c)).1 (hsvF (fq a) (fq b) (fq c)).2.1 (hsvF (fq a) (fq b) (fq c)).2.2 i).2.1 = some b ∧
      back (rgbF (hsvF (fq a) (fq b) (fq c)).1 (hsvF (fq a) (fq b) (fq c)).2.1 (hsvF (fq a) (fq b) (fq c)).2.2 i).2.2 = some c)

section
variable {G : Glo} {k : Nat} {nm : List (Str × NameKind)} {ρ : Names}
theorem CallOk.toI {x : UInt64} {i : Int} (h : Mine.toI x = some i) : CallOk G k (.type "int") [.flt x] (.int i) := by
  unfold Mine.toI at h
  split at h
  · rename_i s m e hd
    cases h
    exact CallOk.intF hd
  · cases h
/-- int(e * 2048 + 0.5) -/
theorem ev_back {e : Expr} {p1 p2 p3 p4 p5 pos : Pos} {n1 n2 : Nat} {x : UInt64} {i : Int} (h : Gnd G) (he : Ev G k nm ρ e (.flt x)) (hb : back x = some i) (hk : nm.lookup (Str.ofString "int") = some .globalImplicit := by rfl)
    (hse : ∀ env, starEach (.BinOp (.BinOp e .Mult (.Constant (.int 2048) n1 p2) p3) .Add (.Constant (.float 0x3FE0000000000000) n2 p4) p5 :: []) env = (false, eval (.BinOp (.BinOp e .Mult (.Constant (.int 2048) n1 p2) p3) .Add (.Constant (.float 0x3FE0000000000000) n2 p4) p5) env) :: starEach [] env := by intro _; rfl) :
    Ev G k nm ρ (.Call (.Name (Str.ofString "int") p1) [.BinOp (.BinOp e .Mult (.Constant (.int 2048) n1 p2) p3) .Add (.Constant (.float 0x3FE0000000000000) n2 p4) p5] [] pos) (.int i) :=
  Ev.call (h.built rfl rfl (by decide)) (.type _) (Evs.cons (Ev.bin (Ev.bin he Ev.int (BinOk.fmul_i (by decide +kernel))) Ev.flt BinOk.fadd) Evs.nil hse) (CallOk.toI hb) hk
end

section
variable {g : Pl} {t : List Cell} {k : Nat} {nm : List (Str × NameKind)} {ρ : Names} {d d' : D} {ds : List D}
noncomputable def flD : D → D
  | .int i => .flt (fq i)
  | _ => .none
noncomputable def told (a b c : Int) : Int := worth (min3 a b c) ((max3 a b c - min3 a b c) + (a + b + c - max3 a b c - 2 * min3 a b c))
noncomputable def setW (w : Tri) (p : Nat) (v : Int) : Tri := (if p = 0 then v else w.1, if p = 1 then v else w.2.1, if p = 2 then v else w.2.2)
/-- [truediv(part, 2048) for part in e] -/
theorem sw_none {sc : Scope} {env : Env} {ts : List Expr} {e : Expr} (de : DefEnv sc env) (h : swappedStores ts e { env with scope := sc } = pure none) : swappedStores ts e env = pure none := by
  have hsc := de.scope
  subst hsc
  exact h
/-- _law_retold -/
theorem tell_b {a b c : Int} (ha : inb a) (hb : inb b) (hc : inb c) : (0 ≤ min3 a b c ∧ min3 a b c < 10000) ∧
    (0 ≤ (max3 a b c - min3 a b c) + (a + b + c - max3 a b c - 2 * min3 a b c) ∧ (max3 a b c - min3 a b c) + (a + b + c - max3 a b c - 2 * min3 a b c) < 10000) := by
  obtain ⟨hM, hm, l1, l2, l3, cs⟩ := bnd3 ha hb hc rfl rfl
  have h1 := hM.2; have h2 := hm.1; have h3 := hm.2; have h4 := ha.2; have h5 := hb.2; have h6 := hc.2
  clear ha hb hc hM hm
  generalize max3 a b c = M at *
  generalize min3 a b c = m at *
  lia
theorem retold_ok (h : Gnd (GT g (rowsOf t))) (ht : TOk t) {p : Nat} (hp : p < 3) (w : Tri) {a b c : Int} (hpt : partsT t p = (a, b, c)) (fl : FlOk a b c) (ha : inb a) (hb : inb b) (hc : inb c) : CallOk (GT g (rowsOf t)) 10 (.ref 284) [.ref g.T, triD w, .int p] (triD (setW w p (told a b c))) := by
  have hparts := parts_ok h ht hp true
  rw [hpt] at hparts
  obtain ⟨w0, w1, w2⟩ := w
  refine CallOk.def (ns := [Str.ofString "table", Str.ofString "worths", Str.ofString "place"]) (h.def (f := 284) rfl (by kernel_rfl)) (fun vs hv => ?_) rfl (by decide) (by decide +kernel) ?_
  · exact binds3 (fun _ _ _ => rfl) vs hv
  · have hABC : (Str.ofString "ABC").cps[(p : Int).toNat]? = some (65 + p) := by
      have cs : p = 0 ∨ p = 1 ∨ p = 2 := by lia
      rcases cs with rfl | rfl | rfl <;> decide
    refine' Ret.cons (St.tup (xs := [Str.ofString "red", Str.ofString "green", Str.ofString "blue"]) (ds := [.flt (fq a), .flt (fq b), .flt (fq c)]) (.inl ?e) rfl rfl (by decide +kernel) (by intro _; rfl) (fun env de => sw_none de rfl)) ?_
    (case e =>
      refine' ev_compE (fun _ => true) flD (Itr.list (Ev.call (h.glob rfl) (h.callee rfl) (Evs.cons (Ev.name rfl) (Evs.cons (Ev.sub Ev.str (Ev.name rfl) (GetOk.str (by lia) (by lia) hABC)) Evs.nil)) (hparts.le (by decide))) (by simp)) rfl rfl (fun d hd => Ifs.nil) (fun d hd _ => ?_)
      have tq : ∀ {x : Int}, Float64.isInf (fq x) = false → CallOk (GT g (rowsOf t)) 9 (.ref 73) [.int x, .int 2048] (.flt (fq x)) := fun hi => (truediv_ok h _ 2048 (by decide) hi).le (by decide)
      simp only [List.mem_cons, List.not_mem_nil, or_false] at hd
      rcases hd with rfl | rfl | rfl
      · exact .scal (Ev.call (h.glob rfl) (h.callee rfl) (Evs.cons (Ev.name rfl) (Evs.cons Ev.int Evs.nil)) (tq fl.qa)) rfl
      · exact .scal (Ev.call (h.glob rfl) (h.callee rfl) (Evs.cons (Ev.name rfl) (Evs.cons Ev.int Evs.nil)) (tq fl.qb)) rfl
      · exact .scal (Ev.call (h.glob rfl) (h.callee rfl) (Evs.cons (Ev.name rfl) (Evs.cons Ev.int Evs.nil)) (tq fl.qc)) rfl)
    have hsv := hsv_ok h (fq a) (fq b) (fq c) fl.hsv
    rw [fl.val] at hsv
    obtain ⟨hh, ss, hls⟩ := hls_ok h (fq a) (fq b) (fq c) fl.hls
    refine' Ret.cons (St.tup (xs := [Str.ofString "hue", Str.ofString "share", Str.ofString "value"]) (ds := [.flt (hsvF (fq a) (fq b) (fq c)).1, .flt (hsvF (fq a) (fq b) (fq c)).2.1, .flt (mx (fq a) (fq b) (fq c))]) (.inr (Ev.call (h.glob rfl) (h.callee rfl) (Evs.cons (Ev.name rfl) (Evs.cons (Ev.name rfl) (Evs.cons (Ev.name rfl) Evs.nil))) (hsv.le (by decide)))) rfl rfl (by decide +kernel) (by intro _; rfl) (fun env de => sw_none de rfl)) ?_
    refine' Ret.cons (St.assign (d := .flt (lightF (fq a) (fq b) (fq c))) (Ev.sub (Ev.call (h.glob rfl) (h.callee rfl) (Evs.cons (Ev.name rfl) (Evs.cons (Ev.name rfl) (Evs.cons (Ev.name rfl) Evs.nil))) (hls.le (by decide))) Ev.int (GetOk.tup (by decide) (by decide) rfl))) ?_
    refine' Ret.cons (St.assign (d := .int (min3 a b c)) (ev_back h (Ev.bin (Ev.bin Ev.int (Ev.name rfl) (BinOk.imul_f (by decide +kernel))) (Ev.name rfl) BinOk.fsub) fl.least)) ?_
    refine' Ret.cons (St.assign (d := .int (max3 a b c - min3 a b c)) (Ev.bin (ev_back h (Ev.name rfl) fl.most) (Ev.name rfl) BinOk.sub)) ?_
    refine' Ret.cons (St.assign (d := .flt (sixthF (fq a) (fq b) (fq c))) (Ev.bin (Ev.name rfl) Ev.flt BinOk.fmul)) ?_
    obtain ⟨i, hi, hinf, hbd, hmid⟩ := fl.away
    refine' Ret.cons (St.assign (d := .flt (awayF (fq a) (fq b) (fq c) i)) (Ev.call (h.built rfl rfl (by decide)) (.builtin _) (Evs.cons (Ev.bin (Ev.name rfl) (Ev.bin Ev.int (Ev.call (h.built rfl rfl (by decide)) (.type _) (Evs.cons (Ev.bin (Ev.bin (Ev.name rfl) Ev.int (BinOk.fdiv_i (by decide +kernel) (by decide +kernel))) Ev.flt BinOk.fadd) Evs.nil) (CallOk.toI hi)) (BinOk.mul (.inl (by decide)))) (BinOk.fsub_i hinf)) Evs.nil) CallOk.absF)) ?_
    have hwb := worth_ok h (min3 a b c) ((max3 a b c - min3 a b c) + (a + b + c - max3 a b c - 2 * min3 a b c)) (tell_b ha hb hc).1 (tell_b ha hb hc).2
    refine' Ret.cons (St.assign (d := .int (told a b c)) (Ev.call (h.glob rfl) (h.callee rfl) (Evs.cons (Ev.name rfl) (Evs.cons (Ev.bin (Ev.name rfl) (Ev.call (h.built rfl rfl (by decide)) (.type _) (Evs.cons (Ev.bin (Ev.bin (Ev.name rfl) (Ev.name rfl) (BinOk.fmul_i fl.spread)) Ev.flt BinOk.fadd) Evs.nil) (CallOk.toI hmid)) BinOk.add) Evs.nil)) (hwb.le (by decide)))) ?_
    generalize told a b c = v
    refine' Ret.ret (ev_compE (fun _ => true) (fun d => match d with | .int 0 => .int (setW (w0, w1, w2) p v).1 | .int 1 => .int (setW (w0, w1, w2) p v).2.1 | .int 2 => .int (setW (w0, w1, w2) p v).2.2 | _ => .none) (Itr.range (n := 3) (h.built rfl rfl (by decide)) (Evs.cons Ev.int Evs.nil) (by decide)) rfl rfl (fun d hd => Ifs.nil) (fun d hd _ => ?_))
    rcases mem_upTo3 hd with rfl | rfl | rfl
    · refine' .scal ?_ rfl
      show Ev _ _ _ _ _ (.int (if p = 0 then v else w0))
      by_cases hq : p = 0
      · rw [if_pos hq]
        exact Ev.ifT (Tst.cast (Tst.cmp (Ev.name rfl) (Ev.name rfl) CmpOk.eq) (by rw [hq]; rfl)) (Ev.name rfl)
      · rw [if_neg hq]
        exact Ev.ifF (Tst.cast (Tst.cmp (Ev.name rfl) (Ev.name rfl) CmpOk.eq) (by simp; lia)) (Ev.sub (Ev.name rfl) (Ev.name rfl) (GetOk.list (by decide) (by decide) rfl))
    · refine' .scal ?_ rfl
      show Ev _ _ _ _ _ (.int (if p = 1 then v else w1))
      by_cases hq : p = 1
      · rw [if_pos hq]
        exact Ev.ifT (Tst.cast (Tst.cmp (Ev.name rfl) (Ev.name rfl) CmpOk.eq) (by rw [hq]; rfl)) (Ev.name rfl)
      · rw [if_neg hq]
        exact Ev.ifF (Tst.cast (Tst.cmp (Ev.name rfl) (Ev.name rfl) CmpOk.eq) (by simp; lia)) (Ev.sub (Ev.name rfl) (Ev.name rfl) (GetOk.list (by decide) (by decide) rfl))
    · refine' .scal ?_ rfl
      show Ev _ _ _ _ _ (.int (if p = 2 then v else w2))
      by_cases hq : p = 2
      · rw [if_pos hq]
        exact Ev.ifT (Tst.cast (Tst.cmp (Ev.name rfl) (Ev.name rfl) CmpOk.eq) (by rw [hq]; rfl)) (Ev.name rfl)
      · rw [if_neg hq]
        exact Ev.ifF (Tst.cast (Tst.cmp (Ev.name rfl) (Ev.name rfl) CmpOk.eq) (by simp; lia)) (Ev.sub (Ev.name rfl) (Ev.name rfl) (GetOk.list (by decide) (by decide) rfl))
end
end Mine
end

section
open PySem PySem.W PyProof.Rows
set_option Elab.async false
set_option linter.unusedVariables false
namespace Mine
set_option maxRecDepth 100000

section
variable {g : Pl} {t : List Cell} {k : Nat} {nm : List (Str × NameKind)} {ρ : Names} {d d' : D} {ds : List D}
theorem abc_at {p : Nat} (hp : p < 3) : (Str.ofString "abc").cps[(p : Int).toNat]? = some (97 + p) := by
  have cs : p = 0 ∨ p = 1 ∨ p = 2 := by lia
  rcases cs with rfl | rfl | rfl <;> decide
theorem ABC_at {p : Nat} (hp : p < 3) : (Str.ofString "ABC").cps[(p : Int).toNat]? = some (65 + p) := by
  have cs : p = 0 ∨ p = 1 ∨ p = 2 := by lia
  rcases cs with rfl | rfl | rfl <;> decide
noncomputable def keepP (key : Str) : D → Bool
  | .tup [.str a, _] => low a != key
  | _ => false
theorem keepP_eq : keepP = keepD := rfl
/-- str(int(part * 2048 + 0.5)) -/
noncomputable def strD : D → D
  | .flt x => .str (num ((back x).getD 0))
  | _ => .none
noncomputable def layT (t : List Cell) (p : Nat) (gr : Bool) (c : Tri) : List Cell := if c = (0, 0, 0) then dropT t p else dropT t p ++ [(p, gr, c)]
theorem layT_ok {t : List Cell} {p : Nat} {gr : Bool} {c : Tri} (ht : ∀ e ∈ t, CellOk e) (hp : p < 3) (h1 : inb c.1) (h2 : inb c.2.1) (h3 : inb c.2.2) : ∀ e ∈ layT t p gr c, CellOk e := by
  intro e he
  unfold layT at he
  split at he
  · exact ht e ((List.mem_filter.mp he).1)
  · rcases List.mem_append.mp he with he | he
    · exact ht e ((List.mem_filter.mp he).1)
    · rw [List.mem_singleton] at he
      subst he
      exact ⟨hp, h1, h2, h3⟩
/-- _law_lay -/
theorem lay_ok (hg : GndT g) (ht : ∀ e ∈ t, CellOk e) (hz : t.length ≤ 900) {p : Nat} (hp : p < 3) (gr : Bool) {a b c : Int} (fl : FlOk a b c) (ha : inb a) (hb : inb b) (hc : inb c) :
    CallM g (rowsOf t) (rowsOf (layT t p gr (a, b, c))) 8 (.ref 289) [.ref g.T, .list (rowsD (rowsOf t)), .int p, triD (a, b, c), .bool gr] (.list (rowsD (rowsOf (layT t p gr (a, b, c))))) := by
  have h := hg.at (rowsOf t)
  have hlen : (rowsOf t).length ≤ 900 := by unfold rowsOf; rw [List.length_map]; exact hz
  have hrows : ∀ q ∈ rowsOf t, RowOk q := fun q hq => by
    obtain ⟨e, he, rfl⟩ := List.mem_map.mp hq
    exact (ht e he).row
  have hx : okChr (low (lname p gr)) 32 127 := by rw [low_lname hp]; exact lname_ok hp _
  refine CallM.def (ns := [Str.ofString "table", Str.ofString "row", Str.ofString "place", Str.ofString "parts", Str.ofString "great"]) (h.def (f := 289) rfl (by kernel_rfl)) (fun vs hv => ?_) rfl (by decide) (by decide +kernel) ?_
  · exact binds5 (fun _ _ _ _ _ => rfl) vs hv
  · refine' RetM.cons (StM.of (St.assign (d := .str (lname p gr)) ?e)) ?_
    (case e =>
      cases gr with
      | true => exact Ev.ifT (Tst.plain (Ev.name rfl) TruthOk.bool) (Ev.sub Ev.str (Ev.name rfl) (GetOk.str (by lia) (by lia) (ABC_at hp)))
      | false => exact Ev.ifF (Tst.plain (Ev.name rfl) TruthOk.bool) (Ev.sub Ev.str (Ev.name rfl) (GetOk.str (by lia) (by lia) (abc_at hp))))
    refine' RetM.cons (StM.of (st_compE (keepD (lname p false)) id (Itr.list (Ev.name rfl) (by rw [rowsD_len]; lia)) (rowsD_keep (rowsOf t) (lname p false)) (rowsD_solid _) (fun d hd => ?t) (fun d hd _ => .self _ rfl (by decide) rfl) ?sw)) ?_
    (case sw =>
      intro env de
      have hsc := de.scope
      obtain ⟨sc, _⟩ := env
      simp only at hsc
      subst hsc
      rfl)
    (case t =>
      obtain ⟨q, hq, rfl⟩ := List.mem_map.mp hd
      exact Ifs.one (Tst.cmp (d₂ := .str (lname p false)) (ev_meth (Ev.sub (Ev.name rfl) Ev.int (GetOk.tup (d := .str q.1) (by decide) (by decide) rfl)) Meth.lower Evs.nil (CallOk.lower (hrows q hq).low.tooLong)) (Ev.sub Ev.str (Ev.name rfl) (GetOk.str (by lia) (by lia) (abc_at hp))) CmpOk.sne))
    rw [drop_rows ht]
    have eqv : PyData.eqv (triD (a, b, c)).py (D.list [.int 0, .int 0, .int 0]).py = decide (((a, b, c) : Tri) = (0, 0, 0)) := by
      rw [Bool.eq_iff_iff]
      simp [triD, D.py, D.pys, PyData.eqv, PyData.eqvAll]
    by_cases hzero : ((a, b, c) : Tri) = (0, 0, 0)
    · unfold layT
      rw [if_pos hzero]
      have hdel := delitem_ok (x := lname p gr) hg (rows := rowsOf t) (by lia) hrows hx
      rw [low_lname hp, drop_rows ht] at hdel
      refine' RetM.ifT (Tst.cast (Tst.cmp (Ev.name rfl) (ev_list3 (Evs.cons Ev.int (Evs.cons Ev.int (Evs.cons Ev.int Evs.nil)))) (CmpOk.eqD rfl rfl rfl rfl eqv)) (decide_eq_true hzero)) (RetM.cons (StM.expr (EvM.call (h.glob rfl) (h.callee rfl) (Evs.cons (Ev.name rfl) (Evs.cons (Ev.name rfl) Evs.nil)) (hdel.le (by decide))) (fun env de => ?i)) (RetM.of (Ret.ret (Ev.name rfl)))) (by intro q; cases q)
      (case i =>
        have := de.scope
        unfold interactive
        rw [this]; rfl)
    · unfold layT
      rw [if_neg hzero]
      refine' RetM.cons (StM.of (St.ifF (Tst.cast (Tst.cmp (Ev.name rfl) (ev_list3 (Evs.cons Ev.int (Evs.cons Ev.int (Evs.cons Ev.int Evs.nil)))) (CmpOk.eqD rfl rfl rfl rfl eqv)) (decide_eq_false hzero)) Sts.nil)) ?_
      refine' RetM.cons (StM.of (St.tup (xs := [Str.ofString "red", Str.ofString "green", Str.ofString "blue"]) (ds := [.flt (fq a), .flt (fq b), .flt (fq c)]) (.inl ?e) rfl rfl (by decide +kernel) (by intro _; rfl) (fun env de => sw_none de rfl))) ?_
      (case e =>
        refine' ev_compE (fun _ => true) flD (Itr.list (Ev.name rfl) (by simp)) rfl rfl (fun d hd => Ifs.nil) (fun d hd _ => ?_)
        have tq : ∀ {x : Int}, Float64.isInf (fq x) = false → CallOk (GT g (rowsOf t)) 7 (.ref 73) [.int x, .int 2048] (.flt (fq x)) := fun hi => (truediv_ok h _ 2048 (by decide) hi).le (by decide)
        simp only [List.mem_cons, List.not_mem_nil, or_false] at hd
        rcases hd with rfl | rfl | rfl
        · exact .scal (Ev.call (h.glob rfl) (h.callee rfl) (Evs.cons (Ev.name rfl) (Evs.cons Ev.int Evs.nil)) (tq fl.qa)) rfl
        · exact .scal (Ev.call (h.glob rfl) (h.callee rfl) (Evs.cons (Ev.name rfl) (Evs.cons Ev.int Evs.nil)) (tq fl.qb)) rfl
        · exact .scal (Ev.call (h.glob rfl) (h.callee rfl) (Evs.cons (Ev.name rfl) (Evs.cons Ev.int Evs.nil)) (tq fl.qc)) rfl)
      have hsv := hsv_ok h (fq a) (fq b) (fq c) fl.hsv
      refine' RetM.cons (StM.of (St.tup (xs := [Str.ofString "hue", Str.ofString "share", Str.ofString "value"]) (ds := [.flt (hsvF (fq a) (fq b) (fq c)).1, .flt (hsvF (fq a) (fq b) (fq c)).2.1, .flt (hsvF (fq a) (fq b) (fq c)).2.2]) (.inr (Ev.call (h.glob rfl) (h.callee rfl) (Evs.cons (Ev.name rfl) (Evs.cons (Ev.name rfl) (Evs.cons (Ev.name rfl) Evs.nil))) (hsv.le (by decide)))) rfl rfl (by decide +kernel) (by intro _; rfl) (fun env de => sw_none de rfl))) ?_
      have hrgb : ∃ x y z, back x = some a ∧ back y = some b ∧ back z = some c ∧ CallOk (GT g (rowsOf t)) 7 (.ref 59) [.flt (hsvF (fq a) (fq b) (fq c)).1, .flt (hsvF (fq a) (fq b) (fq c)).2.1, .flt (hsvF (fq a) (fq b) (fq c)).2.2] (.tup [.flt x, .flt y, .flt z]) := by
        rcases fl.paint with ⟨q0, q1, q2, q3⟩ | ⟨q0, i, hi, hinf, q1, q2, q3⟩
        · refine ⟨_, _, _, q1, q2, q3, ?_⟩
          rw [fl.val]
          exact (rgb0_ok h _ _ _ q0).le (by decide)
        · refine ⟨_, _, _, q1, q2, q3, ?_⟩
          unfold Mine.toI at hi
          split at hi
          · rename_i s m e hd
            exact (rgb_ok h _ _ _ q0 hd i (by injection hi) hinf).le (by decide)
          · cases hi
      obtain ⟨x, y, z, hx1, hx2, hx3, hcall⟩ := hrgb
      refine' RetM.cons (StM.of (St.assign (d := .tup [.flt x, .flt y, .flt z]) (Ev.call (h.glob rfl) (h.callee rfl) (Evs.cons (Ev.name rfl) (Evs.cons (Ev.name rfl) (Evs.cons (Ev.name rfl) Evs.nil))) hcall))) ?_
      have hset := setitem_ok (x := lname p gr) (y := txt3 a b c) hg (rows := rowsOf t) (by lia) hrows ⟨lname_ok hp _, hx, txt3_ok ha.lt hb.lt hc.lt⟩
      rw [low_lname hp, drop_rows ht] at hset
      have erow : rowsOf (dropT t p ++ [(p, gr, a, b, c)]) = rowsOf (dropT t p) ++ [(lname p gr, txt3 a b c)] := by
        unfold rowsOf; rw [List.map_append]; rfl
      have erowD : rowsD (rowsOf (dropT t p ++ [(p, gr, a, b, c)])) = rowsD (rowsOf (dropT t p)) ++ [.tup [.str (lname p gr), .str (txt3 a b c)]] := by
        rw [erow]; unfold rowsD; rw [List.map_append]; rfl
      rw [erowD, erow]
      refine' RetM.cons (StM.expr (EvM.call (h.glob rfl) (h.callee rfl) (Evs.cons (Ev.name rfl) (Evs.cons (Ev.name rfl) (Evs.cons ?txt Evs.nil))) (hset.le (by decide))) (fun env de => ?i)) ?_
      (case i =>
        have := de.scope
        unfold interactive
        rw [this]; rfl)
      (case txt =>
        have hj : CallOk (GT g (rowsOf t)) 7 (.builtin "str.join") [.str sp, .list [.str (num a), .str (num b), .str (num c)]] (.str (txt3 a b c)) := by
          have := CallOk.join (G := GT g (rowsOf t)) (k := 7) (x := sp) (l := [num a, num b, num c]) (by decide) (by
            have e1 := num_len ha.lt.1 ha.lt.2
            have e2 := num_len hb.lt.1 hb.lt.2
            have e3 := num_len hc.lt.1 hc.lt.2
            show ((num a).cps.size + ((num b).cps.size + ((num c).cps.size + 0))) + 3 ≤ _
            lia)
          rw [join_txt3] at this
          exact this
        refine' ev_meth Ev.str Meth.join (Evs.cons (ev_compE (fun _ => true) strD (Itr.tup (Ev.name rfl) (by simp)) ?hr rfl (fun d hd => Ifs.nil) (fun d hd _ => ?he)) Evs.nil) hj
        (case hr =>
          show [D.str (num ((back x).getD 0)), D.str (num ((back y).getD 0)), D.str (num ((back z).getD 0))] = _
          rw [hx1, hx2, hx3]; rfl)
        (case he =>
          have lg : ∀ {v : Int}, inb v → v.natAbs.log2 < 1920 := by
            intro v hv
            have h1 := hv.1
            have h2 := hv.2
            by_cases hv0 : v.natAbs = 0
            · rw [hv0]; decide
            · have := (Nat.log2_lt hv0 (k := 11)).mpr (show v.natAbs < 2 ^ 11 by lia)
              lia
          have one : ∀ {x : UInt64} {v : Int}, back x = some v → inb v → strD (.flt x) = .str (num v) := by
            intro x v e _
            show D.str (num ((back x).getD 0)) = _
            rw [e]; rfl
          simp only [List.mem_cons, List.not_mem_nil, or_false] at hd
          rcases hd with rfl | rfl | rfl
          · rw [one hx1 ha]
            refine' .scal (Ev.call (h.built rfl rfl (by decide)) (.type _) (Evs.cons ?_ Evs.nil) (CallOk.strI (lg ha))) rfl
            exact ev_back h (Ev.name rfl) hx1
          · rw [one hx2 hb]
            refine' .scal (Ev.call (h.built rfl rfl (by decide)) (.type _) (Evs.cons ?_ Evs.nil) (CallOk.strI (lg hb))) rfl
            exact ev_back h (Ev.name rfl) hx2
          · rw [one hx3 hc]
            refine' .scal (Ev.call (h.built rfl rfl (by decide)) (.type _) (Evs.cons ?_ Evs.nil) (CallOk.strI (lg hc))) rfl
            exact ev_back h (Ev.name rfl) hx3))
      have h2 := hg.at (rowsOf (dropT t p) ++ [(lname p gr, txt3 a b c)])
      have hl2 : (rowsOf (dropT t p)).length ≤ 900 := by
        unfold rowsOf dropT
        rw [List.length_map]
        exact Nat.le_trans (List.length_filter_le _ _) hz
      refine' RetM.of (Ret.ret (Ev.bin (Ev.name rfl) (ev_list1 (Evs.cons (ev_tup2 (Evs.cons (Ev.name rfl) (Evs.cons (Ev.bin (Ev.cast Ev.str (congrArg D.str (by decide))) (Ev.call (h2.built rfl rfl (by decide)) (.type _) (Evs.cons (Ev.name rfl) Evs.nil) (CallOk.tupL (by simp))) (BinOk.pct ha.lt.1 ha.lt.2 hb.lt.1 hb.lt.2 hc.lt.1 hc.lt.2)) Evs.nil))) Evs.nil)) (BinOk.addL ?_)))
      rw [rowsD_len]
      simp
      lia
end
end Mine
end

section
open PySem PySem.W PyProof.Rows
set_option Elab.async false
set_option linter.unusedVariables false
namespace Mine
set_option maxRecDepth 100000

/-! ## a list of the frame's own that is written to -/
mutual
theorem Rep.more {H : List Addr} {h : Heap} {a : Addr} (ha : h.get? a = none) : ∀ {d : D} {v : Value}, Rep H h d v → Rep (a :: H) h d v
  | .none, _, r => r
  | .bool _, _, r => r
  | .int _, _, r => r
  | .flt _, _, r => r
  | .str _, _, r => r
  | .list l, v, r => by
    unfold Rep at r ⊢
    obtain ⟨b, vs, e, ne, ⟨n, ho⟩, hr⟩ := r
    refine ⟨b, vs, e, fun q => ?_, ⟨n, ho⟩, Reps.more ha hr⟩
    rcases List.mem_cons.mp q with q | q
    · rw [q, ha] at ho; cases ho
    · exact ne q
  | .arg l, v, r => by
    unfold Rep at r ⊢
    obtain ⟨b, vs, e, ne, ⟨o, ho, hc⟩, hr⟩ := r
    refine ⟨b, vs, e, fun q => ?_, ⟨o, ho, hc⟩, Reps.more ha hr⟩
    rcases List.mem_cons.mp q with q | q
    · rw [q, ha] at ho; cases ho
    · exact ne q
  | .tup l, v, r => by
    unfold Rep at r ⊢
    obtain ⟨b, vs, e, i, hr⟩ := r
    exact ⟨b, vs, e, i, Reps.more ha hr⟩
  | .ref _, _, r => r
  | .cst _, _, r => r
theorem Reps.more {H : List Addr} {h : Heap} {a : Addr} (ha : h.get? a = none) : ∀ {ds : List D} {vs : List Value}, Reps H h ds vs → Reps (a :: H) h ds vs
  | [], _, r => r
  | d :: ds, vs, r => by
    unfold Reps at r ⊢
    obtain ⟨v, vs', e, r1, r2⟩ := r
    exact ⟨v, vs', e, Rep.more ha r1, Reps.more ha r2⟩
end
mutual
theorem Rep.less {H : List Addr} {h : Heap} {a : Addr} : ∀ {d : D} {v : Value}, Rep (a :: H) h d v → Rep H h d v
  | .none, _, r => r
  | .bool _, _, r => r
  | .int _, _, r => r
  | .flt _, _, r => r
  | .str _, _, r => r
  | .list l, v, r => by
    unfold Rep at r ⊢
    obtain ⟨b, vs, e, ne, p, hr⟩ := r
    exact ⟨b, vs, e, fun q => ne (List.mem_cons_of_mem _ q), p, Reps.less hr⟩
  | .arg l, v, r => by
    unfold Rep at r ⊢
    obtain ⟨b, vs, e, ne, p, hr⟩ := r
    exact ⟨b, vs, e, fun q => ne (List.mem_cons_of_mem _ q), p, Reps.less hr⟩
  | .tup l, v, r => by
    unfold Rep at r ⊢
    obtain ⟨b, vs, e, i, hr⟩ := r
    exact ⟨b, vs, e, i, Reps.less hr⟩
  | .ref _, _, r => r
  | .cst _, _, r => r
theorem Reps.less {H : List Addr} {h : Heap} {a : Addr} : ∀ {ds : List D} {vs : List Value}, Reps (a :: H) h ds vs → Reps H h ds vs
  | [], _, r => r
  | d :: ds, vs, r => by
    unfold Reps at r ⊢
    obtain ⟨v, vs', e, r1, r2⟩ := r
    exact ⟨v, vs', e, Rep.less r1, Reps.less r2⟩
end

structure OwnList (a : Addr) (vals : List Int) (h : Heap) : Prop where
  ex : ∃ vs, h.PlainList a (List.toArray vs) ∧ IntsAre vs vals
noncomputable def GP (g : Pl) (rows : List Row) (a : Addr) (vals : List Int) : Glo where
  prog := g.prog
  w := g.w
  hB := g.hB
  H := [a, g.L]
  F := [g.T, g.TD]
  inv := fun h => (TabAt g.T g.TD g.L [a, g.L] (rowsD rows) h ∧ TabC h) ∧ OwnList a vals h
  invs := fun h h' kf ks kc t => ⟨⟨t.1.1.soft kf ks, t.1.2.soft kc⟩, by
    obtain ⟨vs, ⟨n, e⟩, i⟩ := t.2.ex
    exact ⟨vs, ⟨n, ks _ _ _ n rfl e⟩, i⟩⟩
/-- all that stood, but the frame's own names and the list a, still stands -/
structure HeldA (a : Addr) (env : Env) (s s' : Shared) : Prop where
  k : ∀ b o, b ≠ env.locals → (∀ n c, env.cells.lookup n = some c → b ≠ c) → b ≠ a → s.heap.get? b = some o → s'.heap.get? b = some o
theorem HeldA.trans {a : Addr} {env : Env} {s s' s'' : Shared} (x : HeldA a env s s') (y : HeldA a env s' s'') : HeldA a env s s'' := ⟨fun c o h1 h2 h3 e => y.k c o h1 h2 h3 (x.k c o h1 h2 h3 e)⟩
theorem HeldA.refl {a : Addr} {env : Env} {s : Shared} : HeldA a env s s := ⟨fun _ _ _ _ _ e => e⟩
theorem HeldA.of {a : Addr} {env : Env} {s s' : Shared} (x : Held env s s') : HeldA a env s s' := ⟨fun c o h1 h2 _ e => x.k c o h1 h2 e⟩
structure StP (g : Pl) (rows : List Row) (a : Addr) (vals vals' : List Int) (k : Nat) (sc : Scope) (ρ : Names) (b : Stmt) (ρ' : Names) : Prop where
  run : ∀ (A : Around) (E : Value → Shared → Prop) (s₀ : Shared) (env : Env) (s : Shared), Room A k → DefEnv sc env → s₀.heap.get? a = none → a ≠ g.L → Frm (GP g rows a vals) s₀ env ρ s →
    wpAny (model g.prog g.w) A (exec b env) (fun f s' => f = .next ∧ Frm (GP g rows a vals') s₀ env ρ' s' ∧ HeldA a env s s') E s
structure StsP (g : Pl) (rows : List Row) (a : Addr) (vals vals' : List Int) (k : Nat) (sc : Scope) (ρ : Names) (b : List Stmt) (ρ' : Names) : Prop where
  run : ∀ (A : Around) (E : Value → Shared → Prop) (s₀ : Shared) (env : Env) (s : Shared), Room A k → DefEnv sc env → s₀.heap.get? a = none → a ≠ g.L → Frm (GP g rows a vals) s₀ env ρ s →
    wpAny (model g.prog g.w) A (execs b env) (fun f s' => f = .next ∧ Frm (GP g rows a vals') s₀ env ρ' s' ∧ HeldA a env s s') E s

section
variable {g : Pl} {rows : List Row} {a : Addr} {vals vals' vals'' : List Int} {k : Nat} {sc : Scope} {ρ ρ' ρ'' : Names}
theorem StP.of {b : Stmt} (h : St (GP g rows a vals) k sc ρ b ρ') : StP g rows a vals vals k sc ρ b ρ' := .mk fun A E s₀ env s rm de _ _ f =>
  wpAny_mono (h.run A E s₀ env s rm de f.base f) (fun fl s' q => ⟨q.1, q.2.1, .of q.2.2⟩) fun _ _ e => e
theorem StsP.nil : StsP g rows a vals vals k sc ρ [] ρ := .mk fun A E s₀ env s rm de _ _ f => wpAny_execs_nil ⟨rfl, f, .refl⟩
theorem StsP.cons {x : Stmt} {b : List Stmt} (h : StP g rows a vals vals' k sc ρ x ρ') (r : StsP g rows a vals' vals'' k sc ρ' b ρ'') : StsP g rows a vals vals'' k sc ρ (x :: b) ρ'' := .mk fun A E s₀ env s rm de n1 n2 f =>
  wpAny_execs_cons (wpAny_mono (h.run A E s₀ env s rm de n1 n2 f) (fun fl s' q => by
    obtain ⟨rfl, f', hl⟩ := q
    exact wpAny_mono (r.run A E s₀ env s' rm de n1 n2 f') (fun fl s'' z => ⟨z.1, z.2.1, hl.trans z.2.2⟩) fun _ _ e => e) fun _ _ e => e)
theorem ints_set : ∀ {vs : List Value} {l : List Int} (j : Nat) (w : Int) (t : Tok), IntsAre vs l → IntsAre (vs.set j (.int w t)) (l.set j w)
  | _, _, j, w, t, .nil => .nil
  | _, _, 0, w, t, .cons a u r => .cons w t r
  | _, _, j + 1, w, t, .cons a u r => .cons a u (ints_set j w t r)
/-- plain[i] = e -/
theorem StP.put {x : Str} {idx e : Expr} {p1 p2 p3 : Pos} {j w : Int} (hx : ρ.lookup x = some (.ref a)) (hi : Ev (GP g rows a vals) k sc.names ρ idx (.int j)) (he : Ev (GP g rows a vals) k sc.names ρ e (.int w)) (h0 : 0 ≤ j) (h1 : j < vals.length) (h2 : j < 2 ^ 63)
    (hs : ∀ env, swapsWith e (some (.Subscript (.Name x p1) idx p2)) p3.line env = pure false := by intro _; rfl) (dx : (x == ("__debug__" : Str)) = false := by decide) (hk : sc.kind = .function := by rfl) :
    StP g rows a vals (vals.set j.toNat w) k sc ρ (.Assign [.Subscript (.Name x p1) idx p2] e p3) ρ := .mk fun A E s₀ env s rm de n1 n2 f => by
  refine wpAny_Assign_Subscript ?_ (hs env)
  refine wpAny_mono (he.run A _ env s rm (de.fun hk) f.at_ f.rep) (fun v₀ t₀ q0 => ?_) fun _ _ e => e
  have f0 := f.of q0.1
  refine wpAny_mono ((Ev.name (G := GP g rows a vals) (k := k) (g := sc.names) (pos := p1) hx dx).run A _ env t₀ rm (de.fun hk) f0.at_ f0.rep) (fun v₁ s₁ q1 => ?_) fun _ _ e => e
  have f1 := f0.of q1.1
  have e1 := ref_of q1.2
  subst e1
  refine wpAny_mono (hi.run A _ env s₁ rm (de.fun hk) f1.at_ f1.rep) (fun v₂ s₂ q2 => ?_) fun _ _ e => e
  have f2 := f1.of q2.1
  obtain ⟨t, rfl⟩ := int_of q2.2
  obtain ⟨u, rfl⟩ := int_of q0.2
  obtain ⟨⟨tab, tabc⟩, own⟩ : (TabAt g.T g.TD g.L [a, g.L] (rowsD rows) s₂.heap ∧ TabC s₂.heap) ∧ OwnList a vals s₂.heap := f2.at_.inv
  obtain ⟨vs, ⟨n, ho⟩, ia⟩ := own.ex
  have hlen := ia.length
  refine ki_setAt (n := n) ho h0 h2 (by simp; lia) ⟨rfl, ?_, ?_⟩
  · have sb : Heap.SameBut a s₂.heap (s₂.heap.update a (Obj.mapSeq (·.setIfInBounds j.toNat (.int w u)))) := Heap.SameBut.update ..
    have hnew : (s₂.heap.update a (Obj.mapSeq (·.setIfInBounds j.toNat (.int w u)))).PlainList a (vs.set j.toNat (.int w u)).toArray := by
      refine ⟨n, ?_⟩
      rw [Heap.get?_update_self _ ho rfl]
      show some (Obj.mapSeq _ _) = _
      unfold Obj.mapSeq
      simp
    generalize s₂.heap.update a (Obj.mapSeq (·.setIfInBounds j.toNat (.int w u))) = h' at sb hnew
    have hT : g.T ≠ a := fun e => by have := tab.inst; rw [e, ho] at this; cases this
    obtain ⟨hs', tk', n', hd⟩ := tab.dict
    have hTD : g.TD ≠ a := fun e => by rw [e, ho] at hd; simp at hd
    have mono : ∀ {d : D} {v : Value}, Rep [a, g.L] s₂.heap d v → Rep [a, g.L] h' d v := fun r => r.mono
      (fun b o its nn hb _ e => sb.extBut b o (fun q => hb (by simp [q])) e)
      (fun b o its nn hc _ e => sb.extBut b o (by rintro rfl; rw [ho] at e; cases e; simp at hc) e)
    have monos : ∀ {d : List D} {v : List Value}, Reps [a, g.L] s₂.heap d v → Reps [a, g.L] h' d v := fun r => r.mono
      (fun b o its nn hb _ e => sb.extBut b o (fun q => hb (by simp [q])) e)
      (fun b o its nn hc _ e => sb.extBut b o (by rintro rfl; rw [ho] at e; cases e; simp at hc) e)
    obtain ⟨m, cm, I, hr⟩ := f2.ex
    have offA := f2.off a (.inr (by simp [GP]))
    have k0 : ∀ b o, s₀.heap.get? b = some o → h'.get? b = some o := fun b o e => sb.extBut b o (by rintro rfl; rw [n1] at e; cases e) (I.toInCall.keep b o e)
    obtain ⟨ws, nw, ew, rw'⟩ := tab.list
    refine ⟨⟨f2.base.keep⟩, ⟨fun b o e => k0 b o (f2.base.keep b o e), fun b hb => ?_, fun b hb => ?_, ⟨⟨sb.extBut _ _ hT tab.inst, ⟨hs', tk', n', sb.extBut _ _ hTD hd⟩, ws, nw, sb.extBut _ _ (Ne.symm n2) ew, monos rw'⟩, tabc.soft fun b o vs hf e => sb.extBut b o (by rintro rfl; rw [ho] at e; cases e; cases hf.1) e⟩, ⟨_, hnew, ints_set _ _ _ ia⟩⟩, f2.off, m, cm, ⟨⟨?_, ?_, k0, I.toInCall.fresh⟩, fun nn c hc => ?_, I.apart, I.above⟩, fun y d e => ?_⟩
    · have hb : b ∈ [a, g.L] := hb
      simp at hb
      rcases hb with rfl | rfl
      · obtain ⟨nn, e⟩ := hnew; exact ⟨_, e⟩
      · exact ⟨_, sb.extBut _ _ (Ne.symm n2) ew⟩
    · have hb : b ∈ [g.T, g.TD] := hb
      simp at hb
      rcases hb with rfl | rfl
      · exact ⟨_, sb.extBut _ _ hT tab.inst⟩
      · exact ⟨_, sb.extBut _ _ hTD hd⟩
    · obtain ⟨h1, t1, e1⟩ := I.toInCall.same
      exact ⟨h', _, by rw [e1]⟩
    · obtain ⟨o, es, ep, hoo, r⟩ := I.toInCall.ns
      exact ⟨o, es, ep, sb.extBut _ _ (Ne.symm offA.1) hoo, r⟩
    · obtain ⟨o, hoo, hdd⟩ := I.cell nn c hc
      exact ⟨o, sb.extBut _ _ (Ne.symm (offA.2 nn c hc)) hoo, hdd⟩
    · obtain ⟨v, b, r⟩ := hr y d e
      exact ⟨v, b, mono r⟩
  · have k3 := kp_keep (kp_trans q0.1 (kp_trans q1.1 q2.1))
    exact ⟨fun b o _ _ h3 e => (Heap.SameBut.update ..).extBut b o h3 (k3 b o e)⟩

/-- for target in iter: body, the list a written to -/
theorem StP.for {target iter : Expr} {body : List Stmt} {pos : Pos} {ds : List D} (valsS : Nat → List Int) (δ : D → Names) (hit : ∀ {A : Around} {E : Value → Shared → Prop} {env : Env} {s : Shared}, Room A k → FunEnv sc.names env → At (GP g rows a (valsS 0)) s → EnvRep [a, g.L] s.heap env ρ →
      wpAny (model g.prog g.w) A (eval iter env) (fun xv s₁ => Keeps s s₁ ∧ wpAny (model g.prog g.w) A (pyIter xv) (fun it s₂ => Keeps s₁ s₂ ∧ GivesX [a] (GP g rows a (valsS 0)) A ds s₁ it s₂) E s₁) E s) (hfold : ∀ x env, foldedSetIterable iter env x = pure x)
    (put : ∀ i, ∀ d ∈ ds, Put (GP g rows a (valsS i)) k sc target d (δ d))
    (turn : ∀ i d, i < ds.length → ds[i]? = some d → ∃ ρ', StsP g rows a (valsS i) (valsS (i + 1)) k sc (δ d ++ ρ) body ρ' ∧ Sub ρ ρ') (hk : sc.kind = .function := by rfl) :
    StP g rows a (valsS 0) (valsS ds.length) k sc ρ (.For target iter body [] pos) ρ := .mk fun A E s₀ env s rm de m1 m2 f => by
  refine wpAny_For (wpAny_mono (hit rm (de.fun hk) f.at_ f.rep) (fun xv s₁ q => wpAny_mono q.2 (fun it s₂ q2 => ?_) fun _ _ e => e) fun _ _ e => e) (fun x => hfold x env)
  obtain ⟨I, fp, wr, P, St, rfl, W, hst, hfp, hwr, hfo, hsoft, hP, hcalm, hge⟩ := q2.2.ex
  have k1 := q.1
  have k2 := q2.1
  have f1 := f.of k1
  have f2 := f1.of k2
  have live : ∀ a o, s₁.heap.get? a = some o → a ∉ wr := fun a o e h => by rw [hwr _ h] at e; cases e
  have fpL : ∀ b ∈ fp, (b ≠ env.locals ∧ (∀ n c, env.cells.lookup n = some c → b ≠ c)) ∧ b ≠ a := fun b hb => ⟨f1.fpL live hfo b hb, fun e => (hfo b hb).elim (fun h => (f1.n5 live b h).2 (by rw [e]; exact .head _)) fun ⟨_, _, _, _, _, hx⟩ => hx (by rw [e]; exact .head _)⟩
  obtain ⟨oa, hoa⟩ : ∃ o, s₁.heap.get? a = some o := f1.at_.live a (by simp [GP])
  have la : oa.cls = .type "list" := by
    obtain ⟨vs, ⟨n, e⟩, _⟩ := (show (TabAt g.T g.TD g.L [a, g.L] (rowsD rows) s₁.heap ∧ TabC s₁.heap) ∧ OwnList a (valsS 0) s₁.heap from f1.at_.inv).2.ex
    rw [hoa] at e; cases e; rfl
  refine codeAny_forLoop_any (fun n s' => ∃ i, i ≤ ds.length ∧ n = ds.length + 1 - i ∧ St i s'.heap ∧ Frm (GP g rows a (valsS i)) s₀ env ρ s' ∧ HeldA a env s₁ s') ?_ (ds.length + 1) ⟨0, Nat.zero_le _, rfl, hst, f2, .of (.of k2)⟩
  rintro n s' ⟨i, hi, rfl, st, fi, hd⟩
  have hsof := hsoft i _ st
  by_cases hlt : i < ds.length
  · refine W.item i s' _ _ hlt st fun v h' tk hPv st' kk => ?_
    obtain ⟨d, hds, hl⟩ := hP i v hPv
    have f' := fi.but (tk := tk) kk (f1.nL live) (f1.nC live) (f1.n0 live) hsof (f1.n5 live)
    obtain ⟨oI, nI, hoI, hcI, hcm⟩ := hcalm _ _ st'
    refine letGo_calm hoI hcI hcm ?_
    have hd' : HeldA a env s₁ { s' with heap := h', toks := tk } := ⟨fun b o h1 h2 h3 e => kk b o (live b o e) (hd.k b o h1 h2 h3 e)⟩
    have later : Later (GP g rows a (valsS 0)) s₁.heap h' := fun b o its n hb hdd e => hd'.k b o (f1.seqL e hdd).1 (f1.seqL e hdd).2 (by
      rintro rfl
      rcases hb with hb | hb
      · exact hb (by simp [GP])
      · rw [hoa] at e; cases e; rw [la] at hb; simp at hb) e
    refine (put i d (List.mem_of_getElem? hds)).run A _ s₀ env ρ _ v _ rm de f'.base f' (hl h' later) fun s4 f4 hl4 => ?_
    have st4 : St (i + 1) s4.heap := W.frame _ _ _ st' fun b hb o e => hl4.k b o (fpL b hb).1.1 (fpL b hb).1.2 e
    obtain ⟨ρ', hb, hsub⟩ := turn i d hlt hds
    refine wpAny_mono (hb.run A _ s₀ env s4 rm de m1 m2 f4) (fun fl s5 z => ?_) fun _ _ e => e
    obtain ⟨rfl, f5, hl5⟩ := z
    exact ⟨_, by lia, i + 1, hlt, rfl, W.frame _ _ _ st4 fun b hb o e => hl5.k b o (fpL b hb).1.1 (fpL b hb).1.2 (fpL b hb).2 e, f5.weak hsub, (hd'.trans (.of hl4)).trans hl5⟩
  · have e : i = ds.length := by lia
    subst e
    refine W.done s' _ _ st fun h' tk kk => ?_
    have hd' : HeldA a env s₁ { s' with heap := h', toks := tk } := ⟨fun b o h1 h2 h3 e => kk b o (live b o e) (hd.k b o h1 h2 h3 e)⟩
    exact wpAny_execs_nil ⟨rfl, fi.but (tk := tk) kk (f1.nL live) (f1.nC live) (f1.n0 live) hsof (f1.n5 live), (HeldA.of (.of k1)).trans hd'⟩

/-- x = [0, 0, 0], from then on x is written to -/
theorem own_start {x : Str} {es : List Expr} {p1 p2 p3 : Pos} {A : Around} {E : Value → Shared → Prop} {s₀ : Shared} {env : Env} {s : Shared} {Q : Flow → Shared → Prop} (rm : Room A k) (de : DefEnv sc env) (f : Frm (GT g rows) s₀ env ρ s) (he : Evs (GT g rows) k sc.names ρ es (vals.map .int)) (hz : vals.length ≤ 1000) (hx : storable sc x = true) (hk : sc.kind = .function)
    (hs : ∀ env, swapsWith (.List es p1) (some (.Name x p2)) p3.line env = pure false)
    (h : ∀ a s', s₀.heap.get? a = none → a ≠ g.L → Frm (GP g rows a vals) s₀ env ((x, .ref a) :: ρ) s' → Q .next s') : wpAny (model g.prog g.w) A (exec (.Assign [.Name x p2] (.List es p1) p3) env) Q E s := by
  refine wpAny_Assign_Name ?_ (hs env)
  rw [arm_eval_List]
  refine wpAny_bind (wpAny_standAt (wpAny_bind (wpAny_mono (he.run A E env s p1 rm (de.fun hk) f.at_ f.rep).2 (fun vs s' q => ?_) fun _ _ e => e)))
  have f' := f.of q.1
  have il := reps_ints q.2
  refine wpAny_newObj_type ?_ (by
    have := il.length
    show vs.toArray.size ≤ _
    rw [List.size_toArray, this]
    exact le_sizeLine hz)
  have hnone : s'.heap.get? s'.heap.objs.size = none := by
    cases e : s'.heap.get? s'.heap.objs.size with
    | none => rfl
    | some o => exact absurd (Heap.lt_size e) (Nat.lt_irrefl _)
  generalize ha : s'.heap.objs.size = a at hnone
  obtain ⟨m, cm, I, hr⟩ := f'.ex
  have hs₀ : s₀.heap.get? a = none := by
    cases e : s₀.heap.get? a with
    | none => rfl
    | some o => have := I.toInCall.keep _ _ e; rw [hnone] at this; cases this
  have haL : a ≠ g.L := by
    rintro rfl
    obtain ⟨o, e⟩ := f'.at_.live g.L (by simp [GT])
    rw [hnone] at e; cases e
  have kp : Keeps s' { s' with heap := s'.heap.push { cls := .type "list", dict := none, data := .seq vs.toArray } } := kp_push s' _ s'.toks
  have f'' := f'.of kp
  have hnew : (s'.heap.push { cls := .type "list", dict := none, data := .seq vs.toArray }).PlainList a vs.toArray := ⟨_, by rw [← ha]; exact Heap.get?_push_size _ rfl⟩
  obtain ⟨m2, cm2, I2, hr2⟩ := f''.ex
  obtain ⟨⟨tinst, tdict, tl⟩, tabc⟩ : TabAt g.T g.TD g.L [g.L] (rowsD rows) s'.heap ∧ TabC s'.heap := f'.at_.inv
  obtain ⟨ws, nw, ew, rw'⟩ := tl
  have fP : Frm (GP g rows a vals) s₀ env ρ { s' with heap := s'.heap.push { cls := .type "list", dict := none, data := .seq vs.toArray } } := by
    have f1b : At (GT g rows) _ := f''.at_
    refine ⟨⟨f''.base.keep⟩, ⟨f1b.keep, fun b hb => ?_, f1b.fl, ⟨⟨⟨kp_keep kp _ _ tinst, ?_, ws, nw, kp_keep kp _ _ ew, (rw'.more hnone).keep (kp_keep kp)⟩, tabc.keep (kp_keep kp)⟩, ⟨vs, hnew, il⟩⟩⟩, fun b hb => ?_, m, cm, ?_, fun y d e => ?_⟩
    · have hb : b ∈ [a, g.L] := hb
      simp at hb
      rcases hb with rfl | rfl
      · obtain ⟨n, e⟩ := hnew; exact ⟨_, e⟩
      · exact f1b.live _ (by simp [GT])
    · obtain ⟨h1, h2, h3, h4⟩ := tdict
      exact ⟨h1, h2, h3, kp_keep kp _ _ h4⟩
    · have hb : b ∈ [g.T, g.TD] ∨ b ∈ [a, g.L] := hb
      have old := f''.off b
      rcases hb with hb | hb
      · exact old (.inl hb)
      · simp at hb
        rcases hb with rfl | rfl
        · refine ⟨fun q => ?_, fun n c hc q => ?_⟩
          · obtain ⟨o, es', ep, ho, _⟩ := I.toInCall.ns
            rw [← q, hnone] at ho; cases ho
          · obtain ⟨o, ho, _⟩ := I.cell n c hc
            rw [← q, hnone] at ho; cases ho
        · exact old (.inr (by simp [GT]))
    · have kk := kp_keep kp
      exact ⟨⟨(by obtain ⟨h1, t1, e1⟩ := I.toInCall.same; exact ⟨_, _, by rw [e1]⟩), I.toInCall.ns.keeps kk, fun b o e => kk b o (I.toInCall.keep b o e), I.toInCall.fresh⟩, fun n c hc => (I.cell n c hc).keeps kk, I.apart, I.above⟩
    · obtain ⟨v, b, r⟩ := hr y d e
      exact ⟨v, b, (r.more hnone).keep (kp_keep kp)⟩
  exact fP.store (d := .ref a) (de.fun hk).kind (storable_of de hx) rep_ref fun s'' f3 _ => h a s'' hs₀ haL f3
/-- and back -/
theorem own_end {a : Addr} {x : Str} {s₀ s : Shared} {env : Env} (f : Frm (GP g rows a vals) s₀ env ((x, .ref a) :: ρ) s) (haL : a ≠ g.L) : Frm (GT g rows) s₀ env ((x, .list (vals.map .int)) :: ρ) s := by
  obtain ⟨m, cm, I, hr⟩ := f.ex
  obtain ⟨⟨tab, tabc⟩, own⟩ : (TabAt g.T g.TD g.L [a, g.L] (rowsD rows) s.heap ∧ TabC s.heap) ∧ OwnList a vals s.heap := f.at_.inv
  obtain ⟨ws, nw, ew, rw'⟩ := tab.list
  refine ⟨⟨f.base.keep⟩, ⟨f.at_.keep, fun b hb => f.at_.live b (List.mem_cons_of_mem _ hb), f.at_.fl, ⟨tab.inst, tab.dict, ws, nw, ew, rw'.less⟩, tabc⟩, fun b hb => f.off b (hb.imp id (List.mem_cons_of_mem _)), m, cm, I, fun y d e => ?_⟩
  rw [List.lookup_cons] at e
  cases hb : y == x with
  | true =>
    rw [hb] at e; cases e
    obtain ⟨v, b, r⟩ := hr y (.ref a) (by rw [List.lookup_cons, hb])
    refine ⟨v, b, ?_⟩
    rw [ref_of r]
    obtain ⟨vs, pl, ia⟩ := own.ex
    unfold Rep
    exact ⟨a, vs, rfl, fun q => haL (List.mem_singleton.mp q), pl, ints_reps ia⟩
  | false =>
    rw [hb] at e
    obtain ⟨v, b, r⟩ := hr y d (by rw [List.lookup_cons, hb]; exact e)
    exact ⟨v, b, r.less⟩
end
end Mine
end

section
open PySem PySem.W PyProof.Rows
set_option Elab.async false
set_option linter.unusedVariables false
namespace Mine
set_option maxRecDepth 100000

noncomputable def wOf (q : Tri) : Int := worth (min3 q.1 q.2.1 q.2.2) (q.1 + q.2.1 + q.2.2 - 3 * min3 q.1 q.2.1 q.2.2)
theorem told_eq (a b c : Int) : told a b c = wOf (a, b, c) := by
  unfold told wOf
  congr 1
  dsimp only
  lia
noncomputable def plainS (t : List Cell) (i : Nat) : List Int := (t.take i).foldl (fun v e => v.set e.1 (wOf e.2.2)) [0, 0, 0]
theorem plainS_succ (t : List Cell) {i : Nat} (hi : i < t.length) : plainS t (i + 1) = (plainS t i).set t[i].1 (wOf t[i].2.2) := by
  unfold plainS
  rw [List.take_succ_eq_append_getElem hi, List.foldl_append]
  rfl
theorem foldl_len (l : List Cell) : ∀ v : List Int, (l.foldl (fun v e => v.set e.1 (wOf e.2.2)) v).length = v.length := by
  induction l with
  | nil => intro v; rfl
  | cons e r ih => intro v; rw [List.foldl_cons, ih]; simp
theorem plainS_len (t : List Cell) (i : Nat) : (plainS t i).length = 3 := by unfold plainS; rw [foldl_len]; rfl
theorem sumFits3 {a b c : Int} (ha : inb a) (hb : inb b) (hc : inb c) : PySem.SumFits [a, b, c] := by
  intro j hj
  have h1 := ha.1; have h2 := ha.2; have h3 := hb.1; have h4 := hb.2; have h5 := hc.1; have h6 := hc.2
  have cs : j = 0 ∨ j = 1 ∨ j = 2 := by simp at hj; lia
  unfold InLong
  rcases cs with rfl | rfl | rfl <;> simp <;> lia
theorem okChr.sOk {x : Str} {lo : Nat} {hi : Nat} (h : okChr x lo hi) (hh : hi ≤ 127) : PyData.strOk x = true := by
  unfold PyData.strOk
  rw [Array.all_eq_true]
  intro i hi'
  have := (h.2 i hi').2
  have e : x.cps.getD i 0 = x.cps[i] := by simp [Array.getD, hi']
  rw [e] at this
  simp; lia
theorem canLay_rows : ∀ {rows : List Row}, (∀ p ∈ rows, RowOk p) → PyData.canLayAll0 (D.pys (rowsD rows)) = true
  | [], _ => rfl
  | p :: r, h => by
    have h1 := h p (by simp)
    have ih := canLay_rows (rows := r) fun q hq => h q (by simp [hq])
    show PyData.canLayAll0 ((rowD p).py :: D.pys (rowsD r)) = true
    rw [PyData.canLayAll0, ih]
    show (PyData.canLay0 (PyData.tuple [.str p.1, .str p.2]) && true) = true
    rw [PyData.canLay0, PyData.canLayAll0, PyData.canLayAll0, PyData.canLayAll0, PyData.canLay0, PyData.canLay0, h1.name.sOk (Nat.le_refl _), h1.text.sOk (by decide)]
    rfl
theorem tell_c {a b c : Int} (ha : inb a) (hb : inb b) (hc : inb c) : (0 ≤ min3 a b c ∧ min3 a b c < 10000) ∧ (0 ≤ a + b + c - 3 * min3 a b c ∧ a + b + c - 3 * min3 a b c < 10000) := by
  obtain ⟨_, hm, l1, l2, l3, _⟩ := bnd3 ha hb hc rfl rfl
  have h2 := hm.1; have h3 := hm.2; have h4 := ha.2; have h5 := hb.2; have h6 := hc.2
  have l1 := l1.1; have l2 := l2.1; have l3 := l3.1
  clear ha hb hc hm
  generalize min3 a b c = m at *
  lia
theorem shaped_rows {t : List Cell} (ht : TOk t) : PySem.SeqAt.shaped (D.list (rowsD (rowsOf t))).py = true := by
  have h1 : PyData.canLay0 (D.list (rowsD (rowsOf t))).py = true := by
    show PyData.canLay0 (PyData.list (D.pys (rowsD (rowsOf t)))) = true
    rw [PyData.canLay0]
    exact canLay_rows ht.rows
  unfold PySem.SeqAt.shaped
  rw [h1]
  exact vecLe3 (P := fun t => (true && decide ((D.list (rowsD (rowsOf t))).py.depth ≤ 64)) = true) rfl (fun _ => rfl) (fun _ _ => rfl) (fun _ _ _ => rfl) t ht.1
theorem plain_rows : ∀ t : List Row, (D.list (rowsD t)).plain = true
  | [] => rfl
  | p :: r => by
    have := plain_rows r
    simp only [D.plain] at this
    show D.plains (rowD p :: rowsD r) = true
    simp only [D.plains, rowD, D.plain, Bool.and_true, Bool.true_and]
    exact this

section
variable {g : Pl} {t : List Cell} {k : Nat} {nm : List (Str × NameKind)} {ρ : Names} {d d' : D} {ds : List D}
/-- [int(word) for word in text.split(' ')] -/
theorem split_ok {G : Glo} {a b c : Int} (ha : inb a) (hb : inb b) (hc : inb c) : CallOk G k (.builtin "str.split") [.str (txt3 a b c), .str sp] (.list [.str (num a), .str (num b), .str (num c)]) := by
  have ok := txt3_ok ha.lt hb.lt hc.lt
  have e1 : Txt.split (txt3 a b c) sp = [num a, num b, num c] := split_txt3 ha.1 hb.1 hc.1
  have := CallOk.split (G := G) (k := k) (x := txt3 a b c) (y := sp) (by decide) (le_sizeLine ok.1) (by
    have e2 : (Builtin.Str.partsBetween (txt3 a b c) (Builtin.Str.occurrences (txt3 a b c) sp 0 (txt3 a b c).length ((txt3 a b c).length + 1)) sp.length).length ≤ (txt3 a b c).length + 2 := by
      unfold Builtin.Str.partsBetween
      simp only [List.length_map, List.length_zip, List.length_cons, List.length_append, List.length_nil]
      have := StrLaws.occ_length_le (txt3 a b c) sp 0 (txt3 a b c).length ((txt3 a b c).length + 1)
      lia
    have := ok.1
    have e3 : (txt3 a b c).length = (txt3 a b c).cps.size := rfl
    have e4 : 2000 ≤ sizeLine := by rw [sizeLine_eq]; decide
    lia)
  rw [e1] at this
  exact this
theorem abc_index {p : Nat} (hp : p < 3) : ∃ rest, Builtin.Str.occurrences (Str.ofString "abc") (lname p false) 0 (Str.ofString "abc").length 1 = p :: rest := by
  have cs : p = 0 ∨ p = 1 ∨ p = 2 := by lia
  rcases cs with rfl | rfl | rfl <;> exact ⟨[], by decide +kernel⟩

/-- _law_as_told -/
theorem astold_ok (h : Gnd (GT g (rowsOf t))) (ht : TOk t) (w : Tri) (hw : [w.1, w.2.1, w.2.2] = plainS t t.length) : CallOk (GT g (rowsOf t)) 4 (.ref 294) [.ref g.T, .list (rowsD (rowsOf t)), triD w] (.bool true) := by
  have hl := ht.len
  have hlen : (rowsD (rowsOf t)).length = t.length := by rw [rowsD_len]; unfold rowsOf; rw [List.length_map]
  have hz := ht.1
  obtain ⟨w0, w1, w2⟩ := w
  refine CallOk.def (ns := [Str.ofString "table", Str.ofString "row", Str.ofString "worths"]) (h.def (f := 294) rfl (by kernel_rfl)) (fun vs hv => ?_) rfl (by decide) (by decide +kernel) ?_
  · exact binds3 (fun _ _ _ => rfl) vs hv
  · constructor
    intro A E s₀ env s rm de hb f
    refine wpAny_execs_cons (own_start (g := g) (rows := rowsOf t) (vals := [0, 0, 0]) (k := 3) rm de f (Evs.cons Ev.int (Evs.cons Ev.int (Evs.cons Ev.int Evs.nil))) (by decide) (by decide +kernel) rfl (by intro _; rfl) fun a s₁ n1 n2 fP => ?_)
    have hgP : ∀ vals, Gnd (GP g (rowsOf t) a vals) := fun vals => ⟨h.kin, h.top⟩
    refine wpAny_execs_cons (wpAny_mono ((StP.for (g := g) (rows := rowsOf t) (a := a) (k := 3) (ds := rowsD (rowsOf t)) (plainS t) (fun d => match d with | .tup [x, y] => [(Str.ofString "text", y), (Str.ofString "name", x)] | _ => []) ?hit (by intro _ _; rfl) ?put ?turn).run A E s₀ env s₁ rm de n1 n2 fP) (fun fl s₂ q => ?_) fun _ _ e => e)
    (case hit =>
      intro A E env s rm fe ha he
      exact wpAny_mono ((Ev.name (G := GP g (rowsOf t) a (plainS t 0)) (k := 3) (x := Str.ofString "row") (d := .list (rowsD (rowsOf t))) rfl).run A E env s rm fe ha he) (fun v s₁ q => ⟨q.1, gives_list (X := [a]) (by intro x hx; simp at hx; subst hx; simp [GP]) rm.handled q.2 _ fun _ _ u v => ⟨u, v⟩⟩) fun _ _ e => e)
    (case put =>
      intro i d hd
      obtain ⟨p, hp, rfl⟩ := List.mem_map.mp hd
      exact Put.tup (xs := [Str.ofString "name", Str.ofString "text"]) (d := rowD p) (ds := [.str p.1, .str p.2]) (.inr rfl) rfl rfl (by decide +kernel))
    (case turn =>
      intro i d hi hd
      rw [hlen] at hi
      have ed : d = rowD (cellRow t[i]) := by simp [rowsD, rowsOf, hi] at hd; exact hd.symm
      subst ed
      have ce := ht.2 t[i] (List.getElem_mem hi)
      rw [plainS_succ t hi]
      generalize t[i] = e at ce
      obtain ⟨p, gr, x, y, z⟩ := e
      obtain ⟨hp, hx, hy, hzz⟩ := ce
      dsimp only at hp hx hy hzz
      have hlenP := plainS_len t i
      generalize plainS t i = vals at hlenP
      have hG := hgP vals
      refine' ⟨_, StsP.cons ?first (StsP.cons ?second StsP.nil), ?sub⟩
      (case first =>
        refine' StP.of (st_compE (fun _ => true) readD (Itr.list (ev_meth (Ev.name rfl) Meth.split (Evs.cons Ev.str Evs.nil) (split_ok hx hy hzz)) (by simp)) ?hr rfl (fun d hd => Ifs.nil) (fun d hd _ => ?he) ?sw)
        (case hr =>
          show [readD (.str (num x)), readD (.str (num y)), readD (.str (num z))] = [.int x, .int y, .int z]
          rw [readD_num hx, readD_num hy, readD_num hzz])
        (case he =>
          simp only [List.mem_cons, List.not_mem_nil, or_false] at hd
          rcases hd with rfl | rfl | rfl
          · rw [readD_num hx]
            exact .scal (Ev.call (hG.built rfl rfl (by decide)) (.type _) (Evs.cons (Ev.name rfl) Evs.nil) (CallOk.intS hx.1 (by have := hx.2; lia))) rfl
          · rw [readD_num hy]
            exact .scal (Ev.call (hG.built rfl rfl (by decide)) (.type _) (Evs.cons (Ev.name rfl) Evs.nil) (CallOk.intS hy.1 (by have := hy.2; lia))) rfl
          · rw [readD_num hzz]
            exact .scal (Ev.call (hG.built rfl rfl (by decide)) (.type _) (Evs.cons (Ev.name rfl) Evs.nil) (CallOk.intS hzz.1 (by have := hzz.2; lia))) rfl)
        (case sw =>
          intro env de
          have hsc := de.scope
          obtain ⟨sc, _⟩ := env
          simp only at hsc
          subst hsc
          rfl))
      (case second =>
        refine' StP.put (j := p) (w := wOf (x, y, z)) rfl ?idx ?val (by lia) (by lia) (by lia)
        (case idx =>
          obtain ⟨rest, hidx⟩ := abc_index hp
          refine' ev_meth Ev.str Meth.index (Evs.cons (Ev.cast (ev_meth (Ev.name rfl) Meth.lower Evs.nil (CallOk.lower ?_)) (congrArg D.str (low_lname hp gr))) Evs.nil) (CallOk.index hidx)
          have e : Txt.lower (lname p gr) = lname p false := low_lname hp gr
          exact (congrArg (fun z : Str => Builtin.Str.tooLong z.length) e).trans (lname_ok hp false).tooLong)
        (case val =>
          have m1 : min3 x y z ∈ [x, y, z] := or3 (P := fun u => u ∈ [x, y, z]) (min3_mem x y z) (.head _) (.tail _ (.head _)) (.tail _ (.tail _ (.head _)))
          have m2 : ∀ a ∈ [x, y, z], min3 x y z ≤ a := List.forall_mem_cons.mpr ⟨(min3_le x y z).1, List.forall_mem_cons.mpr ⟨(min3_le x y z).2.1, List.forall_mem_cons.mpr ⟨(min3_le x y z).2.2, fun _ h => nomatch h⟩⟩⟩
          have hmn : CallOk (GP g (rowsOf t) a vals) 3 (.builtin "min") [.list [.int x, .int y, .int z]] (.int (min3 x y z)) := CallOk.minL m1 m2
          have hsm : CallOk (GP g (rowsOf t) a vals) 3 (.builtin "sum") [.list [.int x, .int y, .int z]] (.int (x + y + z)) := by
            have := CallOk.sumL (G := GP g (rowsOf t) a vals) (k := 3) (sumFits3 hx hy hzz)
            rw [show [x, y, z].sum = x + y + z by simp; lia] at this
            exact this
          obtain ⟨b1, b2⟩ := tell_c hx hy hzz
          refine' Ev.call (hG.glob rfl) (hG.callee rfl) (Evs.cons ?_ (Evs.cons ?_ Evs.nil)) ((worth_ok hG _ _ b1 b2).le (by decide))
          · exact Ev.call (hG.built rfl rfl (by decide)) (.builtin _) (Evs.cons (Ev.name rfl) Evs.nil) hmn
          · refine' Ev.bin (Ev.call (hG.built rfl rfl (by decide)) (.builtin _) (Evs.cons (Ev.name rfl) Evs.nil) hsm) (Ev.bin Ev.int (Ev.call (hG.built rfl rfl (by decide)) (.builtin _) (Evs.cons (Ev.name rfl) Evs.nil) hmn) (BinOk.mul ?_)) BinOk.sub
            left; decide))
      exact Sub.cons rfl (Sub.cons rfl (Sub.cons rfl (Sub.cons rfl Sub.nil))))
    obtain ⟨rfl, f2, _⟩ := q
    rw [hlen] at f2
    have f3 := own_end f2 n2
    refine (Ret.ret (G := GT g (rowsOf t)) (k := 3) ?_ rfl).run A E s₀ env s₂ rm de f3.base f3
    have sh := shaped_rows ht
    have cmp1 : CmpOk (GT g (rowsOf t)) 3 .Eq (.list (rowsD (rowsOf t))) (.list (rowsD (rowsOf t))) true := CmpOk.eqD (plain_rows _) (plain_rows _) sh sh (PySem.SeqAt.eqv_refl _ (PySem.SeqAt.canLay_of_shaped sh))
    have e1 : (triD (w0, w1, w2)) = .list ((plainS t t.length).map .int) := by rw [← hw]; rfl
    have cmp2 : CmpOk (GT g (rowsOf t)) 3 .Eq (triD (w0, w1, w2)) (.list ((plainS t t.length).map .int)) true := by
      rw [← e1]
      exact CmpOk.eqD rfl rfl rfl rfl (PySem.SeqAt.eqv_refl _ rfl)
    refine' ev_andT (Ev.cmp (ev_own h (Ev.name rfl) Evs.nil ((items_ok h ?_).le (by decide)) (hcl := h.callee rfl)) (Ev.name rfl) cmp1) TruthOk.bool (Ev.cmp (Ev.name rfl) (Ev.name rfl) cmp2)
    lia
end
end Mine
end

section
open PySem PySem.W PyProof.Rows
set_option Elab.async false
set_option linter.unusedVariables false
namespace Mine
set_option maxRecDepth 100000

/-! ## sorted, three items, keys that are pairs of ints -/
section
variable {M : Model} {A : Around} {E : Value → Shared → Prop} {s : Shared} {σ β : Type}
theorem wpS_rangeC {a b : Nat} {f : Nat → β → StateT σ Sem (ForInStep β)} {Q : β → σ → Prop} {c : β} {st : σ} (h : a < b)
    (hs : wpS M A E s (f a c) (fun r st' => match r with | .done c' => Q c' st' | .yield c' => wpS M A E s (forIn [a + 1:b] c' f) Q st') st) : wpS M A E s (forIn [a:b] c f) Q st := by
  have hsz : ([a:b] : Std.Legacy.Range).size = (b - (a + 1)) + 1 := by simp [Std.Legacy.Range.size]; lia
  have hsz2 : ([a + 1:b] : Std.Legacy.Range).size = b - (a + 1) := by simp [Std.Legacy.Range.size]
  rw [Std.Legacy.Range.forIn_eq_forIn_range']
  show wpS M A E s (forIn (List.range' a ([a:b] : Std.Legacy.Range).size 1) c f) Q st
  rw [hsz, List.range'_succ, List.forIn_cons]
  refine wpS_bind (wpS_mono hs fun r st' h' => ?_)
  cases r with
  | done c' => exact wpS_pure h'
  | yield c' =>
    have h2 : wpS M A E s (forIn [a + 1:b] c' f) Q st' := h'
    rw [Std.Legacy.Range.forIn_eq_forIn_range'] at h2
    have h3 : wpS M A E s (forIn (List.range' (a + 1) ([a + 1:b] : Std.Legacy.Range).size 1) c' f) Q st' := h2
    rw [hsz2] at h3
    exact h3
theorem wpS_rangeN {a b : Nat} {f : Nat → β → StateT σ Sem (ForInStep β)} {Q : β → σ → Prop} {c : β} {st : σ} (h : b ≤ a) (hq : Q c st) : wpS M A E s (forIn [a:b] c f) Q st := by
  have hsz : ([a:b] : Std.Legacy.Range).size = 0 := by simp [Std.Legacy.Range.size]; lia
  rw [Std.Legacy.Range.forIn_eq_forIn_range']
  show wpS M A E s (forIn (List.range' a ([a:b] : Std.Legacy.Range).size 1) c f) Q st
  rw [hsz]
  exact wpS_pure hq
end
theorem keyLt'_tuples (f : Bool) (x y : Value) : keyLt' (tuples' f) x y = (do
    let xs ← Builtin.List.listItems x; let ys ← Builtin.List.listItems y
    for ((p, q), i) in (xs.toList.zip ys.toList).zipIdx do
      if !(← eqBool p q) then return ← oneLt' (f && i == 0) p q
    return xs.size < ys.size) := rfl
noncomputable def ltPair (a b c d : Int) : Bool := if a = c then decide (b < d) else decide (a < c)
section
variable {prog : Program} {w : World} {A : Around} {E : Value → Shared → Prop} {s : Shared}
theorem oneLt_int' {f : Bool} {a b : Int} {t u : Tok} {Q : Bool → Shared → Prop} (h : Q (decide (a < b)) s) : wpAny (model prog w) A (oneLt' f (.int a t) (.int b u)) Q E s := by
  cases f with
  | true => exact oneLt_int h
  | false =>
    rw [oneLt'_eq]
    simp only [Bool.false_eq_true, if_false]
    exact wpAny_bind (wpAny_richCompare_same (typeIs_int s a t) (typeIs_int s b u) slot_int_lt (call_int_lt ⟨(by intro q; cases q), wpAny_truthy_bool h⟩))
/-- the key x comes before the key y, or not -/
noncomputable def KL (prog : Program) (w : World) (A : Around) (s : Shared) (x y : Value) (b : Bool) : Prop := ∀ E, wpAny (model prog w) A (keyLt' (tuples' true) x y) (fun r s' => s' = s ∧ r = b) E s
theorem KL.of {p q : Addr} {a b c d : Int} {t1 t2 t3 t4 : Tok} (hp : IsTup s.heap p #[.int a t1, .int b t2]) (hq : IsTup s.heap q #[.int c t3, .int d t4]) : KL prog w A s (.ref p) (.ref q) (ltPair a b c d) := by
  intro E
  obtain ⟨o1, h1, _, n1, d1⟩ := hp
  obtain ⟨o2, h2, _, n2, d2⟩ := hq
  rw [keyLt'_tuples]
  refine wpAny_bind (listItems_at h1 d1 (wpAny_bind (listItems_at h2 d2 ?_)))
  simp only [List.zip_cons_cons, List.zip_nil_left, List.zipIdx_cons, List.zipIdx_nil, List.forIn_cons, List.forIn_nil]
  by_cases e : a = c
  · have e1 : (a == c) = true := by simp [e]
    refine wpAny_bind (wpAny_bind (wpAny_bind (wpAny_eqBool_int ?_)))
    rw [e1]
    simp only [Bool.not_true, Bool.false_eq_true, if_false]
    refine wpAny_pure ?_
    dsimp only
    by_cases e2 : b = d
    · have e3 : (b == d) = true := by simp [e2]
      refine wpAny_bind (wpAny_bind (wpAny_eqBool_int ?_))
      rw [e3]
      simp only [Bool.not_true, Bool.false_eq_true, if_false]
      refine wpAny_pure ?_
      dsimp only
      refine wpAny_pure ?_
      dsimp only
      refine wpAny_pure ⟨rfl, ?_⟩
      unfold ltPair
      simp [e, e2]
    · have e3 : (b == d) = false := by simp [e2]
      refine wpAny_bind (wpAny_bind (wpAny_eqBool_int ?_))
      rw [e3]
      simp only [Bool.not_false, if_true]
      refine wpAny_bind (oneLt_int' ?_)
      refine wpAny_pure ?_
      dsimp only
      refine wpAny_pure ?_
      dsimp only
      refine wpAny_pure ⟨rfl, ?_⟩
      unfold ltPair
      simp [e]
  · have e1 : (a == c) = false := by simp [e]
    refine wpAny_bind (wpAny_bind (wpAny_bind (wpAny_eqBool_int ?_)))
    rw [e1]
    simp only [Bool.not_false, if_true]
    refine wpAny_bind (oneLt_int' ?_)
    refine wpAny_pure ?_
    dsimp only
    refine wpAny_pure ?_
    dsimp only
    refine wpAny_pure ⟨rfl, ?_⟩
    unfold ltPair
    simp [e]

theorem wpS_lt3 {st : SortSt} {i j : Nat} {x y : Keyed} {b : Bool} {Q : Option Bool → SortSt → Prop} (hk : kindOf st = tuples' true)
    (hi : (arrOf st)[i]? = some x) (hj : (arrOf st)[j]? = some y) (hl : KL prog w A s x.1 y.1 b) (h : Q (some b) st) : wpS (model prog w) A E s (ltAt' i j) Q st := by
  rw [ltAt'_eq]
  refine wpS_bind (wpS_get ?_)
  show wpS _ _ _ _ (do let x ← elem' (arrOf st) i; let y ← elem' (arrOf st) j; lt' x y) Q st
  rw [elem'_eq, elem'_eq, hi, hj]
  refine wpS_bind (wpS_pure (wpS_bind (wpS_pure ?_)))
  rw [lt'_eq]
  refine wpS_bind (wpS_get ?_)
  rw [hk]
  refine wpS_bind (wpS_lift (wpAny_attempt (wpAny_mono (hl _) (fun r s' q => ?_) fun _ _ e => e)))
  obtain ⟨rfl, rfl⟩ := q
  exact ⟨rfl, wpS_pure h⟩
noncomputable abbrev S3 (x y z : Keyed) (p : Array (Nat × Nat × Nat)) : SortSt := SortSt.mk' (tuples' true) #[x, y, z] p 7 none
/-- the run at the start of three items: how far it goes, and how they then lie -/
theorem run_asc3 {x y z : Keyed} {Q : Option Nat → SortSt → Prop} (h1 : KL prog w A s y.1 x.1 false) (h2 : KL prog w A s z.1 y.1 false) (h : Q (some 3) (S3 x y z #[])) : wpS (model prog w) A E s (countRun' 0 3) Q (S3 x y z #[]) := by
  rw [countRun'_eq]
  refine wpS_bind (wpS_rangeC (by decide) ?_)
  (refine wpS_bind (wpS_lt3 rfl rfl rfl h1 ?_); dsimp only)
  (first | refine wpS_bind ?_ | refine wpS_rangeC (by decide) ?_ | refine wpS_rangeN (by decide) ?_ | refine wpS_pure ?_ | refine wpS_get ?_ | refine wpS_modify ?_ | refine wpS_lift (wpAny_rule ⟨rfl, ?_⟩))
  dsimp only
  refine wpS_rangeC (by decide) ?_
  (refine wpS_bind (wpS_lt3 rfl rfl rfl h2 ?_); dsimp only)
  (first | refine wpS_bind ?_ | refine wpS_rangeC (by decide) ?_ | refine wpS_rangeN (by decide) ?_ | refine wpS_pure ?_ | refine wpS_get ?_ | refine wpS_modify ?_ | refine wpS_lift (wpAny_rule ⟨rfl, ?_⟩))
  dsimp only
  refine wpS_rangeN (by decide) ?_
  dsimp only
  exact wpS_pure h
theorem run_two {x y z : Keyed} {Q : Option Nat → SortSt → Prop} (h1 : KL prog w A s y.1 x.1 false) (h2 : KL prog w A s z.1 y.1 true) (h3 : KL prog w A s x.1 y.1 true) (h : Q (some 2) (S3 x y z #[])) : wpS (model prog w) A E s (countRun' 0 3) Q (S3 x y z #[]) := by
  rw [countRun'_eq]
  refine wpS_bind (wpS_rangeC (by decide) ?_)
  (refine wpS_bind (wpS_lt3 rfl rfl rfl h1 ?_); dsimp only)
  (first | refine wpS_bind ?_ | refine wpS_rangeC (by decide) ?_ | refine wpS_rangeN (by decide) ?_ | refine wpS_pure ?_ | refine wpS_get ?_ | refine wpS_modify ?_ | refine wpS_lift (wpAny_rule ⟨rfl, ?_⟩))
  dsimp only
  refine wpS_rangeC (by decide) ?_
  (refine wpS_bind (wpS_lt3 rfl rfl rfl h2 ?_); dsimp only)
  (first | refine wpS_bind ?_ | refine wpS_rangeC (by decide) ?_ | refine wpS_rangeN (by decide) ?_ | refine wpS_pure ?_ | refine wpS_get ?_ | refine wpS_modify ?_ | refine wpS_lift (wpAny_rule ⟨rfl, ?_⟩))
  dsimp only
  (refine wpS_bind (wpS_lt3 rfl rfl rfl h3 ?_); dsimp only)
  exact wpS_pure h
theorem run_desc3 {x y z : Keyed} {Q : Option Nat → SortSt → Prop} (h1 : KL prog w A s y.1 x.1 true) (h2 : KL prog w A s z.1 y.1 true) (h : Q (some 3) (S3 z y x #[])) : wpS (model prog w) A E s (countRun' 0 3) Q (S3 x y z #[]) := by
  rw [countRun'_eq]
  refine wpS_bind (wpS_rangeC (by decide) ?_)
  (refine wpS_bind (wpS_lt3 rfl rfl rfl h1 ?_); dsimp only)
  (first | refine wpS_bind ?_ | refine wpS_rangeC (by decide) ?_ | refine wpS_rangeN (by decide) ?_ | refine wpS_pure ?_ | refine wpS_get ?_ | refine wpS_modify ?_ | refine wpS_lift (wpAny_rule ⟨rfl, ?_⟩))
  dsimp only
  refine wpS_bind (wpS_lift (wpAny_rule ⟨rfl, ?_⟩))
  refine wpS_bind (wpS_rangeC (by decide) ?_)
  (refine wpS_bind (wpS_lt3 rfl rfl rfl h2 ?_); dsimp only)
  (first | refine wpS_bind ?_ | refine wpS_rangeC (by decide) ?_ | refine wpS_rangeN (by decide) ?_ | refine wpS_pure ?_ | refine wpS_get ?_ | refine wpS_modify ?_ | refine wpS_lift (wpAny_rule ⟨rfl, ?_⟩))
  dsimp only
  refine wpS_rangeN (by decide) ?_
  dsimp only
  rw [reverseSlice'_eq]
  refine wpS_bind (wpS_modify ?_)
  refine wpS_bind (wpS_rangeN (by decide) ?_)
  exact wpS_pure h
theorem run_desc2 {x y z : Keyed} {Q : Option Nat → SortSt → Prop} (h1 : KL prog w A s y.1 x.1 true) (h2 : KL prog w A s z.1 y.1 false) (h3 : KL prog w A s y.1 z.1 true) {b : Bool} (h4 : KL prog w A s z.1 x.1 b) (h : Q (some (if b then 2 else 3)) (S3 y x z #[])) : wpS (model prog w) A E s (countRun' 0 3) Q (S3 x y z #[]) := by
  rw [countRun'_eq]
  refine wpS_bind (wpS_rangeC (by decide) ?_)
  (refine wpS_bind (wpS_lt3 rfl rfl rfl h1 ?_); dsimp only)
  (first | refine wpS_bind ?_ | refine wpS_rangeC (by decide) ?_ | refine wpS_rangeN (by decide) ?_ | refine wpS_pure ?_ | refine wpS_get ?_ | refine wpS_modify ?_ | refine wpS_lift (wpAny_rule ⟨rfl, ?_⟩))
  dsimp only
  refine wpS_bind (wpS_lift (wpAny_rule ⟨rfl, ?_⟩))
  refine wpS_bind (wpS_rangeC (by decide) ?_)
  (refine wpS_bind (wpS_lt3 rfl rfl rfl h2 ?_); dsimp only)
  (refine wpS_bind (wpS_lt3 rfl rfl rfl h3 ?_); dsimp only)
  (first | refine wpS_bind ?_ | refine wpS_rangeC (by decide) ?_ | refine wpS_rangeN (by decide) ?_ | refine wpS_pure ?_ | refine wpS_get ?_ | refine wpS_modify ?_ | refine wpS_lift (wpAny_rule ⟨rfl, ?_⟩))
  dsimp only
  rw [reverseSlice'_eq]
  refine wpS_bind (wpS_modify ?_)
  refine wpS_bind (wpS_rangeC (by decide) ?_)
  (refine wpS_bind (wpS_lt3 rfl rfl rfl h4 ?_); dsimp only)
  cases b with
  | true =>
    (first | refine wpS_bind ?_ | refine wpS_rangeC (by decide) ?_ | refine wpS_rangeN (by decide) ?_ | refine wpS_pure ?_ | refine wpS_get ?_ | refine wpS_modify ?_ | refine wpS_lift (wpAny_rule ⟨rfl, ?_⟩))
    dsimp only
    exact wpS_pure h
  | false =>
    (first | refine wpS_bind ?_ | refine wpS_rangeC (by decide) ?_ | refine wpS_rangeN (by decide) ?_ | refine wpS_pure ?_ | refine wpS_get ?_ | refine wpS_modify ?_ | refine wpS_lift (wpAny_rule ⟨rfl, ?_⟩))
    dsimp only
    refine wpS_rangeN (by decide) ?_
    exact wpS_pure h
theorem ins_two {x y z : Keyed} {Q : Bool → SortSt → Prop} (h1 : KL prog w A s z.1 y.1 true) {b : Bool} (h2 : KL prog w A s z.1 x.1 b) (h : Q true (if b then S3 z x y #[] else S3 x z y #[])) : wpS (model prog w) A E s (binarySort' 0 3 2) Q (S3 x y z #[]) := by
  rw [binarySort'_eq]
  refine wpS_bind (wpS_rangeC (by decide) ?_)
  dsimp only
  refine wpS_bind (wpS_rangeC (by decide) ?_)
  (refine wpS_bind (wpS_lt3 rfl rfl rfl h1 ?_); dsimp only)
  (first | refine wpS_bind ?_ | refine wpS_rangeC (by decide) ?_ | refine wpS_rangeN (by decide) ?_ | refine wpS_pure ?_ | refine wpS_get ?_ | refine wpS_modify ?_ | refine wpS_lift (wpAny_rule ⟨rfl, ?_⟩))
  dsimp only
  refine wpS_rangeC (by decide) ?_
  (refine wpS_bind (wpS_lt3 rfl rfl rfl h2 ?_); dsimp only)
  cases b with
  | true =>
    (first | refine wpS_bind ?_ | refine wpS_rangeC (by decide) ?_ | refine wpS_rangeN (by decide) ?_ | refine wpS_pure ?_ | refine wpS_get ?_ | refine wpS_modify ?_ | refine wpS_lift (wpAny_rule ⟨rfl, ?_⟩))
    dsimp only
    refine wpS_rangeN (by decide) ?_
    dsimp only
    rw [moveDown'_eq]
    refine wpS_bind (wpS_modify ?_)
    refine wpS_pure ?_
    dsimp only
    refine wpS_rangeN (by decide) ?_
    exact wpS_pure h
  | false =>
    (first | refine wpS_bind ?_ | refine wpS_rangeC (by decide) ?_ | refine wpS_rangeN (by decide) ?_ | refine wpS_pure ?_ | refine wpS_get ?_ | refine wpS_modify ?_ | refine wpS_lift (wpAny_rule ⟨rfl, ?_⟩))
    dsimp only
    refine wpS_rangeN (by decide) ?_
    dsimp only
    rw [moveDown'_eq]
    refine wpS_bind (wpS_modify ?_)
    refine wpS_pure ?_
    dsimp only
    refine wpS_rangeN (by decide) ?_
    exact wpS_pure h
noncomputable def res3 {α : Type} (b10 b21 b20 : Bool) (x y z : α) : Array α :=
  if b10 then (if b21 then #[z, y, x] else if b20 then #[y, z, x] else #[y, x, z]) else (if b21 then (if b20 then #[z, x, y] else #[x, z, y]) else #[x, y, z])
theorem sortRuns3 {x y z : Keyed} {b10 b21 b20 : Bool} {Q : Unit → SortSt → Prop} (k10 : KL prog w A s y.1 x.1 b10) (k01 : KL prog w A s x.1 y.1 (!b10)) (k21 : KL prog w A s z.1 y.1 b21) (k12 : KL prog w A s y.1 z.1 (!b21)) (k20 : KL prog w A s z.1 x.1 b20)
    (h : Q () (SortSt.mk' (tuples' true) (res3 b10 b21 b20 x y z) #[(0, 3, 0)] 7 none)) : wpS (model prog w) A E s sortRuns' Q (S3 x y z #[]) := by
  rw [sortRuns'_eq]
  refine wpS_bind (wpS_get ?_)
  dsimp only
  simp only [show (arrOf (S3 x y z #[])).size = 3 from rfl, show minRun' 3 3 0 = 3 from rfl]
  refine wpS_bind (wpS_rangeC (by decide) ?_)
  dsimp only
  rw [if_neg (by decide)]
  cases b10 <;> cases b21
  · refine wpS_bind (run_asc3 k10 k21 ?_)
    dsimp only
    rw [if_neg (by decide)]
    (refine wpS_bind (wpS_get ?_); rw [show ∀ (x y z : Keyed), (pendingOf (S3 x y z #[])).back? = none from fun _ _ _ => rfl]; dsimp only; refine wpS_bind (wpS_modify ?_); refine wpS_pure ?_; dsimp only; refine wpS_rangeC (by decide) ?_; rw [if_pos (by decide)]; refine wpS_pure ?_; dsimp only; refine wpS_bind (wpS_rangeC (by decide) ?_); refine wpS_bind (wpS_get ?_); rw [if_pos (by exact Nat.le_refl 1)]; refine wpS_pure ?_; dsimp only; exact wpS_pure h)
  · refine wpS_bind (run_two k10 k21 k01 ?_)
    dsimp only
    rw [if_pos (by decide)]
    refine wpS_bind (wpS_lift (wpAny_rule ⟨rfl, ?_⟩))
    refine wpS_bind (ins_two k21 k20 ?_)
    simp only [Bool.not_true, Bool.false_eq_true, if_false]
    cases b20
    · simp only [Bool.false_eq_true, if_false]
      (refine wpS_bind (wpS_get ?_); rw [show ∀ (x y z : Keyed), (pendingOf (S3 x y z #[])).back? = none from fun _ _ _ => rfl]; dsimp only; refine wpS_bind (wpS_modify ?_); refine wpS_pure ?_; dsimp only; refine wpS_rangeC (by decide) ?_; rw [if_pos (by decide)]; refine wpS_pure ?_; dsimp only; refine wpS_bind (wpS_rangeC (by decide) ?_); refine wpS_bind (wpS_get ?_); rw [if_pos (by exact Nat.le_refl 1)]; refine wpS_pure ?_; dsimp only; exact wpS_pure h)
    · simp only [if_true]
      (refine wpS_bind (wpS_get ?_); rw [show ∀ (x y z : Keyed), (pendingOf (S3 x y z #[])).back? = none from fun _ _ _ => rfl]; dsimp only; refine wpS_bind (wpS_modify ?_); refine wpS_pure ?_; dsimp only; refine wpS_rangeC (by decide) ?_; rw [if_pos (by decide)]; refine wpS_pure ?_; dsimp only; refine wpS_bind (wpS_rangeC (by decide) ?_); refine wpS_bind (wpS_get ?_); rw [if_pos (by exact Nat.le_refl 1)]; refine wpS_pure ?_; dsimp only; exact wpS_pure h)
  · refine wpS_bind (run_desc2 k10 k21 k12 k20 ?_)
    cases b20
    · simp only [Bool.false_eq_true, if_false]
      rw [if_neg (by decide)]
      (refine wpS_bind (wpS_get ?_); rw [show ∀ (x y z : Keyed), (pendingOf (S3 x y z #[])).back? = none from fun _ _ _ => rfl]; dsimp only; refine wpS_bind (wpS_modify ?_); refine wpS_pure ?_; dsimp only; refine wpS_rangeC (by decide) ?_; rw [if_pos (by decide)]; refine wpS_pure ?_; dsimp only; refine wpS_bind (wpS_rangeC (by decide) ?_); refine wpS_bind (wpS_get ?_); rw [if_pos (by exact Nat.le_refl 1)]; refine wpS_pure ?_; dsimp only; exact wpS_pure h)
    · simp only [if_true]
      rw [if_pos (by decide)]
      refine wpS_bind (wpS_lift (wpAny_rule ⟨rfl, ?_⟩))
      refine wpS_bind (ins_two k20 k21 ?_)
      simp only [Bool.not_true, Bool.false_eq_true, if_false]
      (refine wpS_bind (wpS_get ?_); rw [show ∀ (x y z : Keyed), (pendingOf (S3 x y z #[])).back? = none from fun _ _ _ => rfl]; dsimp only; refine wpS_bind (wpS_modify ?_); refine wpS_pure ?_; dsimp only; refine wpS_rangeC (by decide) ?_; rw [if_pos (by decide)]; refine wpS_pure ?_; dsimp only; refine wpS_bind (wpS_rangeC (by decide) ?_); refine wpS_bind (wpS_get ?_); rw [if_pos (by exact Nat.le_refl 1)]; refine wpS_pure ?_; dsimp only; exact wpS_pure h)
  · refine wpS_bind (run_desc3 k10 k21 ?_)
    dsimp only
    rw [if_neg (by decide)]
    (refine wpS_bind (wpS_get ?_); rw [show ∀ (x y z : Keyed), (pendingOf (S3 x y z #[])).back? = none from fun _ _ _ => rfl]; dsimp only; refine wpS_bind (wpS_modify ?_); refine wpS_pure ?_; dsimp only; refine wpS_rangeC (by decide) ?_; rw [if_pos (by decide)]; refine wpS_pure ?_; dsimp only; refine wpS_bind (wpS_rangeC (by decide) ?_); refine wpS_bind (wpS_get ?_); rw [if_pos (by exact Nat.le_refl 1)]; refine wpS_pure ?_; dsimp only; exact wpS_pure h)
end
end Mine
end

section
open PySem PySem.W PyProof.Rows
set_option Elab.async false
set_option linter.unusedVariables false
namespace Mine
set_option maxRecDepth 100000

section
variable {prog : Program} {w : World} {A : Around} {E : Value → Shared → Prop} {s : Shared}
noncomputable def IsKey (h : Heap) (v : Value) (k : Int × Int) : Prop := ∃ p t u, v = .ref p ∧ IsTup h p #[.int k.1 t, .int k.2 u]
theorem IsKey.keeps {h h' : Heap} {v : Value} {k : Int × Int} (x : IsKey h v k) (kk : ∀ b o, h.get? b = some o → h'.get? b = some o) : IsKey h' v k := by
  obtain ⟨p, t, u, e, i⟩ := x
  exact ⟨p, t, u, e, i.keeps kk⟩
theorem IsKey.but {h h' : Heap} {v : Value} {k : Int × Int} {a : Addr} {xs : Array Value} {n : Nat} (x : IsKey h v k) (ha : h.get? a = some (seqObj "list" xs n)) (kk : ∀ b o, b ≠ a → h.get? b = some o → h'.get? b = some o) : IsKey h' v k := by
  obtain ⟨p, t, u, e, o, ho, hc, hd⟩ := x
  refine ⟨p, t, u, e, o, kk p o (fun q => ?_) ho, hc, hd⟩
  subst q
  rw [ha] at ho; cases ho; simp at hc
noncomputable def kLt (x y : Int × Int) : Bool := ltPair x.1 x.2 y.1 y.2
theorem KL.key {x y : Value} {k j : Int × Int} (hx : IsKey s.heap x k) (hy : IsKey s.heap y j) : KL prog w A s x y (kLt k j) := by
  obtain ⟨p, t, u, rfl, i⟩ := hx
  obtain ⟨q, t', u', rfl, i'⟩ := hy
  exact KL.of i i'
theorem firstOfTuple_key {v : Value} {k : Int × Int} {Q : Option Value → Shared → Prop} (hx : IsKey s.heap v k) (h : ∀ t, Q (some (.int k.1 t)) s) : wpAny (model prog w) A (firstOfTuple' v) Q E s := by
  obtain ⟨p, t, u, rfl, o, ho, hc, n, hd⟩ := hx
  show wpAny (model prog w) A (do
    if (← typeOf (.ref p)) != .type "tuple" then return none
    return (← Builtin.List.listItems (.ref p))[0]?) Q E s
  refine wpAny_bind (wpAny_typeOf (T := "tuple") ⟨o, ho, hc⟩ ?_)
  rw [if_neg (by simp)]
  exact wpAny_bind (listItems_at ho hd (wpAny_pure (h t)))
theorem keyKind_keys {x y z : Value} {k1 k2 k3 : Int × Int} {Q : SortKind → Shared → Prop} (hx : IsKey s.heap x k1) (hy : IsKey s.heap y k2) (hz : IsKey s.heap z k3) (h : Q (tuples' true) s) : wpAny (model prog w) A (keyKind' #[x, y, z]) Q E s := by
  rw [keyKind'_eq]
  rw [show (#[x, y, z] : Array Value).mapM firstOfTuple' = List.toArray <$> [x, y, z].mapM firstOfTuple' from List.mapM_toArray]
  simp only [List.mapM_cons, List.mapM_nil, map_eq_pure_bind, bind_assoc, pure_bind]
  refine wpAny_bind (firstOfTuple_key hx fun t1 => wpAny_bind (firstOfTuple_key hy fun t2 => wpAny_bind (firstOfTuple_key hz fun t3 => ?_)))
  rw [if_pos (by simp only [List.all_toArray, List.all_cons, List.all_nil]; rfl)]
  refine wpAny_bind (wpAny_rule ?_)
  rw [oneTypeOnly'_eq]
  show wpAny (model prog w) A (do
    let r ← (do
      let ts ← (#[.int k1.1 t1, .int k2.1 t2, .int k3.1 t3] : Array Value).mapM typeOf
      match ts[0]? with
      | some t => return if ts.all (· == t) then some t else none
      | none => return none)
    return tuples' (r.any (· != .type "tuple"))) Q E s
  rw [show (#[.int k1.1 t1, .int k2.1 t2, .int k3.1 t3] : Array Value).mapM typeOf = List.toArray <$> [Value.int k1.1 t1, .int k2.1 t2, .int k3.1 t3].mapM typeOf from List.mapM_toArray]
  simp only [List.mapM_cons, List.mapM_nil, map_eq_pure_bind, bind_assoc, pure_bind]
  refine wpAny_bind (wpAny_typeOf (typeIs_int s _ _) (wpAny_bind (wpAny_typeOf (typeIs_int s _ _) (wpAny_bind (wpAny_typeOf (typeIs_int s _ _) ?_)))))
  refine wpAny_bind (wpAny_pure ?_)
  have hall : ((#[Value.type "int", Value.type "int", Value.type "int"] : Array Value).all fun x => x == Value.type "int") = true := by simp only [List.all_toArray, List.all_cons, List.all_nil]; rfl
  refine wpAny_pure ?_
  show Q (tuples' (Option.any (fun x => x != Value.type "tuple") (if ((#[Value.type "int", Value.type "int", Value.type "int"] : Array Value).all fun x => x == Value.type "int") = true then some (Value.type "int") else none))) s
  rw [if_pos hall]
  exact h

/-- the list being sorted, and the list of the keys -/
structure Srt (s : Shared) (a kS : Addr) (e1 : Nat) (ks : Array Value) (h : Heap) : Prop where
  old : ∀ b o, s.heap.get? b = some o → h.get? b = some o
  la : h.get? a = some (seqObj "list" #[] e1)
  lk : ∃ e, h.get? kS = some (seqObj "list" ks e)
theorem Srt.kp {a kS : Addr} {e1 : Nat} {ks : Array Value} {h : Heap} {s' s'' : Shared} (x : Srt s a kS e1 ks s'.heap) (k : Keeps s' s'') : Srt s a kS e1 ks s''.heap := by
  have kk := kp_keep k
  obtain ⟨e, hk⟩ := x.lk
  exact ⟨fun b o q => kk b o (x.old b o q), kk _ _ x.la, e, kk _ _ hk⟩
/-- one key -/
theorem key_turn {f : Addr} {a kS : Addr} {e1 : Nat} {ks : Array Value} {v : Value} {k : Int × Int} {h : Heap} {tk : Nat} (hka : kS ≠ a) (hkS : s.heap.get? kS = none) (hz : ks.size ≤ 3) (x : Srt s a kS e1 ks h)
    (turn : ∀ s', Keeps s s' → wpAny (model prog w) A (call (.ref f) [v]) (fun r s'' => Keeps s' s'' ∧ IsKey s''.heap r k) (fun _ _ => False) s')
    {rest : Value → Sem (ForInStep PUnit)} {Q : ForInStep PUnit → Shared → Prop}
    (hQ : ∀ r h' tk', Srt s a kS e1 (ks.push r) h' → IsKey h' r k → (∀ b o, b ≠ kS → h.get? b = some o → h'.get? b = some o) → wpAny (model prog w) A (pure (ForInStep.yield PUnit.unit)) Q E { s with heap := h', toks := tk' }) :
    wpAny (model prog w) A (do
      match ← (call (.ref f) [v]).attempt with
      | .ok k => Builtin.List.listUpdate (.ref kS) (·.push k); pure (ForInStep.yield PUnit.unit)
      | .error e => rest e) Q E { s with heap := h, toks := tk } := by
  refine wpAny_bind (wpAny_attempt (wpAny_mono (turn _ ⟨h, tk, rfl, x.old⟩) (fun r s'' q => ?_) fun _ _ hF => hF.elim))
  obtain ⟨kp, ik⟩ := q
  have x2 := Srt.kp (h := h) (s' := { s with heap := h, toks := tk }) x kp
  obtain ⟨h2, tk2, rfl, kk⟩ := kp
  obtain ⟨e, hk⟩ := x2.lk
  have sb := Heap.SameBut.update h2 kS (Obj.mapSeq (·.push r))
  obtain ⟨c2, hc2⟩ : ∃ c2, (h2.update kS (Obj.mapSeq (·.push r))).get? kS = some (seqObj "list" (ks.push r) c2) := ⟨_, get?_update_seq hk (·.push r)⟩
  have fits : (ks.push r).size ≤ sizeLine + 1 := Nat.le_trans (Nat.le_of_eq (Array.size_push ..)) (by rw [sizeLine_eq]; lia)
  dsimp only
  refine wpAny_bind (listUpdate_at hk rfl ?_ (by rw [sizeLine_eq]; lia) fits)
  refine hQ r _ _ ⟨fun b o q => sb.extBut b o (by rintro rfl; rw [hkS] at q; cases q) (x2.old b o q), (sb.2 a hka.symm).trans x2.la, c2, hc2⟩ (ik.but hk fun b o hb q => sb.extBut b o hb q) fun b o hb q => sb.extBut b o hb (kk b o q)

theorem list_sort3 {H : Heap} {a f : Addr} {v1 v2 v3 : Value} {k1 k2 k3 : Int × Int} {n : Nat} {P : PySem.Fin → Shared → Prop} (old : ∀ b o, s.heap.get? b = some o → H.get? b = some o) (ha0 : s.heap.get? a = none) (ho : H.get? a = some (seqObj "list" #[v1, v2, v3] n))
    (n12 : kLt k1 k2 = !kLt k2 k1) (n23 : kLt k2 k3 = !kLt k3 k2)
    (turn : ∀ v k, (v, k) ∈ [(v1, k1), (v2, k2), (v3, k3)] → ∀ s', Keeps s s' → wpAny (model prog w) A (call (.ref f) [v]) (fun r s'' => Keeps s' s'' ∧ IsKey s''.heap r k) (fun _ _ => False) s')
    (h : ∀ h' tk c, (∀ b o, s.heap.get? b = some o → h'.get? b = some o) → h'.get? a = some (seqObj "list" (res3 (kLt k2 k1) (kLt k3 k2) (kLt k3 k1) v1 v2 v3) c) → P (.done (.ret .none)) { s with heap := h', toks := tk }) :
    wpAny (model prog w) A (ksk_tree a (.ref f) false) P E { s with heap := H } := by
  have ha : a < H.objs.size := Heap.lt_size ho
  have s1 := Heap.SameBut.update H a (Obj.mapSeq fun _ => (#[] : Array Value))
  obtain ⟨e1, ho1⟩ : ∃ e1, (H.update a (Obj.mapSeq fun _ => (#[] : Array Value))).get? a = some (seqObj "list" #[] e1) := ⟨_, get?_update_seq ho fun _ => #[]⟩
  unfold ksk_tree
  refine wpAny_bind (listItems_at (s := { s with heap := H }) ho rfl ?_)
  refine wpAny_bind (listUpdate_at (s := { s with heap := H }) ho rfl ?_ (by rw [sizeLine_eq]; show 3 ≤ 16777216; decide) (Nat.zero_le _))
  refine wpAny_bind (seqEpoch_at (s := { s with heap := H.update a (Obj.mapSeq fun _ => (#[] : Array Value)) }) ho1 rfl ?_)
  refine wpAny_bind (wpAny_newTuple ?_ (by show 3 ≤ _; rw [sizeLine_eq]; decide))
  refine wpAny_bind (wpAny_newList ?_ (Nat.zero_le _))
  refine wpAny_holding ?_
  generalize hH1 : H.update a (Obj.mapSeq fun _ => (#[] : Array Value)) = H1 at s1 ho1
  have hsz1 : H1.objs.size = H.objs.size := by rw [← hH1, Heap.size_update]
  dsimp only
  generalize hkS : (H1.push (seqObj "tuple" #[v1, v2, v3] 0)).objs.size = kS
  have ekS : kS = H.objs.size + 1 := by rw [← hkS, size_push', hsz1]
  have hka : kS ≠ a := by rw [ekS]; exact Nat.ne_of_gt (Nat.lt_succ_of_lt ha)
  have hkS0 : s.heap.get? kS = none := by
    cases e : s.heap.get? kS with
    | none => rfl
    | some o => exact absurd (Heap.lt_size (old _ _ e)) (by rw [ekS]; exact Nat.not_lt.mpr (Nat.le_succ _))
  have x0 : Srt s a kS e1 #[] ((H1.push (seqObj "tuple" #[v1, v2, v3] 0)).push (seqObj "list" #[] 0)) := by
    refine ⟨fun b o q => Heap.get?_push_of_some _ (Heap.get?_push_of_some _ (s1.extBut b o (by rintro rfl; rw [ha0] at q; cases q) (old b o q))), Heap.get?_push_of_some _ (Heap.get?_push_of_some _ ho1), 0, ?_⟩
    rw [← hkS]; exact Heap.get?_push_size _ rfl
  show wpAny (model prog w) A (ksk_rest a (.ref f) false #[v1, v2, v3] e1 (.ref kS)) P E { s with heap := (H1.push (seqObj "tuple" #[v1, v2, v3] 0)).push (seqObj "list" #[] 0) }
  generalize (H1.push (seqObj "tuple" #[v1, v2, v3] 0)).push (seqObj "list" #[] 0) = H2 at x0
  unfold ksk_rest
  refine wpAny_bind (wpAny_rule ?_)
  rw [← Array.forIn_toList]
  simp only [List.forIn_cons, List.forIn_nil]
  refine wpAny_bind (wpAny_bind (key_turn hka hkS0 (Nat.zero_le _) x0 (turn v1 k1 (by simp)) fun r1 h1 t1 x1 i1 g1 => wpAny_pure ?_))
  dsimp only
  refine wpAny_bind (key_turn hka hkS0 (Nat.le_of_ble_eq_true rfl) x1 (turn v2 k2 (by simp)) fun r2 h2 t2 x2 i2 g2 => wpAny_pure ?_)
  dsimp only
  refine wpAny_bind (key_turn hka hkS0 (Nat.le_of_ble_eq_true rfl) x2 (turn v3 k3 (by simp)) fun r3 h3 t3 x3 i3 g3 => wpAny_pure ?_)
  dsimp only
  refine wpAny_pure ?_
  obtain ⟨c1, l1⟩ := x1.lk
  obtain ⟨c2, l2⟩ := x2.lk
  have i1' : IsKey h3 r1 k1 := (i1.but l1 g2).but l2 g3
  have i2' : IsKey h3 r2 k2 := i2.but l2 g3
  obtain ⟨c3, l3⟩ := x3.lk
  refine wpAny_bind (listItems_at (s := { s with heap := h3, toks := t3 }) l3 rfl ?_)
  show wpAny (model prog w) A (ksk_end a false #[v1, v2, v3] e1 (.ref kS) #[r1, r2, r3]) P E { s with heap := h3, toks := t3 }
  unfold ksk_end
  simp only [Bool.false_eq_true, if_false]
  rw [if_neg (show ¬ (#[v1, v2, v3] : Array Value).size < 2 from by show ¬ 3 < 2; decide), if_neg (show ¬ (#[v1, v2, v3] : Array Value).size < 2 from by show ¬ 3 < 2; decide)]
  refine wpAny_bind (keyKind_keys (s := { s with heap := h3, toks := t3 }) i1' i2' i3 ?_)
  have kl : ∀ {x y : Value} {k j : Int × Int}, IsKey h3 x k → IsKey h3 y j → KL prog w A { s with heap := h3, toks := t3 } x y (kLt k j) := fun hx hy => KL.key (s := { s with heap := h3, toks := t3 }) hx hy
  have z : (#[r1, r2, r3] : Array Value).zip #[v1, v2, v3] = #[(r1, v1), (r2, v2), (r3, v3)] := by simp
  rw [z]
  have run := fun E => (sortRuns3 (E := E) (x := (r1, v1)) (y := (r2, v2)) (z := (r3, v3)) (kl i2' i1') (n12 ▸ kl i1' i2') (kl i3 i2') (n23 ▸ kl i2' i3) (kl i3 i1') (Q := fun _ st => st = SortSt.mk' (tuples' true) (res3 (kLt k2 k1) (kLt k3 k2) (kLt k3 k1) (r1, v1) (r2, v2) (r3, v3)) #[(0, 3, 0)] 7 none) rfl)
  unfold wpS at run
  refine wpAny_bind (wpAny_mono (run _) ?_ fun _ _ e => e)
  rintro ⟨⟨⟩, st⟩ s' ⟨rfl, q⟩
  dsimp only at q ⊢
  subst q
  unfold ksk_tail
  dsimp only
  have s2 := Heap.SameBut.update h3 kS (Obj.mapSeq fun _ => (#[] : Array Value))
  refine wpAny_bind (listUpdate_at (s := { s with heap := h3, toks := t3 }) l3 rfl ?_ (by rw [sizeLine_eq]; show 3 ≤ 16777216; decide) (Nat.zero_le _))
  refine wpAny_bind (wpAny_letGo ?_)
  have la' := (s2.2 a hka.symm).trans x3.la
  refine wpAny_bind (seqEpoch_at la' rfl ?_)
  have e5 : (res3 (kLt k2 k1) (kLt k3 k2) (kLt k3 k1) (r1, v1) (r2, v2) (r3, v3)).map (fun x : Keyed => x.2) = res3 (kLt k2 k1) (kLt k3 k2) (kLt k3 k1) v1 v2 v3 := by
    cases kLt k2 k1 <;> cases kLt k3 k2 <;> cases kLt k3 k1 <;> simp [res3]
  have e6 : (res3 (kLt k2 k1) (kLt k3 k2) (kLt k3 k1) v1 v2 v3).size = 3 := by
    cases kLt k2 k1 <;> cases kLt k3 k2 <;> cases kLt k3 k1 <;> rfl
  show wpAny (model prog w) A (do
    Builtin.List.listUpdate (.ref a) fun _ => (res3 (kLt k2 k1) (kLt k3 k2) (kLt k3 k1) (r1, v1) (r2, v2) (r3, v3)).map (fun x : Keyed => x.2)
    if let some e := (none : Option Value) then rule "list.sort.comparison-raised"; throw e
    if (e1 != e1) = true then rule "list.sort.modified"; raiseError "ValueError" "list modified during sort"
    ret .none) P E { s with heap := h3.update kS (Obj.mapSeq fun _ => (#[] : Array Value)), toks := t3 }
  rw [e5]
  have s3 := Heap.SameBut.update (h3.update kS (Obj.mapSeq fun _ => (#[] : Array Value))) a (Obj.mapSeq fun _ => res3 (kLt k2 k1) (kLt k3 k2) (kLt k3 k1) v1 v2 v3)
  refine wpAny_bind (listUpdate_at (s := { s with heap := h3.update kS (Obj.mapSeq fun _ => (#[] : Array Value)), toks := t3 }) la' rfl ?_ (Nat.zero_le _) (Nat.le_trans (Nat.le_of_eq e6) (by rw [sizeLine_eq]; decide)))
  simp only [bne_self_eq_false, Bool.false_eq_true, if_false]
  refine wpAny_pure (h _ t3 _ (fun b o q => s3.extBut b o (by rintro rfl; rw [ha0] at q; cases q) (s2.extBut b o (by rintro rfl; rw [hkS0] at q; cases q) (x3.old b o q))) (get?_update_seq la' fun _ => res3 (kLt k2 k1) (kLt k3 k2) (kLt k3 k1) v1 v2 v3))
theorem sorted3 {l f : Addr} {v1 v2 v3 : Value} {k1 k2 k3 : Int × Int} {Q : Value → Shared → Prop} (hl : s.heap.IsList l #[v1, v2, v3]) (n12 : kLt k1 k2 = !kLt k2 k1) (n23 : kLt k2 k3 = !kLt k3 k2)
    (turn : ∀ v k, (v, k) ∈ [(v1, k1), (v2, k2), (v3, k3)] → ∀ s', Keeps s s' → wpAny (model prog w) A.in1.in1 (call (.ref f) [v]) (fun r s'' => Keeps s' s'' ∧ IsKey s''.heap r k) (fun _ _ => False) s')
    (h : ∀ a s', Keeps s s' → s.heap.get? a = none → s'.heap.PlainList a (res3 (kLt k2 k1) (kLt k3 k2) (kLt k3 k1) v1 v2 v3) → Q (.ref a) s') :
    wpAny (model prog w) A (call (.builtin "sorted") [.ref l] [(Str.ofString "key", .ref f)]) Q E s := by
  refine call_function_entry_kw kind_sorted plain_sorted entry_sorted (ksk_s1 _ _) ?_
  unfold Builtin.«sorted»
  refine wpAny_bind (m := checkCount "sorted" 1 1 _) (wpAny_pure ?_)
  refine wpAny_bind (collect_list (vs := [v1, v2, v3]) hl ?_ (by rw [sizeLine_eq]; show 3 ≤ 16777216; decide))
  refine wpAny_bind (wpAny_newList ?_ (by rw [sizeLine_eq]; show 3 ≤ 16777216; decide))
  have hsz : ((s.heap.push (seqObj "list" #[] 0)).update s.heap.objs.size (Obj.mapSeq (· ++ [v1, v2, v3].toArray))).objs.size = s.heap.objs.size + 1 := by
    rw [Heap.size_update, size_push']
  have hoL : (((s.heap.push (seqObj "list" #[] 0)).update s.heap.objs.size (Obj.mapSeq (· ++ [v1, v2, v3].toArray))).push (seqObj "list" [v1, v2, v3].toArray 0)).get? (s.heap.objs.size + 1) = some (seqObj "list" [v1, v2, v3].toArray 0) := by
    rw [← hsz]; exact Heap.get?_push_size _ rfl
  have keep : ∀ b o, s.heap.get? b = some o → (((s.heap.push (seqObj "list" #[] 0)).update s.heap.objs.size (Obj.mapSeq (· ++ [v1, v2, v3].toArray))).push (seqObj "list" [v1, v2, v3].toArray 0)).get? b = some o := fun b o q => by
    have hlt : b < s.heap.objs.size := Heap.lt_size q
    rw [Heap.get?_push_ne _ _ _ (by rw [hsz]; exact Nat.ne_of_lt (Nat.lt_succ_of_lt hlt)), Heap.get?_update_ne _ _ _ _ (Nat.ne_of_lt hlt), Heap.get?_push_ne _ _ _ (Nat.ne_of_lt hlt)]
    exact q
  show wpAny _ _ _ _ _ { s with heap := ((s.heap.push (seqObj "list" #[] 0)).update s.heap.objs.size (Obj.mapSeq (· ++ [v1, v2, v3].toArray))).push (seqObj "list" [v1, v2, v3].toArray 0) }
  rw [hsz]
  have hnone : s.heap.get? (s.heap.objs.size + 1) = none := by
    cases e : s.heap.get? (s.heap.objs.size + 1) with
    | none => rfl
    | some o => exact absurd (Heap.lt_size e) (Nat.not_lt.mpr (Nat.le_succ _))
  refine wpAny_bind (wpAny_holding (wpAny_call_entry_kw slot_list_sort ⟨_, hoL, rfl⟩ entry_list_sort ?body (ksk_l1 _ _)))
  case body =>
    show wpAny (model prog w) A.in1.in1 (Builtin.«list.sort» ⟨[.ref (s.heap.objs.size + 1)], [(Str.ofString "key", .ref f)]⟩) _ _ _
    rw [ksk_t1]
    refine list_sort3 (s := s) keep hnone hoL n12 n23 turn fun h' tk c old hc => ⟨_, rfl, ?_⟩
    exact wpAny_pure ⟨_, rfl, h _ _ ⟨h', tk, rfl, old⟩ hnone ⟨c, hc⟩⟩
end
end Mine
end

section
open PySem PySem.W PyProof.Rows
set_option Elab.async false
set_option linter.unusedVariables false
namespace Mine
set_option maxRecDepth 100000

section
variable {g : Pl} {rows : List Row} {k : Nat} {A : Around} {E : Value → Shared → Prop} {s : Shared}
theorem at_tab {s' : Shared} (h : GndT g) (a : At (GT g rows) s) (m : ∀ b o, b ≠ tabA → s.heap.get? b = some o → s'.heap.get? b = some o) (tc : TabC s'.heap) : At (GT g rows) s' := by
  obtain ⟨ps, hP, _⟩ := a.tabP.ex
  have t := a.tab
  obtain ⟨vs, n, eL, rs⟩ := t.list
  obtain ⟨hs, tk, n', hd⟩ := t.dict
  have hT : g.T ≠ tabA := fun e => by have := t.inst; rw [e, hP] at this; cases this
  have hTD : g.TD ≠ tabA := fun e => by rw [e, hP] at hd; cases hd
  have hL : g.L ≠ tabA := fun e => by rw [e, hP] at eL; cases eL
  have ks : ∀ b o its n, o.data = .seq its n → s.heap.get? b = some o → s'.heap.get? b = some o := fun b o its n hdd e => m b o (by rintro rfl; rw [hP] at e; cases e; cases hdd) e
  refine ⟨fun b o hb => m b o (by rintro rfl; rw [show (GT g rows).hB = g.hB from rfl, h.hid] at hb; cases hb) (a.keep b o hb), fun b hb => ?_, fun b hb => ?_, ⟨m _ _ hT t.inst, ⟨hs, tk, n', m _ _ hTD hd⟩, vs, n, m _ _ hL eL, rs.mono (fun b o its n _ hdd e => ks b o its n hdd e) (fun b o its n _ hdd e => ks b o its n hdd e)⟩, tc⟩
  · have hb := List.mem_singleton.mp hb
    subst hb
    exact ⟨_, m _ _ hL eL⟩
  · have hb : b ∈ [g.T, g.TD] := hb
    simp at hb
    rcases hb with rfl | rfl
    · exact ⟨_, m _ _ hT t.inst⟩
    · exact ⟨_, m _ _ hTD hd⟩

/-- the lambda in _law_answer is made -/
theorem lam_make {ρ : Names} {s₀ : Shared} {env : Env} {params : Arguments} {body : Expr} {scope : Scope} {pos : Pos} {cl : List (Str × Addr)} {Q : Value → Shared → Prop} (h : GndT g) (f : Frm (GT g rows) s₀ env ρ s)
    (hcode : env.code = .ref 308) (hgl : env.globals = mainGlobals) (hq : env.qual ++ "<lambda>" = lamQual) (hpos : pos = LPOS) (hdef : defaultsOf params env = ([], [])) (hcl : closureFor scope env = pure cl) (hne : cl.isEmpty = false)
    (hQ : ∀ f pm c' ctv s', Mv g s s' → At (GT g rows) s' → s'.heap.get? f = some (kla_obj "<lambda>" lamQual params body scope cl pm c' ctv) → s'.heap.CodeRec (.ref c') lamQual → (∀ b o, b ≠ tabA → s.heap.get? b = some o → s'.heap.get? b = some o) → Q (.ref f) s') :
    wpAny (model g.prog g.w) A (eval (.Lambda params body scope pos) env) Q E s := by
  obtain ⟨p, loose, mean, mg, mb, T⟩ := h.main
  have a := f.at_
  have hgs : s.heap.Ns mainGlobals mg := T.g.keeps a.keep
  obtain ⟨bm, ob, b1, b2, b3, b4, b5, b6⟩ := T.bmain
  have hbo := a.keep _ _ b3
  obtain ⟨ps, hP, tr, cs⟩ := a.tabP.ex
  have hgP : mainGlobals ≠ tabA := fun q => by
    obtain ⟨o, es, ep, e, hd, _⟩ := hgs
    rw [q, hP] at e; cases e; cases hd
  have hbP : bm ≠ tabA := fun q => by
    rw [q, hP] at hbo; cases hbo; cases b4
  have hbG : bm ≠ mainGlobals := fun q => by
    obtain ⟨o, es, ep, e, hd, _⟩ := T.g
    rw [q, e] at b3; cases b3; rw [hd] at b6; cases b6
  have C : CodeHd s.heap 308 tabA := codeHd_of_K (K := KK g.w) (a.kin (h.at rows)) (by rfl)
  refine kla_eval hdef ?_
  rw [hq, hpos, makeFunction_eq]
  simp only [List.zip_nil_right, List.filterMap_nil, List.isEmpty_nil, if_true, pure_bind]
  unfold makeTail
  rw [hcl, hgl]
  refine wpAny_bind (wpAny_pure ?_)
  rw [hne]
  simp only [Bool.false_eq_true, if_false]
  refine wpAny_bind (wpAny_newTextTuple ?_)
  generalize hO : ({ cls := Value.type "tuple", data := Data.seq _ } : Obj) = oT
  have hx0 : ∀ b o, s.heap.get? b = some o → (s.heap.push oT).get? b = some o := fun b o e => Heap.get?_push_of_some _ e
  rcases cs with hnf | ⟨c', hf, cc⟩
  · refine wpAny_bind (wpAny_functionCodeX (c := 308) (P := tabA) (ps := ps) hcode ((C.keeps hx0).code (hx0 _ _ hP) tr) ((C.keeps hx0).tab (hx0 _ _ hP)) hnf fun c' h' tk hx hge hlt _ hrec htb hcx => ?_)
    have hg' := (hgs.push oT).extBut hx hgP
    have hx' : ∀ b o, b ≠ tabA → s.heap.get? b = some o → h'.get? b = some o := fun b o hb' e => hx b o hb' (hx0 b o e)
    refine wpAny_bind (wpAny_builtinsFor hg' b1 b2 (hx' _ _ hbP hbo) b4 b5 b6 ?_)
    refine wpAny_bind (wpAny_nsGet hg' ?_)
    refine wpAny_bind (wpAny_pure (wpAny_newObj_type ?_ (by size_fits)))
    have tc : TabC (h'.push (kla_obj "<lambda>" lamQual params body scope cl ((mg "__name__").getD .none) c' (.ref s.heap.objs.size))) := by
      refine ⟨_, Heap.get?_push_of_some _ htb.2, ?_, .inr ⟨c', ?_, ?_⟩⟩
      · simp only [Array.toList_append]
        exact TriplesOk_snoc _ _ _ _ tr
      · simp only [Array.toList_append]
        exact codeAmong_snoc _ tr hnf
      · obtain ⟨c₂, o, vs, t, e2, g2, hd2, hv⟩ := hrec
        cases e2
        obtain ⟨P', _, _, ⟨⟨o', vs', k1, k2, k3, k4⟩, _⟩⟩ := hcx
        rw [k1] at g2; cases g2
        exact ⟨_, vs, t, Heap.get?_push_of_some _ k1, k2, hd2, hv⟩
    refine hQ _ _ c' _ _ ⟨⟨_, _, rfl⟩, fun b o hb e => Heap.get?_push_of_some _ (hx' b o hb.2 e)⟩ (at_tab h a (fun b o hb e => Heap.get?_push_of_some _ (hx' b o hb e)) tc) (Heap.get?_push_size _ rfl) (hrec.push _) fun b o hb e => Heap.get?_push_of_some _ (hx' b o hb e)
  · refine wpAny_bind (wpAny_functionCode_hit (c := 308) (P := tabA) (ps := ps) hcode ((C.keeps hx0).code (hx0 _ _ hP) tr) hf ?_)
    refine wpAny_bind (wpAny_builtinsFor (hgs.push oT) b1 b2 (hx0 _ _ hbo) b4 b5 b6 ?_)
    refine wpAny_bind (wpAny_nsGet (hgs.push oT) ?_)
    refine wpAny_bind (wpAny_pure (wpAny_newObj_type ?_ (by size_fits)))
    have kk : ∀ b o, s.heap.get? b = some o → ((s.heap.push oT).push (kla_obj "<lambda>" lamQual params body scope cl ((mg "__name__").getD .none) c' (.ref s.heap.objs.size))).get? b = some o := fun b o e => Heap.get?_push_of_some _ (hx0 b o e)
    obtain ⟨o, vs, t, k1, k2, k3, k4⟩ := cc.ex
    exact hQ _ _ c' _ _ ⟨⟨_, _, rfl⟩, fun b o hb e => kk b o e⟩ (at_tab h a (fun b o hb e => kk b o e) (a.tabP.keep kk)) (Heap.get?_push_size _ rfl) ⟨c', o, vs, t, rfl, kk _ _ k1, k3, k4⟩ fun b o hb e => kk b o e
/-- a lambda with one name of its own and one free name -/
theorem call_lam {G : Glo} {f : Addr} {name qual : Str} {params : Arguments} {body : Expr} {scope : Scope} {cl : List (Str × Addr)} {pm ctv v u : Value} {c' c : Addr} {x y : Str} {d e dr : D}
    (ho : s.heap.get? f = some (kla_obj name qual params body scope cl pm c' ctv)) (hcd : s.heap.CodeRec (.ref c') qual) (hlim : s.heap.NoLimit) (rm : Room A (k + 1)) (ha : At G s)
    (hbind : bindArgs (kla_fn name qual params body scope cl pm (.ref c') ctv) ⟨[v], []⟩ = pure [(x, v)]) (hx : scope.names.lookup x = some .local) (hxy : x ≠ y) (hy : scope.names.lookup y = some .free) (hyn : (y == ("__classdict__" : Str)) = false)
    (hyc : cl.lookup y = some c) (hcell : s.heap.IsCell c (some u)) (r : Rep G.H s.heap d v) (ru : Rep G.H s.heap e u) (hev : Ev G k scope.names [(x, d), (y, e)] body dr)
    (hk : scope.kind = .function) (hco : scope.isCoroutine = false) (hgen : scope.isGenerator = false) (hnc : ∀ z ∈ scope.names, z.2 ≠ .cell) :
    wpAny (model G.prog G.w) A (call (.ref f) [v]) (fun r s' => Keeps s s' ∧ Rep G.H s'.heap dr r) E s := by
  refine wpAny_call (kla_callFunE rm.d ho rfl hco hgen rfl hcd ?_)
  rw [hbind]
  refine wpAny_pure (wpAny_newFunctionEnv hnc (fun z hz => ?_) (fun h₁ hns hsb => ⟨hlim.fresh _ hsb, ?_⟩) hk)
  · have hz := List.mem_singleton.mp hz
    rw [hz]; exact hx
  · have kk : ∀ b o, s.heap.get? b = some o → h₁.get? b = some o := fun b o e => hsb.extBut b o (Nat.ne_of_lt (Heap.lt_size e)) (Heap.get?_push_of_some _ e)
    have kp : Keeps s { s with heap := h₁, toks := s.toks + 1 } := ⟨h₁, _, rfl, kk⟩
    refine kla_codeExpr (wpAny_mono (hev.run _ _ _ _ (rm.deeper _) ⟨hk, rfl, rfl, fun z kd _ hz => hz⟩ (ha.of kp) fun z dz hz => ?_) (fun w' s' q => ⟨kp_trans kp q.1, q.2⟩) fun _ _ e => e)
    rw [List.lookup_cons] at hz
    cases hb : z == x with
    | true =>
      rw [hb] at hz; cases hz
      have : z = x := beq_iff_eq.mp hb
      subst this
      exact ⟨v, .inl ⟨hx, _, hns, by simp⟩, r.keep kk⟩
    | false =>
      rw [hb, List.lookup_cons] at hz
      cases hb2 : z == y with
      | false => rw [hb2] at hz; cases hz
      | true =>
        rw [hb2] at hz; cases hz
        have : z = y := beq_iff_eq.mp hb2
        subst this
        exact ⟨u, .inr (.inr ⟨hy, hyn, c, hyc, hcell.keeps kk⟩), ru.keep kk⟩
end
end Mine
end

section
open PySem PySem.W PyProof.Rows
set_option Elab.async false
set_option linter.unusedVariables false
namespace Mine
set_option maxRecDepth 100000

/-! ## what _law_answer gives -/
noncomputable def pmin (a b : Int) : Int := if b < a then b else a
noncomputable def pmax (a b : Int) : Int := if b > a then b else a
noncomputable def abvN (g : Int) : Nat → Nat → Nat
  | 0, a => a
  | n + 1, a => if (((a : Int) + 1) * ((a : Int) + 2)).fdiv 2 ≤ g then abvN g n (a + 1) else a
theorem abvN_le (g : Int) : ∀ n a, a ≤ abvN g n a
  | 0, a => Nat.le_refl a
  | n + 1, a => by
    unfold abvN
    split
    · exact Nat.le_trans (Nat.le_succ a) (abvN_le g n (a + 1))
    · exact Nat.le_refl a
theorem abvN_lt (g : Int) : ∀ n a i, a ≤ i → i < abvN g n a → (((i : Int) + 1) * ((i : Int) + 2)).fdiv 2 ≤ g
  | 0, a, i, h1, h2 => by unfold abvN at h2; lia
  | n + 1, a, i, h1, h2 => by
    unfold abvN at h2
    split at h2
    · rename_i h
      rcases Nat.eq_or_lt_of_le h1 with rfl | h3
      · exact h
      · exact abvN_lt g n (a + 1) i h3 h2
    · lia
theorem abvN_ge (g : Int) (hg : 0 ≤ g) : ∀ n a : Nat, g < (a : Int) + n → ¬ ((((abvN g n a : Nat) : Int) + 1) * (((abvN g n a : Nat) : Int) + 2)).fdiv 2 ≤ g
  | 0, a, h => by
    unfold abvN
    rw [Int.fdiv_eq_ediv_of_nonneg _ (by decide)]
    have h' : g < a := by simpa using h
    have h2 : ((a : Int) + 1) * 2 ≤ ((a : Int) + 1) * ((a : Int) + 2) := Int.mul_le_mul_of_nonneg_left (by lia) (by lia)
    lia
  | n + 1, a, h => by
    unfold abvN
    split
    · exact abvN_ge g hg n (a + 1) (by push_cast at h ⊢; lia)
    · assumption
noncomputable def above (g : Int) : Nat := abvN g (g.toNat + 1) 0
noncomputable def newOf (m1 m2 m3 g : Int) : List Int :=
  if m1 ≤ g then [m1, pmin m2 (g - m1), pmax 0 (g - m1 - m2)]
  else if m3 ≤ g then [g - m3, 0, m3]
  else if (m3 - 1 - g).fmod ((above g : Int) + 1) = 0 then [m3 + pmin (m1 - m3) (above g), m3 + (above g) - pmin (m1 - m3) (above g), m3]
  else if (above g : Int) ≤ m1 - m3 + 2 * (m3 - 1 - g).fmod ((above g : Int) + 1) then [m3 - (m3 - 1 - g).fmod ((above g : Int) + 1) + above g - (m3 - 1 - g).fmod ((above g : Int) + 1), m3 - (m3 - 1 - g).fmod ((above g : Int) + 1), m3]
  else [m3 - (m3 - 1 - g).fmod ((above g : Int) + 1) + above g - (m2 - (m3 - (m3 - 1 - g).fmod ((above g : Int) + 1))), m2, m3 - (m3 - 1 - g).fmod ((above g : Int) + 1)]
noncomputable def ordL (a b c : Int) : List Int := (res3 (decide (a < b)) (decide (b < c)) (decide (a < c)) (0 : Int) 1 2).toList
noncomputable def prt (a b c k : Int) : Int := if k = 0 then a else if k = 1 then b else c
noncomputable def sorted3L (a b c : Int) : List Int := (ordL a b c).map (prt a b c)
noncomputable def at3 (l : List Int) (i : Nat) : Int := l.getD i 0
noncomputable def newL (a b c g : Int) : List Int := newOf (at3 (sorted3L a b c) 0) (at3 (sorted3L a b c) 1) (at3 (sorted3L a b c) 2) g
noncomputable def ansL (a b c g : Int) : List Int := [0, 1, 2].map fun k : Int => at3 (newL a b c g) ((ordL a b c).idxOf k)

theorem ordL_cases (a b c : Int) : ordL a b c ∈ ([[0, 1, 2], [0, 2, 1], [1, 0, 2], [1, 2, 0], [2, 0, 1], [2, 1, 0]] : List (List Int)) := by
  unfold ordL
  cases decide (a < b) <;> cases decide (b < c) <;> cases decide (a < c) <;> decide
theorem newOf_len (m1 m2 m3 g : Int) : ∃ x y z, newOf m1 m2 m3 g = [x, y, z] := by
  unfold newOf
  split
  · exact ⟨_, _, _, rfl⟩
  · split
    · exact ⟨_, _, _, rfl⟩
    · split
      · exact ⟨_, _, _, rfl⟩
      · split
        · exact ⟨_, _, _, rfl⟩
        · exact ⟨_, _, _, rfl⟩
end Mine
end

section
open PySem PySem.W PyProof.Rows
set_option Elab.async false
set_option linter.unusedVariables false
namespace Mine
set_option maxRecDepth 100000

theorem kLt_key (p q : Int) (i j : Int) (hij : i < j) : kLt (-q, j) (-p, i) = decide (p < q) ∧ kLt (-p, i) (-q, j) = !decide (p < q) := by
  unfold kLt ltPair
  refine ⟨?_, ?_⟩
  · dsimp only
    by_cases h : p < q
    · rw [if_neg (by lia)]; simp
    · by_cases h2 : p = q
      · rw [if_pos (by lia)]; simp [h2]; lia
      · rw [if_neg (by lia)]; simp
  · dsimp only
    by_cases h : p < q
    · rw [if_neg (by lia)]; simp [h]; lia
    · by_cases h2 : p = q
      · rw [if_pos (by lia)]; simp [h2]; lia
      · rw [if_neg (by lia)]; simp [h]; lia
section
variable {g : Pl} {rows : List Row} {k : Nat} {A : Around} {E : Value → Shared → Prop} {s : Shared}
/-- order = sorted([0, 1, 2], key=lambda k: (-parts[k], k)) -/
theorem order_stmt {ρ : Names} {s₀ : Shared} {env : Env} {c : Addr} {sc scope : Scope} {x : Str} {p p2 p3 lp cp kp pos : Pos} {es : List Expr} {params : Arguments} {body : Expr} {P Q R : Int} {Z : Flow → Shared → Prop} (h : GndT g) (rm : Room A (k + 3)) (de : DefEnv sc env) (hk : sc.kind = .function) (f : Frm (GT g rows) s₀ env ρ s)
    (hcode : env.code = .ref 308) (hq : env.qual ++ "<lambda>" = lamQual) (hpos : pos = LPOS) (hdef : defaultsOf params env = ([], [])) (hcl : closureFor scope env = pure [(Str.ofString "parts", c)]) (hcl2 : env.cells.lookup (Str.ofString "parts") = some c) (hkc : env.kindOf (Str.ofString "parts") = some .cell)
    (hparts : ρ.lookup (Str.ofString "parts") = some (.list [.int P, .int Q, .int R])) (hs3 : sc.names.lookup (Str.ofString "sorted") = some .globalImplicit) (hx : storable sc x = true)
    (hes : Evs (GT g rows) (k + 3) sc.names ρ es [.int 0, .int 1, .int 2])
    (hstar : ∀ env, starEach [.List es lp] env = [(false, eval (.List es lp) env)])
    (hsw : ∀ env, swapsWith (.Call (.Name (Str.ofString "sorted") p) [.List es lp] [⟨some (Str.ofString "key"), .Lambda params body scope pos, kp⟩] cp) (some (.Name x p2)) p3.line env = pure false)
    (hbind : ∀ cl pm c' ctv v, bindArgs (kla_fn "<lambda>" lamQual params body scope cl pm (.ref c') ctv) ⟨[v], []⟩ = pure [(Str.ofString "k", v)])
    (hev : ∀ i : Int, i = 0 ∨ i = 1 ∨ i = 2 → Ev (GT g rows) k scope.names [(Str.ofString "k", .int i), (Str.ofString "parts", .list [.int P, .int Q, .int R])] body (.tup [.int (-prt P Q R i), .int i]))
    (hn1 : scope.names.lookup (Str.ofString "k") = some .local) (hn2 : scope.names.lookup (Str.ofString "parts") = some .free) (hsk : scope.kind = .function) (hco : scope.isCoroutine = false) (hgen : scope.isGenerator = false) (hnc : ∀ z ∈ scope.names, z.2 ≠ .cell)
    (hZ : ∀ s₁ s', Mv g s₀ s₁ → Frm (GT g rows) s₁ env ((x, .list ((ordL P Q R).map .int)) :: ρ) s' → s.toks ≤ s'.toks → Z .next s') :
    wpAny (model g.prog g.w) A (exec (.Assign [.Name x p2] (.Call (.Name (Str.ofString "sorted") p) [.List es lp] [⟨some (Str.ofString "key"), .Lambda params body scope pos, kp⟩] cp) p3) env) Z E s := by
  have fe := de.fun hk
  refine wpAny_Assign_Name ?_ (hsw env)
  refine wpAny_with_toks (Nat.le_refl s.toks) ?_
  show wpAny (model g.prog g.w) A (do
    let f ← eval (.Name (Str.ofString "sorted") p) env
    callWith cp f [] (backTo cp (starEach [.List es lp] env)) (backToKw cp (keywordEach [⟨some (Str.ofString "key"), .Lambda params body scope pos, kp⟩] env))) _ _ s
  refine wpAny_bind (glob_name ((h.at rows).built rfl rfl (by decide)) fe f.at_ hs3 (by decide) ?_)
  have hl := (ev_list3 (pos := lp) hes)
  have r1 := (Evs.cons hl Evs.nil (fun env => by rw [hstar env]; rfl)).run A (fun e s' => s.toks ≤ s'.toks → E e s') env s cp rm fe f.at_ f.rep
  have e1 : backTo cp (starEach [.List es lp] env) = (false, eval (.List es lp) env) :: backTo cp (starEach [] env) := by
    rw [hstar env]; rfl
  refine callWith_kw ?_ e1 r1.1 rfl rfl
  refine wpAny_mono r1.2 (fun vs s1 q1 => ?_) fun _ _ e => e
  obtain ⟨v, rfl, rv⟩ := reps1 q1.2
  obtain ⟨l, us, rfl, hlH, hli, rus⟩ := list_of rv
  have f1 := f.of q1.1
  refine kws_cons (lam_make h f1 hcode de.globals hq hpos hdef hcl rfl fun fa pm c' ctv s2 mv a2 hfo hcd keep => ?_)
  refine kws_nil ?_
  show wpAny (model g.prog g.w) A (call (.builtin "sorted") [.ref l] [(Str.ofString "key", .ref fa)]) _ _ s2
  obtain ⟨u0, u1, u2, rfl, w0, w1, w2⟩ : ∃ u0 u1 u2, us = [u0, u1, u2] ∧ Rep [g.L] s1.heap (.int 0) u0 ∧ Rep [g.L] s1.heap (.int 1) u1 ∧ Rep [g.L] s1.heap (.int 2) u2 := by
    have rus' : Reps [g.L] s1.heap [.int 0, .int 1, .int 2] us := rus
    unfold Reps at rus'
    obtain ⟨u0, r0, rfl, w0, rus'⟩ := rus'
    obtain ⟨u1, u2, rfl, w1, w2⟩ := reps2 rus'
    exact ⟨u0, u1, u2, rfl, w0, w1, w2⟩
  obtain ⟨t0, rfl⟩ := int_of w0
  obtain ⟨t1, rfl⟩ := int_of w1
  obtain ⟨t2, rfl⟩ := int_of w2
  obtain ⟨ps, hP, _⟩ := f1.at_.tabP.ex
  have hli2 : s2.heap.IsList l #[.int 0 t0, .int 1 t1, .int 2 t2] := by
    obtain ⟨o, ho, hc, n, hd⟩ := hli
    exact ⟨o, keep l o (by rintro rfl; rw [hP] at ho; cases ho; cases hd) ho, hc, n, hd⟩
  obtain ⟨s₁, m1, f2⟩ := f1.moved mv a2
  obtain ⟨u, hs, ru⟩ := f2.rep _ _ hparts
  obtain ⟨c2, hc2, hcell⟩ : ∃ c2, env.cells.lookup (Str.ofString "parts") = some c2 ∧ s2.heap.IsCell c2 (some u) := by
    rcases hs with ⟨a, _⟩ | ⟨_, c2, a, b⟩ | ⟨a, _⟩
    · rw [hkc] at a; cases a
    · exact ⟨c2, a, b⟩
    · rw [hkc] at a; cases a
  rw [hcl2] at hc2; cases hc2
  obtain ⟨p0, loose, mean, mg, mb, T⟩ := h.main
  obtain ⟨z1, z2⟩ := kLt_key P Q 0 1 (by decide)
  obtain ⟨z3, z4⟩ := kLt_key Q R 1 2 (by decide)
  obtain ⟨z5, z6⟩ := kLt_key P R 0 2 (by decide)
  refine sorted3 (k1 := (-P, 0)) (k2 := (-Q, 1)) (k3 := (-R, 2)) hli2 (by rw [z1, z2]) (by rw [z3, z4]) (fun v kk hvk s' kp => ?_) (fun a s' kp hfr hpl tk => ?_)
  · have key : ∀ (i : Int) (t : Tok), (i = 0 ∨ i = 1 ∨ i = 2) → wpAny (model g.prog g.w) A.in1.in1 (call (.ref fa) [.int i t]) (fun r s'' => Keeps s' s'' ∧ IsKey s''.heap r (-prt P Q R i, i)) (fun _ _ => False) s' := by
      intro i t hi
      have a' := a2.of kp
      refine wpAny_mono (call_lam (G := GT g rows) (k := k) (x := Str.ofString "k") (y := Str.ofString "parts") (d := .int i) (e := .list [.int P, .int Q, .int R]) (dr := .tup [.int (-prt P Q R i), .int i]) (kp_keep kp _ _ hfo) (hcd.keeps (kp_keep kp)) (T.nolimit.keeps a'.keep) rm.in1.in1 a' (hbind _ _ _ _ _) hn1 (by decide) hn2 (by decide) rfl (hcell.keeps (kp_keep kp)) rep_int (ru.keep (kp_keep kp)) (hev i hi) hsk hco hgen hnc) (fun r s'' q => ⟨q.1, ?_⟩) fun _ _ e => e
      obtain ⟨T', vs, rfl, it, rs⟩ := tup_of q.2
      obtain ⟨y1, y2, rfl, x1, x2⟩ := reps2 rs
      obtain ⟨b1, rfl⟩ := int_of x1
      obtain ⟨b2, rfl⟩ := int_of x2
      exact ⟨T', b1, b2, rfl, it⟩
    simp only [List.mem_cons, List.not_mem_nil, or_false, Prod.mk.injEq] at hvk
    rcases hvk with ⟨rfl, rfl⟩ | ⟨rfl, rfl⟩ | ⟨rfl, rfl⟩
    · exact key 0 t0 (.inl rfl)
    · exact key 1 t1 (.inr (.inl rfl))
    · exact key 2 t2 (.inr (.inr rfl))
  · have f3 := f2.of kp
    have rep : Rep [g.L] s'.heap (.list ((ordL P Q R).map .int)) (.ref a) := by
      unfold Rep
      refine ⟨a, (res3 (decide (P < Q)) (decide (Q < R)) (decide (P < R)) (Value.int 0 t0) (.int 1 t1) (.int 2 t2)).toList, rfl, fun hm => ?_, ?_, ?_⟩
      · obtain ⟨o, e⟩ := a2.live a hm
        rw [hfr] at e; cases e
      · rw [z1, z3, z5] at hpl
        simpa using hpl
      · unfold ordL
        cases decide (P < Q) <;> cases decide (Q < R) <;> cases decide (P < R) <;> exact reps_cons rep_int (reps_cons rep_int (reps_cons rep_int (by unfold Reps; rfl)))
    refine wpAny_mono (wpAny_toks_of tk (f3.store (d := .list ((ordL P Q R).map .int)) (Q := fun _ s4 => Frm (GT g rows) s₁ env ((x, .list ((ordL P Q R).map .int)) :: ρ) s4) fe.kind (storable_of de hx) rep fun s4 f4 _ => f4)) (fun _ s4 q => ?_) fun _ _ e => e.2
    exact hZ s₁ s4 m1 q.2 q.1
end
end Mine
end

section
open PySem PySem.W PyProof.Rows
set_option Elab.async false
set_option linter.unusedVariables false
namespace Mine
set_option maxRecDepth 100000


theorem ord_facts {L : List Int} (hL : L ∈ ([[0, 1, 2], [0, 2, 1], [1, 0, 2], [1, 2, 0], [2, 0, 1], [2, 1, 0]] : List (List Int))) :
    PyData.layable0 (.list (L.map .int)) = true ∧ L.length = 3 ∧ (∀ k ∈ L, k = 0 ∨ k = 1 ∨ k = 2) ∧ (∀ k, k = 0 ∨ k = 1 ∨ k = 2 → k ∈ L ∧ L.idxOf k < 3) ∧ D.solids (L.map .int) = true := by
  simp only [List.mem_cons, List.not_mem_nil, or_false] at hL
  rcases hL with rfl | rfl | rfl | rfl | rfl | rfl
  all_goals
    refine ⟨by decide, rfl, by simp; try lia, fun k hk => ?_, rfl⟩
    rcases hk with rfl | rfl | rfl <;> decide
theorem len3 {α : Type} {l : List α} (h : l.length = 3) : ∃ a b c, l = [a, b, c] := by
  match l, h with
  | [a, b, c], _ => exact ⟨a, b, c, rfl⟩
theorem above_le {g : Int} (hg : 0 ≤ g) : ((above g : Nat) : Int) ≤ g := by
  by_cases h : ((above g : Nat) : Int) ≤ g
  · exact h
  · have h0 : 0 < above g := by lia
    have := abvN_lt g (g.toNat + 1) 0 (above g - 1) (Nat.zero_le _) (by show above g - 1 < above g; lia)
    have e : (((above g - 1 : Nat) : Int)) = (above g : Int) - 1 := by lia
    rw [e, Int.fdiv_eq_ediv_of_nonneg _ (by decide)] at this
    have h2 : ((above g : Int) - 1 + 1) * 2 ≤ ((above g : Int) - 1 + 1) * ((above g : Int) - 1 + 2) := Int.mul_le_mul_of_nonneg_left (by lia) (by lia)
    lia
noncomputable abbrev aN (m1 m2 m3 P Q R goal : Int) (L : List Int) : Names := [(Str.ofString "least", .int m3), (Str.ofString "middle", .int m2), (Str.ofString "most", .int m1), (Str.ofString "order", .list (L.map .int)), (Str.ofString "parts", .list [.int P, .int Q, .int R]), (Str.ofString "goal", .int goal)]
theorem CallM.answer {g : Pl} {rows : List Row} (h : GndT g) (P Q R goal : Int) (hg : 0 ≤ goal) (hb : goal < 10000) : CallM g rows rows 4 (.ref 309) [.list [.int P, .int Q, .int R], .int goal] (.list ((ansL P Q R goal).map .int)) := by
  constructor
  intro A E s vs rm ha tk0 r
  obtain ⟨v1, v2, rfl, r1, r2⟩ := reps2 r
  have hG := h.at rows
  have hf := hG.def (f := 309) rfl (by kernel_rfl)
  obtain ⟨o, ho, hd⟩ := hf.obj
  refine wpAny_call (call_cells rm.d (ha.keep _ _ ho) hd (hf.nolimit.keeps ha.keep) (hf.code.keeps ha.keep) hf.body (binds := [Str.ofString "parts", Str.ofString "goal"].zip [v1, v2]) (.of_eq rfl) hf.closure (kinds_of _ (by decide +kernel)) (fun s₁ tk I => ?_) hf.co hf.gen hf.kind)
  obtain ⟨fr, de⟩ := frm_start (ns := [Str.ofString "parts", Str.ofString "goal"]) hf rfl (by decide) (by decide +kernel) ha r I
  refine' wpAny_execs_cons (order_stmt (k := 0) (c := s.heap.objs.size + 1) h (rm.deeper _) de rfl fr rfl rfl rfl rfl rfl rfl rfl rfl rfl (by decide +kernel) (Evs.cons Ev.int (Evs.cons Ev.int (Evs.cons Ev.int Evs.nil))) (fun _ => rfl) (fun _ => rfl) (fun _ _ _ _ _ => rfl) (fun i hi => ?hev) rfl rfl rfl rfl rfl (by decide) fun s₁ s2 mv f2 tk2 => ?_)
  (case hev =>
    have sub : Ev (GT g rows) 0 [(Str.ofString "k", NameKind.local), (Str.ofString "parts", NameKind.free)] [(Str.ofString "k", .int i), (Str.ofString "parts", .list [.int P, .int Q, .int R])] (.Subscript (.Name (Str.ofString "parts") { line := 247, col := 46, endLine := 247, endCol := 51 }) (.Name (Str.ofString "k") { line := 247, col := 52, endLine := 247, endCol := 53 }) { line := 247, col := 46, endLine := 247, endCol := 54 }) (.int (prt P Q R i)) := by
      refine Ev.sub (Ev.name rfl) (Ev.name rfl) (GetOk.list (by lia) (by lia) ?_)
      rcases hi with rfl | rfl | rfl <;> rfl
    exact ev_tup2 (Evs.cons (ev_neg sub) (Evs.cons (Ev.name rfl) Evs.nil)))
  refine wpAny_mono (Ret.run (G := GT g rows) (k := 3) (d := .list ((ansL P Q R goal).map .int)) (ρ := [(Str.ofString "order", .list ((ordL P Q R).map .int)), (Str.ofString "parts", .list [.int P, .int Q, .int R]), (Str.ofString "goal", .int goal)]) ?rest _ _ s₁ _ s2 (rm.deeper _) de f2.base f2) (fun fl s' q => ?_) fun _ _ e => e
  rotate_left
  · obtain ⟨v, rfl, kp, a', rv⟩ := q
    exact ⟨mv.trans (Mv.of kp), a', rv⟩
  clear mv f2 tk2 fr I
  obtain ⟨hlay, hlen, hmem, hidx, hsol⟩ := ord_facts (ordL_cases P Q R)
  have hN := newOf_len (at3 (sorted3L P Q R) 0) (at3 (sorted3L P Q R) 1) (at3 (sorted3L P Q R) 2) goal
  unfold ansL newL
  have hS : (sorted3L P Q R).map D.int = [.int (at3 (sorted3L P Q R) 0), .int (at3 (sorted3L P Q R) 1), .int (at3 (sorted3L P Q R) 2)] := by
    obtain ⟨x, y, z, e⟩ := len3 (l := sorted3L P Q R) (by unfold sorted3L; rw [List.length_map]; exact hlen)
    rw [e]; rfl
  have hS0 : (sorted3L P Q R).map D.int = (ordL P Q R).map fun k => D.int (prt P Q R k) := by unfold sorted3L; rw [List.map_map]; rfl
  generalize at3 (sorted3L P Q R) 0 = m1 at hN hS
  generalize at3 (sorted3L P Q R) 1 = m2 at hN hS
  generalize at3 (sorted3L P Q R) 2 = m3 at hN hS
  rw [hS] at hS0
  generalize ordL P Q R = L at hlay hlen hmem hidx hsol hS0
  obtain ⟨x, y, z, eN⟩ := hN
  refine' Ret.cons (St.tup (xs := [Str.ofString "most", Str.ofString "middle", Str.ofString "least"]) (ds := [.int m1, .int m2, .int m3]) (.inl ?e) rfl rfl (by decide +kernel) (by intro _; rfl) (fun env de => sw_none de rfl)) ?_
  (case e =>
    refine' ev_compE (fun _ => true) (fun d => match d with | .int k => .int (prt P Q R k) | _ => .none) (Itr.list (Ev.name rfl) (by rw [List.length_map]; lia)) ?hr hsol (fun d hd => Ifs.nil) (fun d hd _ => ?_)
    (case hr => rw [hS0, List.filter_eq_self.mpr (fun _ _ => rfl), List.map_map]; rfl)
    obtain ⟨i, hi, rfl⟩ := List.mem_map.mp hd
    refine' .scal (Ev.sub (Ev.name rfl) (Ev.name rfl) (GetOk.list ?_ ?_ ?_)) rfl
    · have := hmem i hi; lia
    · have := hmem i hi; lia
    · rcases hmem i hi with rfl | rfl | rfl <;> rfl)
  refine' Ret.cons (ρ' := (Str.ofString "new", .list ((newOf m1 m2 m3 goal).map .int)) :: [(Str.ofString "order", .list (L.map .int))]) ?ifs ?ret
  (case ret =>
    refine' Ret.ret (ev_compE (fun _ => true) (fun d => match d with | .int k => .int (at3 (newOf m1 m2 m3 goal) (L.idxOf k)) | _ => .none) (Itr.range (n := 3) (hG.built rfl rfl (by decide)) (Evs.cons Ev.int Evs.nil) (by decide)) rfl rfl (fun d hd => Ifs.nil) (fun d hd _ => ?_))
    have one : ∀ kk : Int, kk = 0 ∨ kk = 1 ∨ kk = 2 → ∀ {ρ : Names} {nm : List (Str × NameKind)} {e : Expr}, Ev (GT g rows) 3 nm ρ e (.int (L.idxOf kk : Nat)) → ∀ {v : Expr} {pos : Pos}, Ev (GT g rows) 3 nm ρ v (.list ((newOf m1 m2 m3 goal).map .int)) → (∀ o i, subscripted e false o i = operate [o, i] (getItem o i)) → Ev (GT g rows) 3 nm ρ (.Subscript v e pos) (.int (at3 (newOf m1 m2 m3 goal) (L.idxOf kk))) := by
      intro kk hk ρ nm e he v pos hv hsub
      have hlt := (hidx kk hk).2
      refine Ev.sub hv he (GetOk.list (by lia) (by lia) ?_) hsub
      rw [eN, Int.toNat_natCast]
      generalize L.idxOf kk = j at hlt
      have : j = 0 ∨ j = 1 ∨ j = 2 := by lia
      rcases this with rfl | rfl | rfl <;> rfl
    rcases mem_upTo3 hd with rfl | rfl | rfl
    · exact .scal (one 0 (by simp) (ev_meth (Ev.name rfl) Meth.lindex (Evs.cons (Ev.name rfl) Evs.nil) (CallOk.lindex hlay (hidx 0 (by simp)).1)) (Ev.name rfl) (fun _ _ => rfl)) rfl
    · exact .scal (one 1 (by simp) (ev_meth (Ev.name rfl) Meth.lindex (Evs.cons (Ev.name rfl) Evs.nil) (CallOk.lindex hlay (hidx 1 (by simp)).1)) (Ev.name rfl) (fun _ _ => rfl)) rfl
    · exact .scal (one 2 (by simp) (ev_meth (Ev.name rfl) Meth.lindex (Evs.cons (Ev.name rfl) Evs.nil) (CallOk.lindex hlay (hidx 2 (by simp)).1)) (Ev.name rfl) (fun _ _ => rfl)) rfl)
  have tGE : ∀ {ρ : Names} {nm : List (Str × NameKind)} {e1 e2 : Expr} {pos : Pos} {a b : Int}, Ev (GT g rows) 3 nm ρ e1 (.int a) → Ev (GT g rows) 3 nm ρ e2 (.int b) → behindInMarks .GtE e2 = false → Tst (GT g rows) 3 nm ρ (.Compare e1 [.GtE] [e2] pos) (decide (b ≤ a)) := fun h1 h2 h3 => Tst.cmp h1 h2 CmpOk.ge h3
  by_cases c1 : m1 ≤ goal
  · have e1 : newOf m1 m2 m3 goal = [m1, pmin m2 (goal - m1), pmax 0 (goal - m1 - m2)] := by unfold newOf; rw [if_pos c1]
    rw [e1]
    refine' St.weak (St.ifT (Tst.cast (tGE (Ev.name rfl) (Ev.name rfl) rfl) (decide_eq_true c1)) (Sts.one (St.assign (d := .list [.int m1, .int (pmin m2 (goal - m1)), .int (pmax 0 (goal - m1 - m2))]) (ev_list3 (Evs.cons (Ev.name rfl) (Evs.cons (Ev.call (hG.built rfl rfl (by decide)) (.builtin _) ?a1 CallOk.min2) (Evs.cons (Ev.call (hG.built rfl rfl (by decide)) (.builtin _) ?a2 CallOk.max2) Evs.nil))))))) Sub.refl (Sub.cons rfl (Sub.cons rfl Sub.nil))
    all_goals repeat' (first | exact Ev.int | exact Ev.name rfl | refine' Ev.bin ?_ ?_ BinOk.add | refine' Ev.bin ?_ ?_ BinOk.sub | refine' Ev.bin Ev.int ?_ (BinOk.mul (.inl (by decide))) | refine' Evs.cons ?_ ?_ | exact Evs.nil)
  refine' St.weak (St.ifF (Tst.cast (tGE (Ev.name rfl) (Ev.name rfl) rfl) (decide_eq_false c1)) (Sts.one ?_)) Sub.refl Sub.refl
  by_cases c2 : m3 ≤ goal
  · have e1 : newOf m1 m2 m3 goal = [goal - m3, 0, m3] := by unfold newOf; rw [if_neg c1, if_pos c2]
    rw [e1]
    refine' St.weak (St.ifT (Tst.cast (tGE (Ev.name rfl) (Ev.name rfl) rfl) (decide_eq_true c2)) (Sts.one (St.assign (d := .list [.int (goal - m3), .int 0, .int m3]) (ev_list3 ?b1)))) Sub.refl (Sub.cons rfl (Sub.cons rfl Sub.nil))
    all_goals repeat' (first | exact Ev.int | exact Ev.name rfl | refine' Ev.bin ?_ ?_ BinOk.add | refine' Ev.bin ?_ ?_ BinOk.sub | refine' Ev.bin Ev.int ?_ (BinOk.mul (.inl (by decide))) | refine' Evs.cons ?_ ?_ | exact Evs.nil)
  have hab : ((above goal : Nat) : Int) + 1 ≠ 0 := by lia
  have hw1 : ∀ i : Nat, i < above goal → (((i : Int) + 1) * ((i : Int) + 2)).fdiv 2 ≤ goal := fun i hi => abvN_lt goal _ 0 i (Nat.zero_le _) hi
  have hw2 : ¬ ((((above goal : Nat) : Int) + 1) * (((above goal : Nat) : Int) + 2)).fdiv 2 ≤ goal := abvN_ge goal hg _ 0 (by lia)
  have hw3 : above goal ≤ 10000 := by have := above_le hg; lia
  have e1 : newOf m1 m2 m3 goal = (if (m3 - 1 - goal).fmod ((above goal : Int) + 1) = 0 then [m3 + pmin (m1 - m3) (above goal), m3 + (above goal) - pmin (m1 - m3) (above goal), m3]
    else if (above goal : Int) ≤ m1 - m3 + 2 * (m3 - 1 - goal).fmod ((above goal : Int) + 1) then [m3 - (m3 - 1 - goal).fmod ((above goal : Int) + 1) + above goal - (m3 - 1 - goal).fmod ((above goal : Int) + 1), m3 - (m3 - 1 - goal).fmod ((above goal : Int) + 1), m3]
    else [m3 - (m3 - 1 - goal).fmod ((above goal : Int) + 1) + above goal - (m2 - (m3 - (m3 - 1 - goal).fmod ((above goal : Int) + 1))), m2, m3 - (m3 - 1 - goal).fmod ((above goal : Int) + 1)]) := by unfold newOf; rw [if_neg c1, if_neg c2]
  rw [e1]
  generalize above goal = ab at hab hw1 hw2 hw3
  generalize hless : (m3 - 1 - goal).fmod ((ab : Int) + 1) = less
  refine' (fun NN (hNN : _ = NN) => ?_ : ∀ NN : List Int, (if less = 0 then [m3 + pmin (m1 - m3) ab, m3 + ab - pmin (m1 - m3) ab, m3] else if (ab : Int) ≤ m1 - m3 + 2 * less then [m3 - less + ab - less, m3 - less, m3] else [m3 - less + ab - (m2 - (m3 - less)), m2, m3 - less]) = NN → _) _ rfl
  refine' St.weak (St.ifF (ρ := aN m1 m2 m3 P Q R goal L) (Tst.cast (tGE (Ev.name rfl) (Ev.name rfl) rfl) (decide_eq_false c2)) (Sts.cons (ρ' := (Str.ofString "above", .int ((0 : Nat) : Int)) :: aN m1 m2 m3 P Q R goal L) (St.assign Ev.int) (Sts.cons (ρ' := (Str.ofString "above", .int (ab : Int)) :: aN m1 m2 m3 P Q R goal L) (ρ'' := (Str.ofString "new", .list (NN.map .int)) :: (Str.ofString "low", .int (m3 - less)) :: (Str.ofString "less", .int less) :: (Str.ofString "above", .int (ab : Int)) :: aN m1 m2 m3 P Q R goal L) ?wh ?more))) Sub.refl ?sub
  (case wh =>
    refine' St.while (fun i : Nat => (Str.ofString "above", .int (i : Int)) :: aN m1 m2 m3 P Q R goal L) ab (fun i hi => ?t) (fun i hi => ⟨(Str.ofString "above", .int ((i : Int) + 1)) :: (Str.ofString "above", .int (i : Int)) :: aN m1 m2 m3 P Q R goal L, Sts.one (St.incr rfl Ev.int), ?s⟩) ?f
    (case t =>
      refine' Tst.cast (Tst.cmp (Ev.bin (Ev.bin (Ev.bin (Ev.name rfl) Ev.int BinOk.add) (Ev.bin (Ev.name rfl) Ev.int BinOk.add) (BinOk.mul ?_)) Ev.int (BinOk.floordiv (by decide) (by decide))) (Ev.name rfl) CmpOk.le) (decide_eq_true (hw1 i hi))
      lia)
    (case f =>
      refine' Tst.cast (Tst.cmp (Ev.bin (Ev.bin (Ev.bin (Ev.name rfl) Ev.int BinOk.add) (Ev.bin (Ev.name rfl) Ev.int BinOk.add) (BinOk.mul ?_)) Ev.int (BinOk.floordiv (by decide) (by decide))) (Ev.name rfl) CmpOk.le) (decide_eq_false hw2)
      lia)
    (case s =>
      rw [show (((i + 1 : Nat) : Int)) = (i : Int) + 1 by lia]
      refine' Sub.cons rfl ?_
      exact Sub.cons rfl (Sub.cons rfl (Sub.cons rfl (Sub.cons rfl (Sub.cons rfl (Sub.cons rfl Sub.nil)))))))
  (case sub =>
    rw [hNN]
    exact Sub.cons rfl (Sub.cons rfl Sub.nil))
  (case more =>
    refine' Sts.cons (St.assign (d := .int less) (Ev.cast (Ev.bin (Ev.bin (Ev.bin (Ev.name rfl) Ev.int BinOk.sub) (Ev.name rfl) BinOk.sub) (Ev.bin (Ev.name rfl) Ev.int BinOk.add) (BinOk.mod hab)) (congrArg D.int hless))) ?_
    refine' Sts.cons (St.assign (d := .int (m3 - less)) (Ev.bin (Ev.name rfl) (Ev.name rfl) BinOk.sub)) (Sts.one ?_)
    by_cases c3 : less = 0
    · rw [if_pos c3] at hNN
      subst hNN
      refine' St.weak (ρ₂ := (Str.ofString "new", .list ([m3 + pmin (m1 - m3) ab, m3 + ab - pmin (m1 - m3) ab, m3].map .int)) :: (Str.ofString "first", .int (pmin (m1 - m3) ab)) :: (Str.ofString "low", .int (m3 - less)) :: (Str.ofString "less", .int less) :: (Str.ofString "above", .int (ab : Int)) :: aN m1 m2 m3 P Q R goal L) (St.ifT (Tst.cast (Tst.cmp (Ev.name rfl) Ev.int CmpOk.eq) (by simpa using c3)) (Sts.cons (St.assign (d := .int (pmin (m1 - m3) ab)) (Ev.call (hG.built rfl rfl (by decide)) (.builtin _) (Evs.cons (Ev.bin (Ev.name rfl) (Ev.name rfl) BinOk.sub) (Evs.cons (Ev.name rfl) Evs.nil)) CallOk.min2)) (Sts.one (St.assign (ev_list3 ?d1))))) Sub.refl ?d2
      (case d1 => repeat' (first | exact Ev.int | exact Ev.name rfl | refine' Ev.bin ?_ ?_ BinOk.add | refine' Ev.bin ?_ ?_ BinOk.sub | refine' Ev.bin Ev.int ?_ (BinOk.mul (.inl (by decide))) | refine' Evs.cons ?_ ?_ | exact Evs.nil))
      (case d2 => exact Sub.cons rfl (Sub.cons rfl (Sub.cons rfl (Sub.cons rfl (Sub.cons rfl (Sub.cons rfl (Sub.cons rfl (Sub.cons rfl (Sub.cons rfl (Sub.cons rfl Sub.nil))))))))))
    · rw [if_neg c3] at hNN
      refine' St.ifF (Tst.cast (Tst.cmp (Ev.name rfl) Ev.int CmpOk.eq) (by simpa using c3)) (Sts.one ?_)
      have hle : CmpOk (GT g rows) 3 .LtE (.int ab) (.int (m1 - m3 + 2 * less)) (decide ((ab : Int) ≤ m1 - m3 + 2 * less)) := CmpOk.le
      by_cases c4 : (ab : Int) ≤ m1 - m3 + 2 * less
      · rw [if_pos c4] at hNN
        subst hNN
        refine' St.ifT (Tst.cast (Tst.cmp (Ev.name rfl) (Ev.bin (Ev.bin (Ev.name rfl) (Ev.name rfl) BinOk.sub) (Ev.bin Ev.int (Ev.name rfl) (BinOk.mul (.inl (by decide)))) BinOk.add) hle) (decide_eq_true c4)) (Sts.one (St.assign (ev_list3 ?e1)))
        (case e1 => repeat' (first | exact Ev.int | exact Ev.name rfl | refine' Ev.bin ?_ ?_ BinOk.add | refine' Ev.bin ?_ ?_ BinOk.sub | refine' Ev.bin Ev.int ?_ (BinOk.mul (.inl (by decide))) | refine' Evs.cons ?_ ?_ | exact Evs.nil))
      · rw [if_neg c4] at hNN
        subst hNN
        refine' St.ifF (Tst.cast (Tst.cmp (Ev.name rfl) (Ev.bin (Ev.bin (Ev.name rfl) (Ev.name rfl) BinOk.sub) (Ev.bin Ev.int (Ev.name rfl) (BinOk.mul (.inl (by decide)))) BinOk.add) hle) (decide_eq_false c4)) (Sts.one (St.assign (ev_list3 ?f1)))
        (case f1 => repeat' (first | exact Ev.int | exact Ev.name rfl | refine' Ev.bin ?_ ?_ BinOk.add | refine' Ev.bin ?_ ?_ BinOk.sub | refine' Ev.bin Ev.int ?_ (BinOk.mul (.inl (by decide))) | refine' Evs.cons ?_ ?_ | exact Evs.nil)))
end Mine
end

section
open PySem PySem.W PyProof.Rows
set_option Elab.async false
set_option linter.unusedVariables false
namespace Mine
set_option maxRecDepth 100000

/-! ## the table is made -/
noncomputable def G0 (prog : Program) (w : World) (hB : Heap) : Glo where
  prog := prog
  w := w
  hB := hB
  H := []
  F := []
  inv := TabC
  invs := fun h h' _ _ kc t => t.soft kc
noncomputable def GI (prog : Program) (w : World) (hB : Heap) (l : Addr) : Glo where
  prog := prog
  w := w
  hB := hB
  H := []
  F := []
  inv := fun h => TabC h ∧ h.PlainList l #[]
  invs := fun h h' _ ks kc t => ⟨t.1.soft kc, let ⟨n, e⟩ := t.2; ⟨n, ks _ _ _ _ rfl e⟩⟩
section
variable {prog : Program} {w : World} {hB : Heap} {l : Addr} {k : Nat} {nm : List (Str × NameKind)} {ρ : Names}
theorem CmpOk.isNotNone {G : Glo} {a : Addr} : CmpOk G k .IsNot (.ref a) .none true := by
  constructor
  intro A E s v₁ v₂ _ _ r₁ r₂
  rw [none_of r₂, ref_of r₁]
  exact wpAny_isNot_other rfl (by intro x; cases x) ⟨kp_refl s, rfl⟩
theorem CmpOk.isNotType {G : Glo} {n : String} : CmpOk G k .IsNot (.cst (.type n)) (.cst (.type n)) false := by
  constructor
  intro A E s v₁ v₂ _ _ r₁ r₂
  rw [cst_of r₁, cst_of r₂]
  exact isnot_type_same ⟨kp_refl s, rfl⟩
theorem CallOk.typeL : CallOk (GI prog w hB l) k (.type "type") [.ref l] (.cst (.type "list")) := by
  constructor
  intro A E s vs rm ha r
  obtain ⟨v, rfl, r1⟩ := reps1 r
  rw [ref_of r1]
  obtain ⟨n, e⟩ := (show TabC s.heap ∧ s.heap.PlainList l #[] from ha.inv).2
  obtain ⟨hh, gg, dd, tt, os⟩ := s
  refine wpAny_call (codeAny_of_tree ?_)
  show wpAny _ _ (callAny (.type "type") ⟨[.ref l], []⟩) _ _ _
  simp only [callAny]
  refine wpAny_pure ⟨Code.quiet_builtin _ (by decide +kernel), codeAny_builtin PyProof.Rows.entry_type_call ?_⟩
  unfold Builtin.«type.__call__»
  dsimp only
  unfold shownTypeOf
  repeat (first | wp_step)
  exact ⟨kp_refl _, rep_cst⟩
theorem Itr.empty {x : Str} {p : Pos} (hx : ρ.lookup x = some (.ref l)) (dx : (x == ("__debug__" : Str)) = false := by decide) : Itr (GI prog w hB l) k nm ρ (.Name x p) [] := ⟨by intro _ _; rfl, by simp, fun A E env s rm fe ha he =>
  wpAny_mono ((Ev.name (G := GI prog w hB l) (k := k) (g := nm) (pos := p) hx dx).run A E env s rm fe ha he) (fun v s₁ q => ⟨q.1, by
    rw [ref_of q.2]
    have := (show TabC s₁.heap ∧ s₁.heap.PlainList l #[] from (ha.of q.1).inv).2
    exact gives_at (G := GI prog w hB l) (vs := []) rm.handled (by simp) this.isList (by unfold Reps; rfl) _ fun _ _ a b => ⟨a, b⟩⟩) fun _ _ e => e⟩

theorem Gnd.other {G G' : Glo} (h : Gnd G) (hw : G'.w = G.w) (hb : G'.hB = G.hB) : Gnd G' := ⟨by rw [hw, hb]; exact h.kin, by rw [hb]; exact h.top⟩
noncomputable def madeH (h : Heap) : Heap := (h.push emptyDict).push (instObj 256 h.objs.size)
theorem init_code (hg : Gnd (G0 prog w hB)) {A : Around} {R : Result → Shared → Prop} {s : Shared} {h : Heap} (rm : Room A (k + 1)) (ha : At (G0 prog w hB) { s with heap := h }) (hl : h.PlainList l #[])
    (hR : ∀ s', 1 ≤ s'.toks → Keeps { s with heap := h } s' → s'.heap.get? (h.objs.size + 1) = some (instObj 256 h.objs.size) → (∃ hs tk n, s'.heap.get? h.objs.size = some (dictOf [⟨hs, .str (Str.ofString "_headers") tk, .ref l⟩] n)) → R (.ok (.ret .none)) s') :
    codeAny (model prog w) A (.call (.ref 148) ⟨[.ref (h.objs.size + 1), .ref l], []⟩) R { s with heap := madeH h } := by
  have hG : Gnd (GI prog w hB l) := hg.other rfl rfl
  have hf := hG.def (f := 148) rfl (by kernel_rfl)
  have km : ∀ b o, h.get? b = some o → (madeH h).get? b = some o := fun b o e => Heap.get?_push_of_some _ (Heap.get?_push_of_some _ e)
  have kp0 : Keeps { s with heap := h } { s with heap := madeH h } := ⟨madeH h, s.toks, rfl, km⟩
  have hx0 : (madeH h).get? (h.objs.size + 1) = some (instObj 256 h.objs.size) := by unfold madeH; heap_get
  have hd0 : (madeH h).get? h.objs.size = some (dictOf [] 0) := by unfold madeH; heap_get
  have a0 : At (GI prog w hB l) { s with heap := madeH h } := by
    have a1 := ha.of kp0
    obtain ⟨n, e⟩ := hl
    exact ⟨a1.keep, a1.live, a1.fl, a1.inv, ⟨n, km _ _ e⟩⟩
  obtain ⟨o, ho, hd⟩ := hf.obj
  refine call_cells rm.d (a0.keep _ _ ho) hd (hf.nolimit.keeps a0.keep) (hf.code.keeps a0.keep) hf.body (binds := [Str.ofString "self", Str.ofString "headers"].zip [.ref (h.objs.size + 1), .ref l]) (binds_K (K := KK w) (a0.kin hG) (T := 141) rfl rfl rfl rfl rfl) hf.closure (kinds_of _ (by decide +kernel)) (fun s₁ tk I => ?_) hf.co hf.gen hf.kind
  obtain ⟨fr, de⟩ := frm_start (G := GI prog w hB l) (ns := [Str.ofString "self", Str.ofString "headers"]) (ds := [.ref (h.objs.size + 1), .ref l]) (s := { s with heap := madeH h }) hf rfl (by decide) (by decide +kernel) a0 (reps_cons rep_ref (reps_cons rep_ref (by unfold Reps; rfl))) I
  generalize callEnvC _ _ _ = env at fr de I ⊢
  refine wpAny_execs_cons (wpAny_mono ((St.assign (G := GI prog w hB l) (k := k) (d := .ref l) (Ev.ifT (Tst.cmp (Ev.name rfl) Ev.none CmpOk.isNotNone) (Ev.name rfl))).run _ _ _ _ s₁ (rm.deeper _) de fr.base fr) (fun fl s2 q => ?_) fun _ _ e => e)
  obtain ⟨rfl, f2, hl2⟩ := q
  refine wpAny_execs_cons (wpAny_mono ((St.ifF (G := GI prog w hB l) (k := k) (Tst.cmp (Ev.call (hG.built rfl rfl (by decide)) (.type _) (Evs.cons (Ev.name rfl) Evs.nil) CallOk.typeL) (Ev.globT (hG.built rfl rfl (by decide))) CmpOk.isNotType) Sts.nil).run _ _ _ _ s2 (rm.deeper _) de f2.base f2) (fun fl s3 q => ?_) fun _ _ e => e)
  obtain ⟨rfl, f3, hl3⟩ := q
  refine wpAny_execs_cons (plainObj_wpAny_Assign_Attribute ?_ rfl)
  refine wpAny_mono ((Ev.name (G := GI prog w hB l) (k := k) (d := .ref l) rfl).run _ _ _ s3 (rm.deeper _) (de.fun rfl) f3.at_ f3.rep) (fun v4 s4 q4 => ?_) fun _ _ e => e
  have f4 := f3.of q4.1
  have e4 := ref_of q4.2
  subst e4
  refine wpAny_mono ((Ev.name (G := GI prog w hB l) (k := k) (d := .ref (h.objs.size + 1)) rfl).run _ _ _ s4 (rm.deeper _) (de.fun rfl) f4.at_ f4.rep) (fun v5 s5 q5 => ?_) fun _ _ e => e
  have f5 := f4.of q5.1
  have e5 := ref_of q5.2
  subst e5
  have hx5 := kp_keep f5.kp _ _ hx0
  have hd5 := kp_keep f5.kp _ _ hd0
  have sz : (madeH h).objs.size = h.objs.size + 1 + 1 := by unfold madeH; rw [Heap.size_push, Heap.size_push]
  obtain ⟨m, cm, I5, hr5⟩ := f5.ex
  have hcl : env.cells = [] := de.cells.trans rfl
  have lfr : (madeH h).objs.size ≤ env.locals := I5.toInCall.fresh
  have lt0 : h.objs.size < env.locals := by rw [sz] at lfr; exact Nat.lt_of_lt_of_le (Nat.lt_succ_of_lt (Nat.lt_succ_self _)) lfr
  have lt1 : h.objs.size + 1 < env.locals := by rw [sz] at lfr; exact Nat.lt_of_lt_of_le (Nat.lt_succ_self _) lfr
  have none_of_le : ∀ b, h.objs.size ≤ b → h.get? b = none := fun b hb => Heap.get?_none_of_le hb
  have F5 : Fr h env.locals s5.heap m := ⟨I5.toInCall.ns, fun b o e => kp_keep f5.kp b o (km b o e), Nat.le_of_lt lt0⟩
  have N5 : News h env.locals s5.heap [(h.objs.size + 1, instObj 256 h.objs.size), (h.objs.size, dictOf [] 0)] := by
    intro p hp
    simp only [List.mem_cons, List.not_mem_nil, or_false] at hp
    rcases hp with rfl | rfl
    · exact ⟨hx5, Nat.ne_of_lt lt1, none_of_le _ (Nat.le_succ _)⟩
    · exact ⟨hd5, Nat.ne_of_lt lt0, none_of_le _ (Nat.le_refl _)⟩
  refine set_dict (K := KK w) F5 (ha.kin hg) N5 (InstAt.of_news N5 (.head _) (.tail _ (.head _))) rfl rfl rfl rfl rfl rfl rfl (.tail (Nat.succ_ne_self _) (.head (fun _ hp => nomatch hp))) (Nat.le_of_ble_eq_true rfl) fun h' F' N' => ?_
  dsimp only [putL, putN] at N'
  have hx6 : h'.get? (h.objs.size + 1) = some (instObj 256 h.objs.size) := (N' _ (.head _)).1
  have hd6 := (N' _ (.tail _ (.head _))).1
  have a6 : At (GI prog w hB l) { s5 with heap := h', toks := s5.toks + 2 } := by
    obtain ⟨n, e⟩ := hl
    exact ⟨fun b o e => F'.keep b o (ha.keep b o e), (by intro b hb; cases hb), (by intro b hb; cases hb), ⟨TabC.keep (fun b o e => F'.keep b o e) ha.inv, ⟨n, F'.keep _ _ e⟩⟩⟩
  obtain ⟨h5, tk5, e5⟩ := I5.toInCall.same
  have f6 : Frm (GI prog w hB l) { s with heap := h } env [(Str.ofString "headers", .ref l), (Str.ofString "self", .ref (h.objs.size + 1))] { s5 with heap := h', toks := s5.toks + 2 } := by
    refine ⟨⟨ha.keep⟩, a6, (by intro b hb; rcases hb with hb | hb <;> cases hb), m, cm, ⟨⟨⟨h', s5.toks + 2, by rw [e5]⟩, F'.ns, F'.keep, Nat.le_of_lt lt0⟩, (by intro n c hc; rw [hcl] at hc; cases hc), I5.apart, I5.above⟩, fun y d e => ?_⟩
    rw [List.lookup_cons] at e
    cases hb : y == Str.ofString "headers" with
    | true =>
      rw [hb] at e; cases e
      have : y = Str.ofString "headers" := beq_iff_eq.mp hb
      subst this
      obtain ⟨v, b, r⟩ := hr5 (Str.ofString "headers") (.ref l) rfl
      rw [ref_of r] at b
      exact ⟨_, b, rep_ref⟩
    | false =>
      rw [hb, List.lookup_cons] at e
      cases hb2 : y == Str.ofString "self" with
      | false => rw [hb2] at e; cases e
      | true =>
        rw [hb2] at e; cases e
        have : y = Str.ofString "self" := beq_iff_eq.mp hb2
        subst this
        obtain ⟨v, b, r⟩ := hr5 (Str.ofString "self") (.ref (h.objs.size + 1)) rfl
        rw [ref_of r] at b
        exact ⟨_, b, rep_ref⟩
  refine wpAny_execs_cons (wpAny_mono (wpAny_toks_of (n := 1) (by show 1 ≤ s5.toks + 2; lia) ((St.ifT (G := GI prog w hB l) (k := k) (Tst.plain Ev.bool TruthOk.bool) (Sts.one (St.for (ds := []) (fun _ => [(Str.ofString "headers", .ref l), (Str.ofString "self", .ref (h.objs.size + 1))]) (fun _ => []) (Itr.empty rfl) (fun d hd => nomatch hd) (fun i d hi => absurd hi (Nat.not_lt_zero i))))).run _ _ _ _ _ (rm.deeper _) de f6.base f6)) (fun fl s7 q => ?_) fun _ _ e => e.2)
  obtain ⟨tk7, rfl, f7, hl7⟩ := q
  refine wpAny_execs_nil ?_
  have nc : ∀ b n c, env.cells.lookup n = some c → b ≠ c := by intro b n c hc; rw [hcl] at hc; cases hc
  exact hR s7 tk7 f7.kp (hl7.k _ _ (Nat.ne_of_lt lt1) (nc _) hx6) ⟨_, _, _, hl7.k _ _ (Nat.ne_of_lt lt0) (nc _) hd6⟩
end
end Mine
end

section
open PySem PySem.W PyProof.Rows
set_option Elab.async false
set_option linter.unusedVariables false
namespace Mine
set_option maxRecDepth 100000

theorem Room.under {A : Around} {k : Nat} {C : Addr} {vals : List Value} (r : Room A (k + 1)) : Room (A.under (.builtin "type.__call__" ⟨.ref C :: vals, []⟩)) k := by
  have u : (A.under (.builtin "type.__call__" ⟨.ref C :: vals, []⟩)).units ≤ A.units + 10 := Nat.add_le_add_left (by show (Code.builtin "type.__call__" ⟨.ref C :: vals, []⟩).cUnits ≤ 10; exact Nat.le_of_ble_eq_true rfl) _
  exact ⟨r.handled, by have := r.depth; show A.depth + 1 + k < _; lia, by have := r.units; lia⟩
section
variable {prog : Program} {w : World} {hB : Heap} {l : Addr} {k : Nat} {nm : List (Str × NameKind)} {ρ : Names}
/-- the new table lies so -/
structure NewTab (h : Heap) (T TD L : Addr) : Prop where
  inst : h.get? T = some (instObj 256 TD)
  dict : ∃ hs tk n, h.get? TD = some (dictOf [⟨hs, .str (Str.ofString "_headers") tk, .ref L⟩] n)
  list : h.PlainList L #[]
theorem call_headers (hg : Gnd (G0 prog w hB)) {A : Around} {E : Value → Shared → Prop} {s : Shared} (rm : Room A (k + 2)) (ha : At (G0 prog w hB) s) (hl : s.heap.PlainList l #[]) :
    wpAny (model prog w) A (call (.ref 256) [.ref l]) (fun v s' => ∃ T TD, v = .ref T ∧ 1 ≤ s'.toks ∧ Keeps s s' ∧ s.heap.get? T = none ∧ s.heap.get? TD = none ∧ NewTab s'.heap T TD l) E s := by
  obtain ⟨h, gg, dd, tt, os⟩ := s
  have X : (KK w).In h := ha.kin hg
  have fresh : ∀ b, h.objs.size ≤ b → h.get? b = none := fun b hb => Heap.get?_none_of_le hb
  refine wpAny_call (make_core (makes_of X (by kernel_rfl)) (looks_findIn X (by kernel_rfl : findIn (KK w) (.ref 256) "__init__" = some (some (.ref 148)))) (fun self => bind_fn X self (by kernel_rfl)) (.inl rfl) ?_)
  refine init_code (s := ⟨h, gg, dd, tt, os⟩) (k := k) hg rm.under ha hl fun s' tk kp hx hd => ?_
  obtain ⟨n, e⟩ := hl
  exact ⟨rfl, _, _, rfl, tk, kp, fresh _ (Nat.le_succ _), fresh _ (Nat.le_refl _), hx, hd, n, kp_keep kp _ _ e⟩
noncomputable def liveOf (h : Heap) : List Addr := (List.range h.objs.size).filter fun b => (h.get? b).isSome
noncomputable def GH (prog : Program) (w : World) (hB h : Heap) : Glo where
  prog := prog
  w := w
  hB := hB
  H := liveOf h
  F := []
  inv := TabC
  invs := fun h h' _ _ kc t => t.soft kc
/-- table = Headers([]) -/
theorem table_stmt (hg : Gnd (G0 prog w hB)) {A : Around} {E : Value → Shared → Prop} {s₀ s : Shared} {env : Env} {sc : Scope} {x : Str} {p p2 p3 lp cp : Pos} {Z : Flow → Shared → Prop} (rm : Room A (k + 2)) (de : DefEnv sc env) (hk : sc.kind = .function) (f : Frm (G0 prog w hB) s₀ env ρ s)
    (hn : sc.names.lookup (Str.ofString "Headers") = some .globalImplicit) (hx : storable sc x = true) (hsw : ∀ env, swapsWith (.Call (.Name (Str.ofString "Headers") p) [.List [] lp] [] cp) (some (.Name x p2)) p3.line env = pure false)
    (hZ : ∀ T TD L s', 1 ≤ s'.toks → Frm (G0 prog w hB) s₀ env ((x, .ref T) :: ρ) s' → (∀ b ∈ [T, TD, L], s₀.heap.get? b = none ∧ b ≠ env.locals ∧ ∀ n c, env.cells.lookup n = some c → b ≠ c) → NewTab s'.heap T TD L → Z .next s') :
    wpAny (model prog w) A (exec (.Assign [.Name x p2] (.Call (.Name (Str.ofString "Headers") p) [.List [] lp] [] cp) p3) env) Z E s := by
  have fe := de.fun hk
  refine wpAny_Assign_Name ?_ (hsw env)
  refine Call_Name rfl (glob_name (G := G0 prog w hB) (hg.glob (x := Str.ofString "Headers") (v := .ref 256) rfl) fe f.at_ hn (by decide) ?_)
  have X : (KK w).In s.heap := f.at_.kin hg
  have aH : At (GH prog w hB s.heap) s := ⟨f.at_.keep, fun b hb => Option.isSome_iff_exists.mp (List.mem_filter.mp hb).2, (by intro b hb; cases hb), f.at_.inv⟩
  have r1 := (Evs.cons (G := GH prog w hB s.heap) (k := k + 2) (g := sc.names) (ρ := []) (ev_list0 (pos := lp)) Evs.nil).run A E env s cp rm fe aH (by intro y d e; cases e)
  refine callWith_K (K := KK w) X (by kernel_rfl) (wpAny_mono r1.2 (fun vs s1 q1 => ⟨(f.of q1.1).at_.kin hg, ?_⟩) fun _ _ e => e)
  obtain ⟨v, rfl, rv⟩ := reps1 q1.2
  obtain ⟨L, us, rfl, hLn, hpl, rus⟩ := plist_of rv
  unfold Reps at rus
  subst rus
  have f1 := f.of q1.1
  refine wpAny_mono (call_headers (k := k) hg rm f1.at_ hpl) (fun v s2 q2 => ?_) fun _ _ e => e
  obtain ⟨T, TD, rfl, tk2, kp2, nT, nTD, nt⟩ := q2
  have f2 := f1.of kp2
  have none0 : ∀ b, s1.heap.get? b = none → s₀.heap.get? b = none := fun b hb => by
    cases e : s₀.heap.get? b with
    | none => rfl
    | some o => rw [kp_keep f1.kp _ _ e] at hb; cases hb
  have nL : s₀.heap.get? L = none := by
    cases e : s₀.heap.get? L with
    | none => rfl
    | some o =>
      have e1 := kp_keep f.kp _ _ e
      exact absurd (List.mem_filter.mpr ⟨List.mem_range.mpr (Heap.lt_size e1), by rw [e1]; rfl⟩) hLn
  obtain ⟨⟨o0, es0, ep0, ho0, hd0⟩, hc0, _⟩ := f.places
  obtain ⟨⟨o1, es1, ep1, ho1, hd1⟩, hc1, _⟩ := f1.places
  have offN : ∀ b, s1.heap.get? b = none → b ≠ env.locals ∧ ∀ n c, env.cells.lookup n = some c → b ≠ c := fun b hb => ⟨(by rintro rfl; rw [ho1] at hb; cases hb), fun n c hc q => by
    obtain ⟨o, v, ho, _⟩ := hc1 n c hc
    subst q; rw [ho] at hb; cases hb⟩
  have offL : L ≠ env.locals ∧ ∀ n c, env.cells.lookup n = some c → L ≠ c := by
    have nLs : s.heap.get? L = none := by
      cases e : s.heap.get? L with
      | none => rfl
      | some o => exact absurd (List.mem_filter.mpr ⟨List.mem_range.mpr (Heap.lt_size e), by rw [e]; rfl⟩) hLn
    refine ⟨(by rintro rfl; rw [ho0] at nLs; cases nLs), fun n c hc q => ?_⟩
    obtain ⟨o, v, ho, _⟩ := hc0 n c hc
    subst q; rw [ho] at nLs; cases nLs
  obtain ⟨i1, ⟨hs, tk, n, i2⟩, n3, i3⟩ := nt
  refine wpAny_mono (wpAny_toks_of (n := 1) tk2 (f2.store (d := .ref T) (Q := fun _ s3 => Frm (G0 prog w hB) s₀ env ((x, .ref T) :: ρ) s3 ∧ Held env s2 s3) fe.kind (storable_of de hx) rep_ref fun s3 f3 hl => ⟨f3, hl⟩)) (fun _ s3 q => ?_) fun _ _ e => e.2
  obtain ⟨tk3, f3, hl⟩ := q
  refine hZ T TD L s3 tk3 f3 (fun b hb => ?_) ⟨hl.k _ _ (offN _ nT).1 (offN _ nT).2 i1, ⟨hs, tk, n, hl.k _ _ (offN _ nTD).1 (offN _ nTD).2 i2⟩, n3, hl.k _ _ offL.1 offL.2 i3⟩
  simp only [List.mem_cons, List.not_mem_nil, or_false] at hb
  rcases hb with rfl | rfl | rfl
  · exact ⟨none0 _ nT, offN _ nT⟩
  · exact ⟨none0 _ nTD, offN _ nTD⟩
  · exact ⟨nL, offL⟩
/-- from then on the table is known -/
theorem frm_switch {T TD L a : Addr} {s₀ s : Shared} {env : Env} {x y : Str} {zs : List D} (f : Frm (G0 prog w hB) s₀ env [(x, .ref T), (y, .ref a)] s) (hxy : (y == x) = false) (hn : ∀ b ∈ [T, TD, L], s₀.heap.get? b = none ∧ b ≠ env.locals ∧ ∀ n c, env.cells.lookup n = some c → b ≠ c) (nt : NewTab s.heap T TD L)
    (r : Rep [] s₀.heap (.arg zs) (.ref a)) : Frm (GT ⟨prog, w, hB, T, TD, L⟩ []) s₀ env [(x, .ref T), (y, .arg zs)] s := by
  obtain ⟨m, cm, I, hr⟩ := f.ex
  obtain ⟨i1, i2, n3, i3⟩ := nt
  refine ⟨⟨f.base.keep⟩, ⟨f.at_.keep, fun b hb => ?_, fun b hb => ?_, ⟨⟨i1, i2, [], n3, i3, by unfold rowsD Reps; rfl⟩, f.at_.inv⟩⟩, fun b hb => ?_, m, cm, I, fun z d e => ?_⟩
  · have hb := List.mem_singleton.mp hb
    subst hb; exact ⟨_, i3⟩
  · have hb : b ∈ [T, TD] := hb
    simp at hb
    rcases hb with rfl | rfl
    · exact ⟨_, i1⟩
    · obtain ⟨hs, tk, n, e⟩ := i2; exact ⟨_, e⟩
  · have hb : b ∈ [T, TD] ∨ b ∈ [L] := hb
    exact (hn b (by simp at hb ⊢; rcases hb with (h | h) | h <;> simp [h])).2
  · rw [List.lookup_cons] at e
    cases hb : z == x with
    | true =>
      rw [hb] at e; cases e
      obtain ⟨v, b, r1⟩ := hr z (.ref T) (by rw [List.lookup_cons, hb])
      exact ⟨v, b, by rw [ref_of r1]; exact rep_ref⟩
    | false =>
      rw [hb, List.lookup_cons] at e
      cases hb2 : z == y with
      | false => rw [hb2] at e; cases e
      | true =>
        rw [hb2] at e; cases e
        obtain ⟨v, b, r1⟩ := hr z (.ref a) (by rw [List.lookup_cons, hb, List.lookup_cons, hb2])
        refine ⟨v, b, ?_⟩
        rw [ref_of r1]
        exact (r.more (hn L (by simp)).1).keep I.toInCall.keep
end
end Mine
end

section
open PySem PySem.W PyProof.Rows
set_option Elab.async false
set_option linter.unusedVariables false
namespace Mine
set_option maxRecDepth 100000

section
variable {g : Pl} {k : Nat} {sc : Scope} {ds : List D}
theorem fpN {rows : List Row} {s₀ s : Shared} {env : Env} {ρ : Names} (f : Frm (GT g rows) s₀ env ρ s) {fp wr : List Addr} (live : ∀ a o, s.heap.get? a = some o → a ∉ wr)
    (hfo : ∀ b ∈ fp, b ∈ wr ∨ ∃ o its n, s.heap.get? b = some o ∧ o.data = .seq its n ∧ b ∉ [g.L]) (b : Addr) (hb : b ∈ fp) : Nm g b := by
  obtain ⟨ps, hP0, _⟩ := f.at_.tabP.ex
  rcases hfo b hb with h | ⟨o, its, n, ho, hd, hx⟩
  · exact ⟨fun e => (f.n5 live b h).2 (by rw [e]; exact .head _), fun e => live _ _ hP0 (e ▸ h)⟩
  · exact ⟨fun e => hx (by rw [e]; exact .head _), fun e => by rw [e, hP0] at ho; cases ho; cases hd⟩
/-- for target in iter: body, the table changed on the way -/
theorem StM.for {target iter : Expr} {body : List Stmt} {pos : Pos} (rowsS : Nat → List Row) (ρs : Nat → Names) (δ : D → Names) (hit : ItrX [g.L] (GT g (rowsS 0)) k sc.names (ρs 0) iter ds) (put : ∀ i, ∀ d ∈ ds, Put (GT g (rowsS i)) k sc target d (δ d))
    (turn : ∀ i d, i < ds.length → ds[i]? = some d → ∃ ρ', StsM g (rowsS i) (rowsS (i + 1)) k sc (δ d ++ ρs i) body ρ' ∧ Sub (ρs (i + 1)) ρ') (hk : sc.kind = .function := by rfl) :
    StM g (rowsS 0) (rowsS ds.length) k sc (ρs 0) (.For target iter body [] pos) (ρs ds.length) := .mk fun A E s₀ env s rm de tk f => by
  refine wpAny_For (wpAny_monoT tk (hit.run A _ env s rm (de.fun hk) f.at_ f.rep) (fun xv s₁ tk1 q => wpAny_monoT tk1 q.2 (fun it s₂ tk2 q2 => ?_) fun _ _ e => e) fun _ _ e => e) (fun x => hit.fold x env)
  obtain ⟨I, fp, wr, P, St, rfl, W, hst, hfp, hwr, hfo, hsoft, hP, hcalm, hge⟩ := q2.2.ex
  have k1 := q.1
  have k2 := q2.1
  have f1 := f.of k1
  have f2 := f1.of k2
  have live : ∀ a o, s₁.heap.get? a = some o → a ∉ wr := fun a o e h => by rw [hwr _ h] at e; cases e
  obtain ⟨ps, hP0, _⟩ := f1.at_.tabP.ex
  have fpL : ∀ b ∈ fp, (b ≠ env.locals ∧ (∀ n c, env.cells.lookup n = some c → b ≠ c)) ∧ Nm g b := fun b hb => ⟨f1.fpL live hfo b hb, fpN f1 live hfo b hb⟩
  refine codeAny_forLoop_any (fun n s' => ∃ i t₁, i ≤ ds.length ∧ n = ds.length + 1 - i ∧ St i s'.heap ∧ 1 ≤ s'.toks ∧ Mv g s₀ t₁ ∧ Frm (GT g (rowsS i)) t₁ env (ρs i) s' ∧ HeldM g env s₁ s') ?_ (ds.length + 1) ⟨0, s₀, Nat.zero_le _, rfl, hst, tk2, .refl, f2, .mv (Mv.of k2)⟩
  rintro n s' ⟨i, t₁, hi, rfl, st, tki, mi, fi, hd⟩
  have hsof := hsoft i _ st
  by_cases hlt : i < ds.length
  · refine wpAny_with_toks tki (W.item i s' _ _ hlt st fun v h' tk' hPv st' kk tk5 => ?_)
    obtain ⟨d, hds, hl⟩ := hP i v hPv
    have f' := fi.but (tk := tk') kk (f1.nL live) (f1.nC live) (f1.n0ge fi hge) hsof (f1.n5 live)
    obtain ⟨oI, nI, hoI, hcI, hcm⟩ := hcalm _ _ st'
    refine letGo_calm hoI hcI hcm ?_
    have hd' : HeldM g env s₁ { s' with heap := h', toks := tk' } := ⟨fun b o h1 h2 h3 e => kk b o (live b o e) (hd.k b o h1 h2 h3 e)⟩
    have later : Later (GT g (rowsS 0)) s₁.heap h' := fun b o its n hb hdd e => hd'.k b o (f1.seqL e hdd).1 (f1.seqL e hdd).2 ⟨(by
      rintro rfl
      obtain ⟨o', its', n', e', _, hc⟩ := f1.at_.listL
      rcases hb with hb | hb
      · exact hb (List.mem_singleton.mpr rfl)
      · rw [e] at e'; cases e'
        rw [hb] at hc; simp at hc), (by rintro rfl; rw [hP0] at e; cases e; cases hdd)⟩ e
    refine wpAny_with_toks (n := 1) (by exact tk5) ((put i d (List.mem_of_getElem? hds)).run A _ t₁ env (ρs i) _ v _ rm de f'.base f' (hl h' later) fun s4 f4 hl4 tk4 => ?_)
    have st4 : St (i + 1) s4.heap := W.frame _ _ _ st' fun b hb o e => hl4.k b o (fpL b hb).1.1 (fpL b hb).1.2 e
    obtain ⟨ρ', hb, hsub⟩ := turn i d hlt hds
    refine wpAny_monoT tk4 (hb.run A _ t₁ env s4 rm de tk4 f4) (fun fl s5 tk5 z => ?_) fun _ _ e => e
    obtain ⟨rfl, t₂, m2, f5, hl5⟩ := z
    exact ⟨_, by lia, i + 1, t₂, hlt, rfl, W.frame _ _ _ st4 fun b hb o e => hl5.k b o (fpL b hb).1.1 (fpL b hb).1.2 (fpL b hb).2 e, tk5, mi.trans m2, f5.weak hsub, (hd'.trans (.of hl4)).trans hl5⟩
  · have e : i = ds.length := by lia
    subst e
    refine wpAny_with_toks (n := 1) tki (W.done s' _ _ st fun h' tk' kk tk3 => ?_)
    exact wpAny_execs_nil ⟨rfl, t₁, mi, fi.but (tk := tk') kk (f1.nL live) (f1.nC live) (f1.n0ge fi hge) hsof (f1.n5 live), (HeldM.mv (Mv.of k1)).trans ⟨fun b o h1 h2 h3 e => kk b o (live b o e) (hd.k b o h1 h2 h3 e)⟩⟩
end
end Mine
end

section
open PySem PySem.W PyProof.Rows
set_option Elab.async false
set_option linter.unusedVariables false
namespace Mine
set_option maxRecDepth 100000

section
variable {G : Glo} {k : Nat}
theorem reps_rep {H : List Addr} {h : Heap} {ds : List D} {vs : List Value} (r : Reps H h ds vs) : ∀ n : Nat, Reps H h (List.replicate n ds).flatten (List.replicate n vs).flatten
  | 0 => by unfold Reps; rfl
  | n + 1 => by
    rw [List.replicate_succ, List.replicate_succ, List.flatten_cons, List.flatten_cons]
    exact Reps.append r (reps_rep r n)
theorem BinOk.mulL {l : List D} {n : Nat} (hz : l.length * n ≤ 256) (hn : n < 1000) : BinOk G k .Mult (.list l) (.int n) (.list (List.replicate n l).flatten) := by
  constructor
  intro A E s v₁ v₂ rm at' r₁ r₂
  obtain ⟨b, vs, rfl, hbH, hl, rs⟩ := list_of r₁
  obtain ⟨u, rfl⟩ := int_of r₂
  obtain ⟨⟨cls, d, data, sl⟩, ho, hcl, kk, hd⟩ := id hl
  simp only at hcl hd
  subst hcl hd
  have key : ∀ x : Int, x.toNat = n → -(2 ^ 63 : Int) ≤ x → x < 2 ^ 63 → wpAny (model G.prog G.w) A (binaryOp .Mult (.ref b) (.int x u)) (fun v s' => Keeps s s' ∧ Rep G.H s'.heap (.list (List.replicate n l).flatten) v) E s := by
    intro x hx hlo hhi
    have hsz' : vs.toArray.size * x.toNat ≤ 256 := by
      have := rs.length
      rw [hx, List.size_toArray, this]; exact hz
    have hsz2 : vs.length * x.toNat ≤ 256 := by rw [hx, rs.length]; exact hz
    refine wpAny_binaryOp_repeat_ref (T := "list") (U := "int") (by decide) ⟨_, ho, rfl⟩ (fun s' => typeIs_int s' x u) noFill_list_mul F.fills_int_mul F.slot_int_rmul repeat_list F.slot_int_index.lookup
      (call_meets F.slot_int_rmul (typeIs_int s x u) F.entry_int_rmul (F.args_int_rmul_2 _ _) (lm_int_rmul_list_any x u b vs.toArray kk d sl)
        ⟨ho, rfl, ⟨_, ho, rfl⟩, call_meets F.slot_list_mul ⟨_, ho, rfl⟩ F.entry_list_mul (F.args_list_mul_2 _ _)
          (lm_list_mul_any b vs.toArray kk d sl x u (by simp [Builtin.List.listFitsIndex]; lia) (by lia) (by simp [Builtin.List.listTooLong, sizeLine]; lia))
          ⟨ho, ?_⟩⟩)
    rw [listMul_foldl_if]
    refine ⟨kp_push s _ s.toks, ?_⟩
    unfold Rep
    refine ⟨_, (List.replicate n vs).flatten, rfl, at'.fresh, ⟨0, ?_⟩, (reps_rep rs n).keep fun b o e => Heap.get?_push_of_some _ e⟩
    rw [hx]
    exact Heap.get?_push_size _ rfl
  exact key n (by simp) (by lia) (by lia)
end
section
variable {g : Pl} {rows : List Row} {k : Nat} {nm : List (Str × NameKind)} {ρ : Names}
/-- indexOf(x, o.lower()) -/
theorem EvM.index_lower (h : Gnd (GT g rows)) {p pos cp apos mp : Pos} {n : Nat} {o : Expr} {x y : Str} {b i : Nat} (hy : low y = ⟨#[b]⟩) (hx : x.cps.all (· < 128) = true) (hi : x.cps[i]? = some b) (hb : ∀ j, j < i → x.cps[j]? ≠ some b)
    (ho : Ev (GT g rows) (k + 2) nm ρ o (.str y)) (hn : nm.lookup (Str.ofString "indexOf") = some .globalImplicit)
    (hst : ∀ env, starEach [.Constant (.str x) n cp, .Call (.Attribute o (Str.ofString "lower") apos) [] [] mp] env = [(false, eval (.Constant (.str x) n cp) env), (false, eval (.Call (.Attribute o (Str.ofString "lower") apos) [] [] mp) env)])
    (hm : ∀ env, ∃ pl, eval (.Call (.Attribute o (Str.ofString "lower") apos) [] [] mp) env = (do
      let ov ← eval o env
      standAt apos.atName
      let (f, first) ← holding [ov] (getMethod ov (Str.ofString "lower") pl)
      callWith mp f first (backTo mp (starEach [] env)) [])) :
    EvM g rows rows (k + 2) nm ρ (.Call (.Name (Str.ofString "indexOf") p) [.Constant (.str x) n cp, .Call (.Attribute o (Str.ofString "lower") apos) [] [] mp] [] pos) (.int i) := .mk fun A E env s rm fe at' tk he => by
  obtain ⟨pl, hm⟩ := hm env
  have hlen : Builtin.Str.tooLong (low y).length = false := by rw [hy]; rfl
  refine Call_Name rfl (glob_name (G := GT g rows) (h.glob (x := Str.ofString "indexOf") (v := .ref 108) rfl) fe at' hn (by decide) ?_)
  have e0 : backTo pos (starEach [.Constant (.str x) n cp, .Call (.Attribute o (Str.ofString "lower") apos) [] [] mp] env) = (false, eval (.Constant (.str x) n cp) env) :: backTo pos [(false, eval (.Call (.Attribute o (Str.ofString "lower") apos) [] [] mp) env)] := by rw [hst env]; rfl
  rw [e0]
  refine callWith_any (G := GT g rows) (by rfl) (h.callee rfl) (Calls.spliced_cons (wpAny_monoT tk ((Ev.str (G := GT g rows) (k := k + 2) (g := nm) (ρ := ρ) (x := x) (n := n) (pos := cp)).run A E env s rm fe at' he) (fun v s₁ tk1 q => ?_) fun _ _ e => e))
  obtain ⟨t0, rfl⟩ := str_of q.2
  have a1 := at'.of q.1
  have he1 : EnvRep (GT g rows).H s₁.heap env ρ := he.keep (kp_keep q.1)
  show wpAny _ A (spliced ((false, eval (.Call (.Attribute o (Str.ofString "lower") apos) [] [] mp) env) :: backTo pos [])) _ E s₁
  refine Calls.spliced_cons (PyProof.Rows.MethodCall_ (wpAny_monoT tk1 (ho.run A E env s₁ rm fe a1 he1) (fun ov s₂ tk2 q2 => ?_) fun _ _ e => e) hm)
  have a2 := a1.of q2.1
  refine Meth.lower.look (G := GT g rows) A E s₂ ov pl _ q2.2 ?_
  obtain ⟨t1, rfl⟩ := str_of q2.2
  refine Calls.callWith_builtin rfl (evalArgs_any rfl (Calls.spliced_nil ?_))
  show wpAny (model g.prog g.w) A (PySem.call (.builtin "str.lower") [.str y t1]) _ E s₂
  refine SC.lower hlen (Calls.spliced_nil ?_)
  have kp3 : Keeps s { s₂ with toks := s₂.toks + 1 } := kp_trans q.1 (kp_trans q2.1 (kp_tok _ _))
  refine ⟨at'.of kp3, ?_⟩
  rw [show Txt.lower y = ⟨#[b]⟩ from hy]
  exact wpAny_mono (index_str h hx hi hb (rm.le (by lia)) (at'.of kp3) tk2 (Nat.lt_succ_self _)) (fun v s' z => ⟨(Mv.of kp3).trans z.1, z.2⟩) fun _ _ e => e
end
end Mine
end

section
open PySem PySem.W PyProof.Rows
set_option Elab.async false
set_option linter.unusedVariables false
namespace Mine
set_option maxRecDepth 100000

/-! ## the game, plainly -/
noncomputable def tri3 (l : List Int) : Tri := (l.getD 0 0, l.getD 1 0, l.getD 2 0)
noncomputable def triL (c : Tri) : List Int := [c.1, c.2.1, c.2.2]
noncomputable def otherT (x : Int) (c : Tri) : Tri := tri3 (other x c.1 c.2.1 c.2.2)
noncomputable def ansT (c : Tri) (g : Int) : Tri := tri3 (ansL c.1 c.2.1 c.2.2 g)
noncomputable def fairT (c d : Tri) : Bool := fair (triL c) (triL d)
noncomputable def xor3 (w : Tri) : Int := Builtin.bitXor (Builtin.bitXor w.1 w.2.1) w.2.2
noncomputable def wAt (w : Tri) (p : Nat) : Int := (triL w).getD p 0
noncomputable def downs (w : Tri) (q : Int) : List Bool := (triL w).map fun v => decide (Builtin.bitXor v q < v)
noncomputable def placeOf (w : Tri) : Nat := (downs w (xor3 w)).idxOf true
noncomputable def goalOf (w : Tri) : Int := Builtin.bitXor (wAt w (placeOf w)) (xor3 w)
noncomputable def inb3 (c : Tri) : Prop := inb c.1 ∧ inb c.2.1 ∧ inb c.2.2
noncomputable def wT (t : List Cell) : Tri := (wOf (partsT t 0), wOf (partsT t 1), wOf (partsT t 2))
structure Good (t : List Cell) : Prop where
  ok : TOk t
  nodup : (t.map (·.1)).Nodup
  lit : ∀ e ∈ t, e.2.2 ≠ (0, 0, 0)
noncomputable def pickI (x : Int) (n : Nat) : Nat := (x.fmod n).toNat
noncomputable def afterOther (turn : Nat) (x : Int) (t : List Cell) : List Cell := if 0 < turn then
  match t[pickI x t.length]? with
  | some e => layT t e.1 (turn % 2 == 0) (otherT x e.2.2)
  | none => t
  else t
noncomputable def afterAns (turn : Nat) (t : List Cell) : List Cell := if xor3 (wT t) = 0 then t else layT t (placeOf (wT t)) (turn % 2 == 1) (ansT (partsT t (placeOf (wT t))) (goalOf (wT t)))
noncomputable def stepT (turn : Nat) (x : Int) (t : List Cell) : List Cell := afterAns turn (afterOther turn x t)
structure AnsOk (t : List Cell) : Prop where
  place : placeOf (wT t) < 3
  down : (downs (wT t) (xor3 (wT t)))[placeOf (wT t)]? = some true ∧ ∀ j, j < placeOf (wT t) → (downs (wT t) (xor3 (wT t)))[j]? = some false
  goal : 0 ≤ goalOf (wT t) ∧ goalOf (wT t) < 10000
  fair : fairT (partsT t (placeOf (wT t))) (ansT (partsT t (placeOf (wT t))) (goalOf (wT t))) = true
  hit : wOf (ansT (partsT t (placeOf (wT t))) (goalOf (wT t))) = goalOf (wT t)
  inb : inb3 (ansT (partsT t (placeOf (wT t))) (goalOf (wT t)))
structure OtherOk (turn : Nat) (x : Int) (t : List Cell) (e : Cell) : Prop where
  fair : fairT e.2.2 (otherT x e.2.2) = true
  inb : inb3 (otherT x e.2.2)
  off : xor3 (wT (layT t e.1 (turn % 2 == 0) (otherT x e.2.2))) ≠ 0
structure StepOk (turn : Nat) (x : Int) (t : List Cell) : Prop where
  good : Good t
  oth : 0 < turn → ∀ e, t[pickI x t.length]? = some e → OtherOk turn x t e
  ans : xor3 (wT (afterOther turn x t)) ≠ 0 → AnsOk (afterOther turn x t)

theorem other_len (x a b c : Int) : (other x a b c).length = 3 := by
  unfold other; split <;> rfl
theorem ansL_len (a b c g : Int) : (ansL a b c g).length = 3 := rfl
theorem tri3D {l : List Int} (h : l.length = 3) : triD (tri3 l) = .list (l.map .int) := by
  obtain ⟨a, b, c, rfl⟩ := len3 h
  rfl
theorem triL_tri3 {l : List Int} (h : l.length = 3) : triL (tri3 l) = l := by
  obtain ⟨a, b, c, rfl⟩ := len3 h
  rfl

/-! lists of cells -/
theorem getT_drop (t : List Cell) (p q : Nat) : getT (dropT t p) q = if q = p then none else getT t q := by
  unfold getT dropT
  induction t with
  | nil => simp
  | cons e r ih =>
    rw [List.filter_cons]
    by_cases h : e.1 = p
    · have h1 : (e.1 != p) = false := by simp [h]
      rw [h1, if_neg (by simp), ih, List.find?_cons]
      by_cases hq : q = p
      · rw [if_pos hq, if_pos hq]
      · rw [if_neg hq, if_neg hq]
        have : (e.1 == q) = false := by rw [h]; simp; lia
        rw [this]
    · have h1 : (e.1 != p) = true := by simp [h]
      rw [h1, if_pos rfl, List.find?_cons, List.find?_cons]
      by_cases he : e.1 = q
      · have : (e.1 == q) = true := by simp [he]
        rw [this]
        rw [if_neg (by lia)]
      · have : (e.1 == q) = false := by simp [he]
        rw [this]; exact ih
theorem getT_snoc (t : List Cell) (e : Cell) (q : Nat) : getT (t ++ [e]) q = (getT t q).or (if e.1 = q then some e.2.2 else none) := by
  unfold getT
  rw [List.find?_append]
  cases h : t.find? (fun e => e.1 == q) with
  | some d => simp
  | none =>
    simp only [Option.none_or, Option.map_none, List.find?_cons, List.find?_nil]
    by_cases he : e.1 = q
    · have : (e.1 == q) = true := by simp [he]
      rw [this, if_pos he]; rfl
    · have : (e.1 == q) = false := by simp [he]
      rw [this, if_neg he]; rfl
theorem parts_lay (t : List Cell) (p : Nat) (gr : Bool) (c : Tri) (q : Nat) : partsT (layT t p gr c) q = if q = p then c else partsT t q := by
  unfold partsT layT
  by_cases hc : c = (0, 0, 0)
  · rw [if_pos hc, getT_drop]
    by_cases hq : q = p
    · rw [if_pos hq, if_pos hq, hc]; rfl
    · rw [if_neg hq, if_neg hq]
  · rw [if_neg hc, getT_snoc, getT_drop]
    by_cases hq : q = p
    · rw [if_pos hq, if_pos hq, if_pos hq.symm]; rfl
    · rw [if_neg hq, if_neg hq, if_neg (fun h => hq h.symm)]; simp
theorem wT_lay (t : List Cell) {p : Nat} (gr : Bool) (c : Tri) : wT (layT t p gr c) = setW (wT t) p (wOf c) := by
  unfold wT setW
  rw [parts_lay, parts_lay, parts_lay]
  by_cases h0 : p = 0
  · subst h0; rfl
  · by_cases h1 : p = 1
    · subst h1; rfl
    · by_cases h2 : p = 2
      · subst h2; rfl
      · simp only [if_neg h0, if_neg h1, if_neg h2, if_neg (Ne.symm h0), if_neg (Ne.symm h1), if_neg (Ne.symm h2)]
theorem Good.lay {t : List Cell} (h : Good t) {p : Nat} (hp : p < 3) (gr : Bool) {c : Tri} (hc : inb3 c) : Good (layT t p gr c) := by
  have hsub : ∀ e ∈ dropT t p, e ∈ t ∧ e.1 ≠ p := fun e he => by
    have := List.mem_filter.mp he
    exact ⟨this.1, by simpa using this.2⟩
  have nd : ((dropT t p).map (·.1)).Nodup := (List.filter_sublist.map _).nodup h.nodup
  have nd2 : ((layT t p gr c).map (·.1)).Nodup := by
    unfold layT
    split
    · exact nd
    · rw [List.map_append, List.nodup_append]
      refine ⟨nd, by simp, fun a ha b hb e => ?_⟩
      obtain ⟨x, hx, rfl⟩ := List.mem_map.mp ha
      simp at hb
      exact (hsub x hx).2 (by rw [e, hb])
  have hall : ∀ e ∈ layT t p gr c, CellOk e := layT_ok h.ok.2 hp hc.1 hc.2.1 hc.2.2
  refine ⟨⟨?_, hall⟩, nd2, ?_⟩
  · have hlt : ∀ a ∈ (layT t p gr c).map (·.1), a < 3 := fun a ha => by
      obtain ⟨x, hx, rfl⟩ := List.mem_map.mp ha
      exact (hall x hx).place
    have := List.Nodup.length_le_of_subset nd2 (l₂ := [0, 1, 2]) (fun a ha => by have := hlt a ha; simp; lia)
    simpa using this
  · unfold layT
    split
    · exact fun e he => h.lit e (hsub e he).1
    · rename_i hne
      intro e he
      rcases List.mem_append.mp he with he | he
      · exact h.lit e (hsub e he).1
      · rw [List.mem_singleton] at he
        rw [he]; exact hne
theorem getT_mem {t : List Cell} (h : (t.map (·.1)).Nodup) {e : Cell} (he : e ∈ t) : partsT t e.1 = e.2.2 := by
  unfold partsT getT
  induction t with
  | nil => cases he
  | cons d r ih =>
    rw [List.find?_cons]
    rw [List.map_cons, List.nodup_cons] at h
    rcases List.mem_cons.mp he with rfl | he
    · simp
    · have : (d.1 == e.1) = false := by
        rw [beq_eq_false_iff_ne]
        intro q
        exact h.1 (q ▸ List.mem_map_of_mem he)
      rw [this]
      exact ih h.2 he
end Mine
end

section
open PySem PySem.W PyProof.Rows
set_option Elab.async false
set_option linter.unusedVariables false
namespace Mine
set_option maxRecDepth 100000

theorem plain_fold : ∀ (l : List Cell) (v : List Int), (l.map (·.1)).Nodup → ∀ q, q < v.length → (l.foldl (fun v e => v.set e.1 (wOf e.2.2)) v)[q]? = some (match getT l q with | some c => wOf c | none => v.getD q 0)
  | [], v, _, q, hq => by simp [getT, hq]
  | e :: r, v, h, q, hq => by
    rw [List.map_cons, List.nodup_cons] at h
    rw [List.foldl_cons, plain_fold r _ h.2 q (by simpa using hq)]
    have hr : e.1 = q → getT r q = none := by
      intro he
      unfold getT
      rw [Option.map_eq_none_iff, List.find?_eq_none]
      intro x hx
      simp only [beq_iff_eq]
      intro hxq
      exact h.1 (by rw [he, ← hxq]; exact List.mem_map_of_mem hx)
    have hc : getT (e :: r) q = if e.1 = q then some e.2.2 else getT r q := by
      unfold getT
      rw [List.find?_cons]
      by_cases he : e.1 = q
      · have : (e.1 == q) = true := by simp [he]
        rw [this, if_pos he]; rfl
      · have : (e.1 == q) = false := by simp [he]
        rw [this, if_neg he]
    rw [hc]
    by_cases he : e.1 = q
    · rw [if_pos he, hr he]
      subst he
      simp [List.getD, hq]
    · rw [if_neg he]
      cases getT r q with
      | some c => rfl
      | none => simp [List.getD, he]
theorem wOf_zero : wOf (0, 0, 0) = 0 := by decide
theorem plain_eq {t : List Cell} (h : (t.map (·.1)).Nodup) : [(wT t).1, (wT t).2.1, (wT t).2.2] = plainS t t.length := by
  have hl : (plainS t t.length).length = 3 := plainS_len t _
  have hq : ∀ q, q < 3 → (plainS t t.length)[q]? = some (wOf (partsT t q)) := fun q hq => by
    unfold plainS
    rw [List.take_length, plain_fold t [0, 0, 0] h q (by simpa using hq)]
    unfold partsT
    cases getT t q with
    | some c => rfl
    | none =>
      rw [Option.getD_none, wOf_zero]
      have : q = 0 ∨ q = 1 ∨ q = 2 := by lia
      rcases this with rfl | rfl | rfl <;> rfl
  obtain ⟨a, b, c, e⟩ := len3 hl
  have h0 := hq 0 (by decide); have h1 := hq 1 (by decide); have h2 := hq 2 (by decide)
  rw [e] at h0 h1 h2 ⊢
  simp at h0 h1 h2
  unfold wT
  rw [h0, h1, h2]

section
variable {g : Pl} {rows rows' rows'' : List Row} {k : Nat} {nm : List (Str × NameKind)} {ρ : Names} {d d' : D} {ds : List D}
theorem EnvRep.moved {s s' : Shared} {env : Env} (a : At (GT g rows) s) (m : Mv g s s') (he : EnvRep [g.L] s.heap env ρ) : EnvRep [g.L] s'.heap env ρ := fun x d e => by
  obtain ⟨v, hs, r⟩ := he x d e
  obtain ⟨oL, its, nL, hL, hdL, _⟩ := a.listL
  obtain ⟨ps, hP, _⟩ := a.tabP.ex
  have ap : ∀ b o, s.heap.get? b = some o → (∀ its n, o.data ≠ .seq its n) → (∀ vs, o.data ≠ .fields vs) → s'.heap.get? b = some o := fun b o e h1 h2 => m.k b o ⟨(by
    rintro rfl; rw [hL] at e; cases e; exact h1 _ _ hdL), (by rintro rfl; rw [hP] at e; cases e; exact h2 _ rfl)⟩ e
  refine ⟨v, ?_, (r.later (G := GT g rows) (m.later a))⟩
  have cell : ∀ c, s.heap.IsCell c (some v) → s'.heap.IsCell c (some v) := fun c ⟨o, ho, hd⟩ => ⟨o, ap _ _ ho (by rw [hd]; intro _ _ q; cases q) (by rw [hd]; intro _ q; cases q), hd⟩
  rcases hs with ⟨a1, mm, n, e1⟩ | ⟨a1, c, e1, i⟩ | ⟨a1, b, c, e1, i⟩
  · obtain ⟨o, es, ep, ho, hd, hr⟩ := n
    exact .inl ⟨a1, mm, ⟨o, es, ep, ap _ _ ho (by rw [hd]; intro _ _ q; cases q) (by rw [hd]; intro _ q; cases q), hd, hr⟩, e1⟩
  · exact .inr (.inl ⟨a1, c, e1, cell c i⟩)
  · exact .inr (.inr ⟨a1, b, c, e1, cell c i⟩)
structure EvsM (g : Pl) (rows rows' : List Row) (k : Nat) (nm : List (Str × NameKind)) (ρ : Names) (es : List Expr) (ds : List D) : Prop where
  run : ∀ (A : Around) (E : Value → Shared → Prop) (env : Env) (s : Shared) (pos : Pos), Room A k → FunEnv nm env → At (GT g rows) s → 1 ≤ s.toks → EnvRep [g.L] s.heap env ρ →
    (backTo pos (starEach es env)).any (·.1) = false ∧
    wpAny (model g.prog g.w) A (spliced (backTo pos (starEach es env))) (fun vs s' => Mv g s s' ∧ At (GT g rows') s' ∧ Reps [g.L] s'.heap ds vs) E s
theorem EvM.of {e : Expr} (h : Ev (GT g rows) k nm ρ e d) : EvM g rows rows k nm ρ e d := .mk fun A E env s rm fe ha tk he =>
  wpAny_mono (h.run A E env s rm fe ha he) (fun v s' q => ⟨Mv.of q.1, ha.of q.1, q.2⟩) fun _ _ e => e
theorem EvsM.of {es : List Expr} (h : Evs (GT g rows) k nm ρ es ds) : EvsM g rows rows k nm ρ es ds := .mk fun A E env s pos rm fe ha tk he =>
  ⟨(h.run A E env s pos rm fe ha he).1, wpAny_mono (h.run A E env s pos rm fe ha he).2 (fun v s' q => ⟨Mv.of q.1, ha.of q.1, q.2⟩) fun _ _ e => e⟩
theorem EvsM.cons {e : Expr} {es : List Expr} (h : EvM g rows rows' k nm ρ e d) (r : EvsM g rows' rows'' k nm ρ es ds) (hs : ∀ env, starEach (e :: es) env = (false, eval e env) :: starEach es env := by intro _; rfl) (hp : ∀ pos env, (backTo pos (starEach es env)).any (·.1) = false := by intro _ _; rfl) :
    EvsM g rows rows'' k nm ρ (e :: es) (d :: ds) := .mk fun A E env s pos rm fe ha tk he => by
  rw [hs env]
  refine ⟨?_, ?_⟩
  · show (false || (backTo pos (starEach es env)).any (·.1)) = false
    rw [hp]; rfl
  · show wpAny _ A (spliced ((false, eval e env) :: backTo pos (starEach es env))) _ E s
    refine Calls.spliced_cons (wpAny_monoT tk (h.run A E env s rm fe ha tk he) (fun v s₁ tk1 h₁ => ?_) fun _ _ e => e)
    obtain ⟨m1, a1, r1⟩ := h₁
    refine wpAny_mono (r.run A E env s₁ pos rm fe a1 tk1 (he.moved ha m1)).2 (fun vs s₂ h₂ => ⟨m1.trans h₂.1, h₂.2.1, ?_⟩) fun _ _ e => e
    unfold Reps
    exact ⟨v, vs, rfl, r1.later (G := GT g rows') (h₂.1.later a1), h₂.2.2⟩
/-- a call of a global name, its arguments worked out on the way -/
theorem EvM.callM {x : Str} {p pos : Pos} {es : List Expr} {f : Value} (hx : GlobIs (GT g rows) x f) (hc : Callee (GT g rows') f) (ha : EvsM g rows rows' k nm ρ es ds) (h : CallM g rows' rows'' k f ds d)
    (hk : nm.lookup x = some .globalImplicit := by rfl) (hd : (x == ("__debug__" : Str)) = false := by decide) : EvM g rows rows'' k nm ρ (.Call (.Name x p) es [] pos) d := .mk fun A E env s rm fe at' tk he =>
  Call_Name rfl (glob_name (G := GT g rows) hx fe at' hk hd (callWith_any (G := GT g rows') (ha.run A E env s pos rm fe at' tk he).1 hc (wpAny_monoT tk (ha.run A E env s pos rm fe at' tk he).2 (fun vs s' tk' q =>
    ⟨q.2.1, wpAny_mono (h.run A E s' vs rm q.2.1 tk' q.2.2) (fun v s'' z => ⟨q.1.trans z.1, z.2⟩) fun _ _ e => e⟩) fun _ _ e => e)))
end
end Mine
end

section
open PySem PySem.W PyProof.Rows
set_option Elab.async false
set_option linter.unusedVariables false
namespace Mine
set_option maxRecDepth 100000

section
variable {g : Pl} {k : Nat} {sc : Scope} {ds : List D}
theorem StM.enum {x y : Str} {px py tp p pos fpos : Pos} {c : Nat} {e : Expr} {body : List Stmt} (hg : GndT g) (rowsS : Nat → List Row) (ρs : Nat → Names) (he : Ev (GT g (rowsS 0)) k sc.names (ρs 0) e (.list ds)) (hsc : ∀ d ∈ ds, d.scalar = true) (hs : ([x, y] : List Str).all (storable sc) = true)
    (turn : ∀ i d, i < ds.length → ds[i]? = some d → ∃ ρ', StsM g (rowsS i) (rowsS (i + 1)) k sc ((y, d) :: (x, .int i) :: ρs i) body ρ' ∧ Sub (ρs (i + 1)) ρ')
    (hn : sc.names.lookup (Str.ofString "enumerate") = some .globalImplicit := by rfl) (hse : ∀ env, starEach (e :: []) env = (false, eval e env) :: starEach [] env := by intro _; rfl) (hk : sc.kind = .function := by rfl) :
    StM g (rowsS 0) (rowsS ds.length) k sc (ρs 0) (.For (.Tuple [.Name x px, .Name y py] c tp) (.Call (.Name (Str.ofString "enumerate") p) [e] [] pos) body [] fpos) (ρs ds.length) := .mk fun A E s₀ env s rm de tk f =>
  for_enum rowsS ρs (fun i d => ds[i]? = some d) ds.length ds.length 1 (Nat.le_refl _) (Nat.le_refl _) hs hk (fun i d hi hd => turn i d hi hd) rm de tk f (src_list (hg.at (rowsS 0)) 1 rm de f he hsc hk hn hse) (by intro _ _; rfl)
    (fun _ E' s₁ s' tk' m f' hh => wpAny_execs_nil ⟨rfl, s₁, m, f', hh⟩) (fun h => absurd h (Nat.lt_irrefl _))
end
end Mine
end

section
open PySem PySem.W PyProof.Rows
set_option Elab.async false
set_option linter.unusedVariables false
namespace Mine
set_option maxRecDepth 100000
set_option maxHeartbeats 4000000

noncomputable def colT (l : List Int) (p : Nat) : Tri := (col0 (colX l p), col1 (colX l p), col2 (colX l p))
noncomputable def setT (l : List Int) : Nat → List Cell
  | 0 => []
  | p + 1 => layT (setT l p) p (p == 1) (colT l p)
noncomputable def midOf (l : List Int) : List Int := (l.drop (kms_lo (some 3) l.length)).take (kms_hi (some 6) l.length - kms_lo (some 3) l.length)
theorem pick_mid (l : List Int) : pick (ints3 l) (some 3) (some 6) = (midOf l).map .int := by
  unfold pick midOf ints3
  rw [List.length_map, List.map_take, List.map_drop]
theorem mid_len (l : List Int) : (midOf l).length ≤ 3 := by
  unfold midOf
  rw [List.length_take, List.length_drop]
  have h1 : kms_lo (some 3) l.length = min 3 l.length := by unfold kms_lo; simp
  have h2 : kms_hi (some 6) l.length = min 6 l.length := by unfold kms_hi; simp
  rw [h1, h2]
  refine Nat.le_trans (Nat.min_le_left _ _) (Nat.sub_le_iff_le_add.mpr ?_)
  rcases Nat.le_total l.length 3 with h | h
  · rw [Nat.min_eq_right h]; exact Nat.le_trans (Nat.min_le_right 6 _) (Nat.le_add_left _ _)
  · rw [Nat.min_eq_left h]; exact Nat.min_le_left 6 _
noncomputable def turnsOf (l : List Int) : List Int := [0] ++ (midOf l).map (fun n => n.fmod 1000000000) ++ [6, 6, 6, 6, 6, 6]
theorem turns_len (l : List Int) : (turnsOf l).length ≤ 10 := by
  unfold turnsOf
  have := mid_len l
  simp; lia
noncomputable def runT (l : List Int) : Nat → List Cell
  | 0 => setT l 3
  | i + 1 => stepT i ((turnsOf l).getD i 0) (runT l i)
noncomputable def FlAll : Prop := ∀ a b c, inb a → inb b → inb c → FlOk a b c
structure LawOk (l : List Int) : Prop where
  col : ∀ p, p < 3 → inb3 (colT l p)
  step : ∀ i, i < (turnsOf l).length → StepOk i ((turnsOf l).getD i 0) (runT l i)
  done : runT l (turnsOf l).length = []
noncomputable def rowN (t : List Cell) : D := .list (rowsD (rowsOf t))

theorem good_nil : Good [] := ⟨⟨by simp, fun e he => nomatch he⟩, by simp, fun e he => nomatch he⟩
theorem good_set {l : List Int} (h : ∀ p, p < 3 → inb3 (colT l p)) : ∀ i, i ≤ 3 → Good (setT l i)
  | 0, _ => good_nil
  | i + 1, hi => (good_set h i (by lia)).lay (by lia) _ (h i (by lia))
noncomputable def rowsNm (g : Pl) (t : List Cell) (ρ : Names) : Names := (Str.ofString "worths", triD (wT t)) :: (Str.ofString "row", rowN t) :: (Str.ofString "table", .ref g.T) :: ρ
theorem told_w (t : List Cell) {p : Nat} (gr : Bool) (c : Tri) : setW (wT t) p (told c.1 c.2.1 c.2.2) = wT (layT t p gr c) := by
  rw [wT_lay, told_eq]
theorem wT_nil : triD (wT []) = .list [.int 0, .int 0, .int 0] := by
  show D.list [.int (wOf (0, 0, 0)), .int (wOf (0, 0, 0)), .int (wOf (0, 0, 0))] = _
  rw [wOf_zero]
theorem abc_nat {p : Nat} (hp : p < 3) : (Str.ofString "abc").cps[p]? = some (97 + p) ∧ ∀ j, j < p → (Str.ofString "abc").cps[j]? ≠ some (97 + p) := by
  have cs : p = 0 ∨ p = 1 ∨ p = 2 := by lia
  rcases cs with rfl | rfl | rfl
  · exact ⟨by decide, fun j hj => absurd hj (Nat.not_lt_zero j)⟩
  · refine ⟨by decide, fun j hj => ?_⟩
    have : j = 0 := by lia
    subst this; decide
  · refine ⟨by decide, fun j hj => ?_⟩
    have : j = 0 ∨ j = 1 := by lia
    rcases this with rfl | rfl <;> decide
theorem pickI_lt {x : Int} {n : Nat} (h : 0 < n) : pickI x n < n ∧ x.fmod n = (pickI x n : Int) := by
  unfold pickI
  have h1 := Int.fmod_nonneg_of_pos x (b := (n : Int)) (by lia)
  have h2 := Int.fmod_lt_of_pos x (b := (n : Int)) (by lia)
  lia
theorem even_bool (i : Nat) (r : Nat) : (((i : Int).fmod 2 == (r : Int)) : Bool) = (i % 2 == r) := by
  rw [Bool.eq_iff_iff]
  rw [Int.fmod_eq_emod_of_nonneg _ (by decide)]
  simp
  lia
theorem StepOk.good1 {i : Nat} {x : Int} {t : List Cell} (st : StepOk i x t) : Good (afterOther i x t) := by
  unfold afterOther
  split
  · rename_i h
    split
    · rename_i e he
      have oo := st.oth h e he
      exact st.good.lay (st.good.ok.2 e (List.mem_of_getElem? he)).place _ oo.inb
    · exact st.good
  · exact st.good
theorem law_rest {prog : Program} {w : World} {hB : Heap} (hg0 : Gnd (G0 prog w hB)) (hm : ∃ p loose mean mg mb, Top p loose mean mg mb hB) (hid : hB.get? tabA = none) (fl : FlAll) {A : Around} {E : Value → Shared → Prop} {s : Shared} {a : Addr} {l : List Int} (rm : Room A 13) (ha : At (G0 prog w hB) s) (hz : l.length ≤ 63)
    (ok : LawOk l) (r : Rep [] s.heap (.arg (ints3 l)) (.ref a)) :
    wpAny (model prog w) A (call (.ref 314) [.ref a]) (fun v s' => (∃ h tk, s' = { s with heap := h, toks := tk }) ∧ (∀ b o, hB.get? b = some o → s'.heap.get? b = some o) ∧ TabC s'.heap ∧ v = .bool true) E s := by
  have hf := hg0.def (f := 314) rfl (by kernel_rfl)
  obtain ⟨o, ho, hd⟩ := hf.obj
  refine wpAny_call (call_cells rm.d (ha.keep _ _ ho) hd (hf.nolimit.keeps ha.keep) (hf.code.keeps ha.keep) hf.body (binds := [Str.ofString "script"].zip [.ref a]) (.of_eq rfl) hf.closure (kinds_of _ (by decide +kernel)) (fun s₁ tk I => ?_) hf.co hf.gen hf.kind)
  obtain ⟨fr, de⟩ := frm_start (G := G0 prog w hB) (ns := [Str.ofString "script"]) (ds := [.ref a]) hf rfl (by decide) (by decide +kernel) ha (reps_cons rep_ref (by unfold Reps; rfl)) I
  generalize callEnvC _ _ _ = env at fr de I ⊢
  refine wpAny_execs_cons (table_stmt (k := 10) hg0 (rm.deeper _) de rfl fr rfl (by decide +kernel) (by intro _; rfl) fun T TD L s2 tk2 f2 hn nt => ?_)
  have f3 := frm_switch f2 rfl hn nt r
  have hL : hB.get? L = none := by
    cases e : hB.get? L with
    | none => rfl
    | some o =>
      have := (hn L (by simp)).1
      rw [ha.keep _ _ e] at this; cases this
  generalize hgg : (⟨prog, w, hB, T, TD, L⟩ : Pl) = g at f3
  have hg : GndT g := by
    subst hgg
    exact ⟨hg0.other rfl rfl, hL, hid, hm⟩
  have e1 : g.prog = prog := by subst hgg; rfl
  have e2 : g.w = w := by subst hgg; rfl
  have e3 : g.hB = hB := by subst hgg; rfl
  have e4 : g.T = T := by subst hgg; rfl
  clear hgg hn nt f2
  subst e1 e2 e3 e4
  clear fr I ha
  refine wpAny_mono ((?rest : RetM g (rowsOf (setT l 0)) (rowsOf (runT l (turnsOf l).length)) 12 _ [(Str.ofString "table", .ref g.T), (Str.ofString "script", .arg (ints3 l))] _ (.bool true)).run _ _ s env s2 (rm.deeper _) de tk2 f3) (fun fl' s' q => ?_) fun _ _ e => e
  rotate_left
  · rcases q with ⟨_, q, _⟩ | ⟨v, rfl, mv, a', rv⟩
    · cases q
    · obtain ⟨h', tk', e⟩ := mv.same
      exact ⟨⟨h', tk', e⟩, a'.keep, a'.tabP, bool_of rv⟩
  have good3 := good_set ok.col
  refine' RetM.cons (StM.of (St.swap (xs := [Str.ofString "row", Str.ofString "worths"]) (ds := [.list [], .list [.int 0, .int 0, .int 0]]) (ev_tup2 (Evs.cons ev_list0 (Evs.cons (ev_list3 (Evs.cons Ev.int (Evs.cons Ev.int (Evs.cons Ev.int Evs.nil)))) Evs.nil))) rfl (by decide +kernel) (by intro _; rfl) ?sw)) ?_
  (case sw =>
    intro env de
    have hsc := de.scope
    obtain ⟨sc, _⟩ := env
    simp only at hsc
    subst hsc
    rfl)
  refine' RetM.cons (StM.weak (StM.for (ds := upTo 3) (fun i => rowsOf (setT l i)) (fun i => rowsNm g (setT l i) [(Str.ofString "script", .arg (ints3 l))]) (fun d => [(Str.ofString "place", d)]) (Itr.range (n := 3) ((hg.at _).built rfl rfl (by decide)) (Evs.cons Ev.int Evs.nil) (by decide)) ?put ?turn) ?w1 Sub.refl) ?_
  (case w1 =>
    show Sub ((Str.ofString "worths", triD (wT [])) :: (Str.ofString "row", .list []) :: (Str.ofString "table", .ref g.T) :: [(Str.ofString "script", .arg (ints3 l))]) _
    rw [wT_nil]
    exact Sub.cons rfl (Sub.cons rfl (Sub.cons rfl (Sub.cons rfl Sub.nil))))
  (case put => exact fun i d hd => Put.name)
  (case turn =>
    intro i d hi hd
    have hi3 : i < 3 := hi
    have ed : d = .int i := by
      have : (upTo 3)[i]? = some (.int i) := by
        have : i = 0 ∨ i = 1 ∨ i = 2 := by lia
        rcases this with rfl | rfl | rfl <;> rfl
      rw [this] at hd; cases hd; rfl
    subst ed
    have gd := good3 i (by lia)
    have gd' := good3 (i + 1) (by lia)
    have hc := ok.col i hi3
    have hcol := colour_ok (hg.at (rowsOf (setT l i))) l hz i hi3
    have e5 : setT l (i + 1) = layT (setT l i) i (i == 1) (colT l i) := rfl
    rw [e5] at gd' ⊢
    have hlay := lay_ok hg gd.ok.2 (by have := gd.ok.1; lia) hi3 (i == 1) (fl _ _ _ hc.1 hc.2.1 hc.2.2) hc.1 hc.2.1 hc.2.2
    have hret := retold_ok (hg.at _) gd'.ok hi3 (wT (setT l i)) (a := (colT l i).1) (b := (colT l i).2.1) (c := (colT l i).2.2) (by rw [parts_lay, if_pos rfl]) (fl _ _ _ hc.1 hc.2.1 hc.2.2) hc.1 hc.2.1 hc.2.2
    rw [told_w _ (i == 1)] at hret
    refine' ⟨_, StsM.cons (StM.assign (EvM.call ((hg.at _).glob rfl) ((hg.at _).callee rfl) (Evs.cons (Ev.name rfl) (Evs.cons (Ev.name rfl) (Evs.cons (Ev.name rfl) (Evs.cons (Ev.call ((hg.at _).glob rfl) ((hg.at _).callee rfl) (Evs.cons (Ev.name rfl) (Evs.cons (Ev.name rfl) Evs.nil)) (hcol.le (by decide))) (Evs.cons ?eq Evs.nil))))) (hlay.le (by decide)))) (StsM.one (StM.of (St.assign (Ev.call ((hg.at _).glob rfl) ((hg.at _).callee rfl) (Evs.cons (Ev.name rfl) (Evs.cons (Ev.name rfl) (Evs.cons (Ev.name rfl) Evs.nil))) (hret.le (by decide)))))), ?sub⟩
    (case eq =>
      refine Ev.cast (Ev.cmp (Ev.name rfl) Ev.int CmpOk.eq) (congrArg D.bool ?_)
      rw [Bool.eq_iff_iff]
      simp; lia)
    (case sub => exact Sub.cons rfl (Sub.cons rfl (Sub.cons rfl (Sub.cons rfl Sub.nil)))))
  refine' RetM.cons (StM.weak (ρ₁ := rowsNm g (runT l 0) [(Str.ofString "script", .arg (ints3 l))]) (StM.enum (ds := intsD (turnsOf l)) hg (fun i => rowsOf (runT l i)) (fun i => rowsNm g (runT l i) [(Str.ofString "script", .arg (ints3 l))]) ?src ?scal (by decide +kernel) ?turn) Sub.refl Sub.refl) ?_
  (case scal =>
    intro d hd
    obtain ⟨x, _, rfl⟩ := List.mem_map.mp hd
    rfl)
  (case src =>
    have e7 : D.list (intsD (turnsOf l)) = .list (([.int 0] ++ ((midOf l).map D.int).map (fun d => match d with | .int n => D.int (n.fmod 1000000000) | _ => .none)) ++ (List.replicate 6 [D.int 6]).flatten) := by
      unfold turnsOf intsD
      rw [List.map_append, List.map_append, List.map_map, List.map_map]
      rfl
    rw [e7]
    have hml := mid_len l
    refine' Ev.bin (Ev.bin (ev_list1 (Evs.cons Ev.int Evs.nil)) (ev_compE (fun _ => true) (fun d => match d with | .int n => D.int (n.fmod 1000000000) | _ => .none) (Itr.list (Ev.cast (ev_sliceA (Ev.name rfl) (by unfold ints3; rw [List.length_map]; lia) (Part.some Ev.int) (Part.some Ev.int)) (congrArg D.list (pick_mid l))) (by rw [List.length_map]; lia)) (by rw [List.filter_eq_self.mpr (fun _ _ => rfl)]) ?so (fun d hd => Ifs.nil) (fun d hd _ => ?he)) (BinOk.addL ?z1)) (Ev.bin (ev_list1 (Evs.cons Ev.int Evs.nil)) Ev.int (BinOk.mulL (n := 6) (by decide) (by decide))) (BinOk.addL ?z2)
    (case so =>
      generalize midOf l = m
      induction m with
      | nil => rfl
      | cons x r ih => show (D.solid (.int x) && D.solids (r.map D.int)) = true; rw [ih]; rfl)
    (case he =>
      obtain ⟨n, _, rfl⟩ := List.mem_map.mp hd
      exact .scal (Ev.bin (Ev.name rfl) Ev.int (BinOk.mod (by decide))) rfl)
    (case z1 => simp; lia)
    (case z2 => simp; lia))
  (case turn =>
    intro i d hi hd
    have e8 : (intsD (turnsOf l)).length = (turnsOf l).length := by unfold intsD; rw [List.length_map]
    rw [e8] at hi
    have st := ok.step i hi
    have e5 : runT l (i + 1) = stepT i ((turnsOf l).getD i 0) (runT l i) := rfl
    have ed : d = .int ((turnsOf l).getD i 0) := by
      unfold intsD at hd
      rw [List.getElem?_map, List.getElem?_eq_getElem hi] at hd
      cases hd
      simp [List.getD, hi]
    rw [e5]
    subst ed
    have hi100 : i < 100 := by have := turns_len l; lia
    generalize (turnsOf l).getD i 0 = x at st ⊢
    generalize runT l i = t at st ⊢
    clear hi e8 e5 good3
    generalize D.arg (ints3 l) = scr
    have gd := st.good
    have hlen3 : t.length ≤ 3 := gd.ok.1
    have hast := astold_ok (g := g) (hg.at (rowsOf t)) gd.ok (wT t) (plain_eq gd.nodup)
    have hlenR : (rowsOf t).length = t.length := by unfold rowsOf; rw [List.length_map]
    refine' ⟨(Str.ofString "x", .int x) :: (Str.ofString "turn", .int i) :: rowsNm g (stepT i x t) [(Str.ofString "script", scr)], StsM.cons (StM.of (St.ifF (Tst.cast (Tst.not (Tst.plain (Ev.call ((hg.at _).glob rfl) ((hg.at _).callee rfl) (Evs.cons (Ev.name rfl) (Evs.cons (Ev.name rfl) (Evs.cons (Ev.name rfl) Evs.nil))) (hast.le (by decide))) TruthOk.bool)) rfl) Sts.nil)) (StsM.cons (rows' := rowsOf (afterOther i x t)) (ρ' := (Str.ofString "x", .int x) :: (Str.ofString "turn", .int i) :: rowsNm g (afterOther i x t) [(Str.ofString "script", scr)]) ?other (StsM.cons (rows' := rowsOf (afterOther i x t)) (ρ' := (Str.ofString "whole", .int (xor3 (wT (afterOther i x t)))) :: (Str.ofString "x", .int x) :: (Str.ofString "turn", .int i) :: rowsNm g (afterOther i x t) [(Str.ofString "script", scr)]) ?whole (StsM.one ?answer))), ?sub⟩
    (case sub => exact Sub.cons rfl (Sub.cons rfl (Sub.cons rfl (Sub.cons rfl Sub.nil))))
    (case whole =>
      refine' StM.of (St.assign (Ev.call ((hg.at _).glob rfl) ((hg.at _).callee rfl) (Evs.cons (Ev.call ((hg.at _).glob rfl) ((hg.at _).callee rfl) (Evs.cons (Ev.sub (Ev.name rfl) Ev.int (GetOk.list (by decide) (by decide) rfl)) (Evs.cons (Ev.sub (Ev.name rfl) Ev.int (GetOk.list (by decide) (by decide) rfl)) Evs.nil)) ((xor_ok (hg.at _) _ _).le (by decide))) (Evs.cons (Ev.sub (Ev.name rfl) Ev.int (GetOk.list (by decide) (by decide) rfl)) Evs.nil)) ((xor_ok (hg.at _) _ _).le (by decide)))))
    (case other =>
      have hhint := (hint_ok (hg.at (rowsOf t)) (by lia)).le (show 4 ≤ 12 by decide)
      have tH : ∀ {ρ : Names} {pos : Pos} {z : Str} {p q : Pos}, ρ.lookup (Str.ofString "table") = some (.ref g.T) → True := fun _ => trivial
      by_cases hi0 : 0 < i
      · by_cases ht : t = []
        · have e9 : afterOther i x t = t := by unfold afterOther; rw [if_pos hi0, ht]; rfl
          rw [e9]
          refine' StM.of (St.ifF (Tst.andT (Tst.cast (Tst.cmp (Ev.name rfl) Ev.int CmpOk.gt) (by simpa using hi0)) (Tst.andF (Tst.cast (Tst.cmp (Ev.call ((hg.at _).glob rfl) ((hg.at _).callee rfl) (Evs.cons (Ev.name rfl) Evs.nil) hhint) Ev.int CmpOk.gt) (by rw [hlenR, ht]; rfl)))) Sts.nil)
        · obtain ⟨hpk, hfm⟩ := pickI_lt (x := x) (n := t.length) (List.length_pos_iff.mpr ht)
          obtain ⟨e, he⟩ : ∃ e, t[pickI x t.length]? = some e := ⟨_, List.getElem?_eq_getElem hpk⟩
          have oo := st.oth hi0 e he
          have e9 : afterOther i x t = layT t e.1 (i % 2 == 0) (otherT x e.2.2) := by unfold afterOther; rw [if_pos hi0, he]
          rw [e9]
          have hem : e ∈ t := List.mem_of_getElem? he
          have hp := (gd.ok.2 e hem).place
          have hpt : partsT t e.1 = e.2.2 := getT_mem gd.nodup hem
          have hib := oo.inb
          have gd' := gd.lay hp (i % 2 == 0) hib
          have hlay := lay_ok hg gd.ok.2 (by lia) hp (i % 2 == 0) (fl _ _ _ hib.1 hib.2.1 hib.2.2) hib.1 hib.2.1 hib.2.2
          have hret := retold_ok (hg.at (rowsOf (layT t e.1 (i % 2 == 0) (otherT x e.2.2)))) gd'.ok hp (wT t) (a := (otherT x e.2.2).1) (b := (otherT x e.2.2).2.1) (c := (otherT x e.2.2).2.2) (by rw [parts_lay, if_pos rfl]) (fl _ _ _ hib.1 hib.2.1 hib.2.2) hib.1 hib.2.1 hib.2.2
          rw [told_w _ (i % 2 == 0)] at hret
          have hp1 := parts_ok (hg.at (rowsOf t)) gd.ok hp false
          rw [hpt] at hp1
          have hp2 := parts_ok (hg.at (rowsOf (layT t e.1 (i % 2 == 0) (otherT x e.2.2)))) gd'.ok hp true
          rw [parts_lay, if_pos rfl] at hp2
          have hfair := fair_ok (hg.at (rowsOf (layT t e.1 (i % 2 == 0) (otherT x e.2.2)))) e.2.2.1 e.2.2.2.1 e.2.2.2.2 (otherT x e.2.2).1 (otherT x e.2.2).2.1 (otherT x e.2.2).2.2
          rw [show fair [e.2.2.1, e.2.2.2.1, e.2.2.2.2] [(otherT x e.2.2).1, (otherT x e.2.2).2.1, (otherT x e.2.2).2.2] = true from oo.fair] at hfair
          have hast' := astold_ok (g := g) (hg.at (rowsOf (layT t e.1 (i % 2 == 0) (otherT x e.2.2)))) gd'.ok (wT (layT t e.1 (i % 2 == 0) (otherT x e.2.2))) (plain_eq gd'.nodup)
          have hkeys := keys_ok (hg.at (rowsOf t)) (by lia)
          have hoth := other_ok (hg.at (rowsOf t)) x e.2.2.1 e.2.2.2.1 e.2.2.2.2
          rw [← tri3D (other_len _ _ _ _)] at hoth
          have hoff := oo.off
          have hget : ((rowsOf t).map fun p => D.str p.1)[(x.fmod ((rowsOf t).length : Nat)).toNat]? = some (.str (lname e.1 e.2.1)) := by
            rw [hlenR, hfm]
            unfold rowsOf
            rw [List.map_map, List.getElem?_map, Int.toNat_natCast, he]
            rfl
          refine' StM.weak (StM.ifT (Tst.andT (Tst.cast (Tst.cmp (Ev.name rfl) Ev.int CmpOk.gt) (by simpa using hi0)) (Tst.andT (Tst.cast (Tst.cmp (Ev.call ((hg.at _).glob rfl) ((hg.at _).callee rfl) (Evs.cons (Ev.name rfl) Evs.nil) hhint) Ev.int CmpOk.gt) (by rw [hlenR]; simp; exact List.length_pos_iff.mpr ht)) Tst.and0)) (StsM.cons ?b1 (StsM.cons ?b2 (StsM.cons ?b3 (StsM.cons ?b4 (StsM.cons ?b5 (StsM.one ?b6))))))) Sub.refl ?bs
          (case b1 =>
            refine' StM.assign (EvM.index_lower (k := 10) (hg.at _) (y := lname e.1 e.2.1) (b := 97 + e.1) (i := e.1) (low_lname hp e.2.1) (by decide +kernel) (abc_nat hp).1 (abc_nat hp).2 (Ev.sub (ev_own (hg.at _) (Ev.name rfl) Evs.nil (hkeys.le (by decide)) (hcl := (hg.at _).callee rfl)) (Ev.bin (Ev.name rfl) (Ev.call ((hg.at _).glob rfl) ((hg.at _).callee rfl) (Evs.cons (Ev.name rfl) Evs.nil) hhint) (BinOk.mod ?nz)) (GetOk.list ?g0 ?g1 hget)) rfl (fun _ => rfl) (fun _ => ⟨_, rfl⟩))
            (case nz => lia)
            (case g0 => rw [hlenR, hfm]; lia)
            (case g1 => rw [hlenR, hfm]; lia))
          (case b2 => exact StM.of (St.assign (Ev.call ((hg.at _).glob rfl) ((hg.at _).callee rfl) (Evs.cons (Ev.name rfl) (Evs.cons (Ev.sub Ev.str (Ev.name rfl) (GetOk.str (by lia) (by lia) (abc_at hp))) Evs.nil)) (hp1.le (by decide)))))
          (case b3 => exact StM.assign (EvM.call ((hg.at _).glob rfl) ((hg.at _).callee rfl) (Evs.cons (Ev.name rfl) (Evs.cons (Ev.name rfl) (Evs.cons (Ev.name rfl) (Evs.cons (Ev.call ((hg.at _).glob rfl) ((hg.at _).callee rfl) (Evs.cons (Ev.name rfl) (Evs.cons (Ev.name rfl) Evs.nil)) (hoth.le (by decide))) (Evs.cons (Ev.cast (Ev.cmp (Ev.bin (Ev.name rfl) Ev.int (BinOk.mod (by decide))) Ev.int CmpOk.eq) (congrArg D.bool (even_bool i 0))) Evs.nil))))) (hlay.le (by decide))))
          (case b4 => exact StM.of (St.assign (Ev.call ((hg.at _).glob rfl) ((hg.at _).callee rfl) (Evs.cons (Ev.name rfl) (Evs.cons (Ev.name rfl) (Evs.cons (Ev.name rfl) Evs.nil))) (hret.le (by decide)))))
          (case b5 => exact StM.of (St.ifF (Tst.orF (Tst.cast (Tst.not (Tst.plain (Ev.call ((hg.at _).glob rfl) ((hg.at _).callee rfl) (Evs.cons (Ev.name rfl) (Evs.cons (Ev.call ((hg.at _).glob rfl) ((hg.at _).callee rfl) (Evs.cons (Ev.name rfl) (Evs.cons (Ev.sub Ev.str (Ev.name rfl) (GetOk.str (by lia) (by lia) (ABC_at hp))) Evs.nil)) (hp2.le (by decide))) Evs.nil)) (hfair.le (by decide))) TruthOk.bool)) rfl) (Tst.orF (Tst.cast (Tst.not (Tst.plain (Ev.call ((hg.at _).glob rfl) ((hg.at _).callee rfl) (Evs.cons (Ev.name rfl) (Evs.cons (Ev.name rfl) (Evs.cons (Ev.name rfl) Evs.nil))) (hast'.le (by decide))) TruthOk.bool)) rfl) Tst.or0)) Sts.nil))
          (case b6 =>
            have hne : (xor3 (wT (layT t e.1 (i % 2 == 0) (otherT x e.2.2))) == 0) = false := by simpa using hoff
            exact StM.of (St.ifF (Tst.cast (Tst.cmp (Ev.call ((hg.at _).glob rfl) ((hg.at _).callee rfl) (Evs.cons (Ev.call ((hg.at _).glob rfl) ((hg.at _).callee rfl) (Evs.cons (Ev.sub (Ev.name rfl) Ev.int (GetOk.list (by decide) (by decide) rfl)) (Evs.cons (Ev.sub (Ev.name rfl) Ev.int (GetOk.list (by decide) (by decide) rfl)) Evs.nil)) ((xor_ok (hg.at _) _ _).le (by decide))) (Evs.cons (Ev.sub (Ev.name rfl) Ev.int (GetOk.list (by decide) (by decide) rfl)) Evs.nil)) ((xor_ok (hg.at _) _ _).le (by decide))) Ev.int CmpOk.eq) hne) Sts.nil))
          (case bs => exact Sub.cons rfl (Sub.cons rfl (Sub.cons rfl (Sub.cons rfl (Sub.cons rfl (Sub.cons rfl Sub.nil))))))
      · have e9 : afterOther i x t = t := by unfold afterOther; rw [if_neg hi0]
        rw [e9]
        refine' StM.of (St.ifF (Tst.andF (Tst.cast (Tst.cmp (Ev.name rfl) Ev.int CmpOk.gt) (by simpa using hi0))) Sts.nil))
    (case answer =>
      have est : stepT i x t = afterAns i (afterOther i x t) := rfl
      have an := st.ans
      have gd1 := st.good1
      rw [est]
      generalize afterOther i x t = t1 at an gd1 ⊢
      clear est st gd hast hlenR hlen3
      have hlen3 : t1.length ≤ 3 := gd1.ok.1
      by_cases hw : xor3 (wT t1) = 0
      · have e9 : afterAns i t1 = t1 := by unfold afterAns; rw [if_pos hw]
        rw [e9]
        refine' StM.weak (StM.of (St.ifF (Tst.cast (Tst.cmp (Ev.name rfl) Ev.int CmpOk.ne) (by rw [hw]; rfl)) Sts.nil)) Sub.refl (Sub.cons rfl (Sub.cons rfl (Sub.cons rfl (Sub.cons rfl (Sub.cons rfl (Sub.cons rfl Sub.nil))))))
      · have ao := an hw
        have e9 : afterAns i t1 = layT t1 (placeOf (wT t1)) (i % 2 == 1) (ansT (partsT t1 (placeOf (wT t1))) (goalOf (wT t1))) := by unfold afterAns; rw [if_neg hw]
        rw [e9]
        have hgoal : Builtin.bitXor (wAt (wT t1) (placeOf (wT t1))) (xor3 (wT t1)) = goalOf (wT t1) := rfl
        obtain ⟨hp, hdown, hgo, hfr, hhit, hib⟩ := ao
        generalize placeOf (wT t1) = p at hp hdown hfr hhit hib hgoal ⊢
        generalize goalOf (wT t1) = goal at hgo hfr hhit hib hgoal ⊢
        have hansw := CallM.answer (rows := rowsOf t1) hg (partsT t1 p).1 (partsT t1 p).2.1 (partsT t1 p).2.2 goal hgo.1 hgo.2
        rw [← tri3D (ansL_len _ _ _ _)] at hansw
        have hansw' : CallM g (rowsOf t1) (rowsOf t1) 4 (.ref 309) [triD (partsT t1 p), .int goal] (triD (ansT (partsT t1 p) goal)) := hansw
        generalize ansT (partsT t1 p) goal = n at hfr hhit hib hansw' ⊢
        clear hansw
        have gd' := gd1.lay hp (i % 2 == 1) hib
        have hlay := lay_ok hg gd1.ok.2 (by lia) hp (i % 2 == 1) (fl _ _ _ hib.1 hib.2.1 hib.2.2) hib.1 hib.2.1 hib.2.2
        have hret := retold_ok (hg.at (rowsOf (layT t1 p (i % 2 == 1) n))) gd'.ok hp (wT t1) (a := n.1) (b := n.2.1) (c := n.2.2) (by rw [parts_lay, if_pos rfl]) (fl _ _ _ hib.1 hib.2.1 hib.2.2) hib.1 hib.2.1 hib.2.2
        rw [told_w _ (i % 2 == 1)] at hret
        have hp1 := parts_ok (hg.at (rowsOf t1)) gd1.ok hp false
        have hp2 := parts_ok (hg.at (rowsOf (layT t1 p (i % 2 == 1) n))) gd'.ok hp true
        rw [parts_lay, if_pos rfl] at hp2
        have hfair := fair_ok (hg.at (rowsOf (layT t1 p (i % 2 == 1) n))) (partsT t1 p).1 (partsT t1 p).2.1 (partsT t1 p).2.2 n.1 n.2.1 n.2.2
        rw [show fair [(partsT t1 p).1, (partsT t1 p).2.1, (partsT t1 p).2.2] [n.1, n.2.1, n.2.2] = true from hfr] at hfair
        have hwat : [(D.int (wT t1).1), .int (wT t1).2.1, .int (wT t1).2.2][p]? = some (.int (wAt (wT t1) p)) := by
          have : p = 0 ∨ p = 1 ∨ p = 2 := by lia
          rcases this with rfl | rfl | rfl <;> rfl
        have hwat2 : [(D.int (wT (layT t1 p (i % 2 == 1) n)).1), .int (wT (layT t1 p (i % 2 == 1) n)).2.1, .int (wT (layT t1 p (i % 2 == 1) n)).2.2][p]? = some (.int goal) := by
          rw [wT_lay, hhit]
          have : p = 0 ∨ p = 1 ∨ p = 2 := by lia
          rcases this with rfl | rfl | rfl <;> rfl
        have hidx := index_bools (hg.at (rowsOf t1)) (l := downs (wT t1) (xor3 (wT t1))) (i := p) (by show 3 ≤ 1000; decide) hdown.1 hdown.2
        refine' StM.weak (StM.ifT (Tst.cast (Tst.cmp (Ev.name rfl) Ev.int CmpOk.ne) (by simpa using hw)) (StsM.cons ?a1 (StsM.cons ?a2 (StsM.cons ?a3 (StsM.cons ?a4 (StsM.cons ?a5 (StsM.one ?a6))))))) Sub.refl ?as
        (case a1 =>
          refine' StM.assign (EvM.call ((hg.at _).glob rfl) ((hg.at _).callee rfl) (Evs.cons (ev_compE (fun _ => true) (fun d => match d with | .int v => .bool (decide (Builtin.bitXor v (xor3 (wT t1)) < v)) | _ => .none) (Itr.list (Ev.name rfl) (by show 3 ≤ 1000; decide)) rfl rfl (fun d hd => Ifs.nil) (fun d hd _ => ?ce)) (Evs.cons Ev.bool Evs.nil)) (hidx.le (by decide)))
          (case ce =>
            have hd : d ∈ [(D.int (wT t1).1), .int (wT t1).2.1, .int (wT t1).2.2] := hd
            simp only [List.mem_cons, List.not_mem_nil, or_false] at hd
            rcases hd with rfl | rfl | rfl
            all_goals exact .scal (Ev.call ((hg.at _).glob rfl) ((hg.at _).callee rfl) (Evs.cons (Ev.call ((hg.at _).glob rfl) ((hg.at _).callee rfl) (Evs.cons (Ev.name rfl) (Evs.cons (Ev.name rfl) Evs.nil)) ((xor_ok (hg.at _) _ _).le (by decide))) (Evs.cons (Ev.name rfl) Evs.nil)) ((lt_ok (hg.at _) _ _).le (by decide))) rfl))
        (case a2 => exact StM.of (St.assign (Ev.cast (Ev.call ((hg.at _).glob rfl) ((hg.at _).callee rfl) (Evs.cons (Ev.sub (Ev.name rfl) (Ev.name rfl) (GetOk.list (by lia) (by lia) hwat)) (Evs.cons (Ev.name rfl) Evs.nil)) ((xor_ok (hg.at _) _ _).le (by decide))) (congrArg D.int hgoal))))
        (case a3 => exact StM.of (St.assign (Ev.call ((hg.at _).glob rfl) ((hg.at _).callee rfl) (Evs.cons (Ev.name rfl) (Evs.cons (Ev.sub Ev.str (Ev.name rfl) (GetOk.str (by lia) (by lia) (abc_at hp))) Evs.nil)) (hp1.le (by decide)))))
        (case a4 => exact StM.assign (EvM.callM ((hg.at _).glob rfl) ((hg.at _).callee rfl) (EvsM.cons (EvM.of (Ev.name rfl)) (EvsM.cons (EvM.of (Ev.name rfl)) (EvsM.cons (EvM.of (Ev.name rfl)) (EvsM.cons (EvM.call ((hg.at _).glob rfl) ((hg.at _).callee rfl) (Evs.cons (Ev.name rfl) (Evs.cons (Ev.name rfl) Evs.nil)) (hansw'.le (by decide))) (EvsM.of (Evs.cons (Ev.cast (Ev.cmp (Ev.bin (Ev.name rfl) Ev.int (BinOk.mod (by decide))) Ev.int CmpOk.eq) (congrArg D.bool (even_bool i 1))) Evs.nil)))))) (hlay.le (by decide))))
        (case a5 => exact StM.of (St.assign (Ev.call ((hg.at _).glob rfl) ((hg.at _).callee rfl) (Evs.cons (Ev.name rfl) (Evs.cons (Ev.name rfl) (Evs.cons (Ev.name rfl) Evs.nil))) (hret.le (by decide)))))
        (case a6 => exact StM.of (St.ifF (Tst.orF (Tst.cast (Tst.not (Tst.plain (Ev.call ((hg.at _).glob rfl) ((hg.at _).callee rfl) (Evs.cons (Ev.name rfl) (Evs.cons (Ev.call ((hg.at _).glob rfl) ((hg.at _).callee rfl) (Evs.cons (Ev.name rfl) (Evs.cons (Ev.sub Ev.str (Ev.name rfl) (GetOk.str (by lia) (by lia) (ABC_at hp))) Evs.nil)) (hp2.le (by decide))) Evs.nil)) (hfair.le (by decide))) TruthOk.bool)) rfl) (Tst.orF (Tst.cast (Tst.cmp (Ev.sub (Ev.name rfl) (Ev.name rfl) (GetOk.list (by lia) (by lia) hwat2)) (Ev.name rfl) CmpOk.ne) (by simp)) Tst.or0)) Sts.nil))
        (case as => exact Sub.cons rfl (Sub.cons rfl (Sub.cons rfl (Sub.cons rfl (Sub.cons rfl (Sub.cons rfl Sub.nil))))))))
  have e8 : (intsD (turnsOf l)).length = (turnsOf l).length := by unfold intsD; rw [List.length_map]
  rw [e8, ok.done]
  have hG := hg.at (rowsOf [])
  have hast := astold_ok (g := g) hG good_nil.ok (wT []) (plain_eq good_nil.nodup)
  have hhint := hint_ok hG (rows := rowsOf []) (Nat.zero_le _)
  exact RetM.of (Ret.ret (ev_andT (Ev.call (hG.glob rfl) (hG.callee rfl) (Evs.cons (Ev.name rfl) (Evs.cons (Ev.name rfl) (Evs.cons (Ev.name rfl) Evs.nil))) (hast.le (by decide))) TruthOk.bool (Ev.cmp (Ev.call (hG.glob rfl) (hG.callee rfl) (Evs.cons (Ev.name rfl) Evs.nil) (hhint.le (by decide))) Ev.int CmpOk.eq)))
end Mine
end

section
open PySem PySem.W PyProof.Rows
set_option Elab.async false
set_option linter.unusedVariables false
namespace Mine
set_option maxRecDepth 100000
set_option maxHeartbeats 4000000

theorem args_of {args : List WData} (h : PySem.Challenge.rw_ty0052_01.row.claim.pre args = true) : ∃ zs : List Int, args = [.list (zs.map .int)] ∧ zs.length ≤ 63 := by
  obtain ⟨h1, h2⟩ := pre_splitW (r := PySem.Challenge.rw_ty0052_01.row.toRowW) h
  obtain ⟨d, r, rfl, hd, hr⟩ := hasAllW_cons (R := []) (e := .list .int) (es := []) h1
  obtain rfl := hasAllW_nil hr
  obtain ⟨ds, rfl, hi⟩ := hasW_list hd
  obtain ⟨zs, rfl⟩ := items_int hi
  refine ⟨zs, rfl, ?_⟩
  have h3 : WTm.holds [] (.and (.not (.lt (.lit (.int 63)) (.len (.arg 0)))) (.lit (.bool true))) { args := [.list (zs.map .int)] } = true := h2
  simp [WTm.holds, WTm.value] at h3
  rw [show less? (WData.int 63) (WData.int (zs.length : Int)) = some (decide ((63 : Int) < zs.length)) from rfl] at h3
  by_cases hz : zs.length ≤ 63
  · exact hz
  · rw [decide_eq_true (by lia)] at h3
    simp at h3
theorem reads_ints {R : WRecords} {cl : Str → Option Addr} {h : Heap} : ∀ {zs : List Int} {vs : List Value} {as : List Addr}, ReadsAllW R cl h vs (zs.map .int) as → Reps [] h (ints3 zs) vs
  | [], vs, as, r => by
    cases r
    show Reps [] h [] []
    unfold Reps; rfl
  | z :: zs, vs, as, r => by
    cases r with
    | cons r1 r2 =>
      cases r1
      exact reps_cons rep_int (reads_ints r2)
noncomputable abbrev tabsL : List (Addr × Addr) := [(308, 306)]
theorem joined (fl : FlAll) (lk : ∀ l : List Int, l.length ≤ 63 → LawOk l) : PySem.Challenge.rw_ty0052_01.Holds := by
  refine hd fun w s₀ s₁ mg mb G Y a o pm cd doc dV kV ho hdata hcd hdf hmg hgens args vals as hpre hlay hreads hwell hsys => ?_
  obtain ⟨X, hP⟩ := Y
  have X : (KK w).In s₁.heap := X
  obtain ⟨zs, rfl, hz⟩ := args_of hpre
  have T := G.T
  have hT : TabsAt tabsL s₁.heap := fun q hq => by
    have hq := List.mem_singleton.mp hq
    subst hq
    exact ⟨codeHd_of_K X (by rfl), hP 306 (by simp)⟩
  have hmg' : mg (Str.ofString "law") = some (.ref a) := hmg
  have e314 := mg_of (n := Str.ofString "law") (v := .ref 314) X T.g (by rfl)
  rw [e314] at hmg'
  cases hmg'
  have Xg : (KK w).In (ghostOf s₁.heap tabsL) := ghost_K hT X (by rfl)
  have Tg := ghost_top hT T
  have hg0 : Gnd (G0 PySem.Challenge.rw_ty0052_01.row.prog w (ghostOf s₁.heap tabsL)) := ⟨Xg, _, _, _, _, topRead_of Tg⟩
  obtain ⟨v, rfl, hr⟩ : ∃ v, vals = [.ref v] ∧ ∃ vs, s₁.heap.IsList v (List.toArray vs) ∧ Reps [] s₁.heap (ints3 zs) vs := by
    cases hreads with
    | cons r1 r2 =>
      cases r2
      cases r1 with
      | list e1 e2 e3 e4 => exact ⟨_, rfl, _, ⟨_, e1, e2, _, e3⟩, reads_ints (by simpa using e4)⟩
  obtain ⟨vs, hli, rs⟩ := hr
  have gk : ∀ b o, (ghostOf s₁.heap tabsL).get? b = some o → s₁.heap.get? b = some o := fun b o e => of_hideAll _ e
  have ha : At (G0 PySem.Challenge.rw_ty0052_01.row.prog w (ghostOf s₁.heap tabsL)) s₁ := ⟨gk, (by intro b hb; cases hb), (by intro b hb; cases hb), ⟨#[], hP 306 (by simp), trivial, .inl rfl⟩⟩
  have rA : Rep [] s₁.heap (.arg (ints3 zs)) (.ref v) := by
    unfold Rep
    exact ⟨v, vs, rfl, by simp, hli, rs⟩
  have rm : Room callerA 13 := ⟨rfl, by decide, by decide⟩
  refine wpAny_mono (law_rest hg0 ⟨_, _, _, _, _, Tg⟩ (hideAll_none _ (by simp)) fl rm ha hz (lk zs hz) rA) (fun r s' q => ?_) fun _ _ e => e
  obtain ⟨⟨h', tk, rfl⟩, keep, tc, rfl⟩ := q
  obtain ⟨ps, hps, _⟩ := tc.ex
  refine ⟨.inl ⟨.bool true, .bool true, [], rfl, fun _ => rfl, ReadsW.bool true, ?post, fun _ => ⟨List.nodup_nil, fun _ hm => (nomatch hm)⟩⟩, ⟨fun b o e => ?_, fun b o e => ?_⟩, rfl, .of_eq hgens⟩
  case post => wrow_post
  · by_cases hb : b = 306
    · subst hb
      have e2 := hP 306 (by simp)
      rw [e2] at e; cases e
      exact .inr (.inl ⟨((hT (308, 306) (by simp)).1.tab (hT (308, 306) (by simp)).2).isCodeTable, rfl, #[], ps, rfl, by rw [Array.empty_append]; exact hps⟩)
    · exact .inl (keep b o (ghost_ne e (by simp [hb])))
  · by_cases hb : b = 306
    · subst hb
      exact ⟨_, hps⟩
    · exact ⟨o, keep b o (ghost_ne e (by simp [hb]))⟩
end Mine
end

section
open PySem PySem.W PyProof.Rows
set_option Elab.async false
set_option linter.unusedVariables false
namespace Mine

/-! ## worths -/
noncomputable def tri (y : Int) : Int := (y * (y + 1)).fdiv 2
theorem tri_succ {y : Int} (h : 0 ≤ y) : tri (y + 1) = tri y + (y + 1) := by
  unfold tri
  have e : (y + 1) * (y + 1 + 1) = y * (y + 1) + (y + 1) * 2 := by grind
  rw [e, Int.fdiv_eq_ediv_of_nonneg _ (by decide), Int.fdiv_eq_ediv_of_nonneg _ (by decide), Int.add_mul_ediv_right _ _ (by decide)]
theorem tri_zero : tri 0 = 0 := by decide
theorem tri_nonneg {y : Int} (h : 0 ≤ y) : 0 ≤ tri y := by
  unfold tri
  rw [Int.fdiv_eq_ediv_of_nonneg _ (by decide)]
  have : 0 ≤ y * (y + 1) := Int.mul_nonneg h (by lia)
  lia
theorem tri_lt : ∀ (n : Nat) {y z : Int}, 0 ≤ y → z = y + 1 + n → tri y + y < tri z
  | 0, y, z, h, e => by
    have : z = y + 1 := by lia
    rw [this, tri_succ h]; lia
  | n + 1, y, z, h, e => by
    have := tri_lt n (y := y) (z := y + 1 + n) h rfl
    have e2 : z = (y + 1 + n) + 1 := by lia
    rw [e2, tri_succ (by lia)]; lia
theorem tri_lt' {y z : Int} (h : 0 ≤ y) (hz : y < z) : tri y + y < tri z := tri_lt (z - y - 1).toNat h (by lia)
theorem tri_mono {y z : Int} (h : 0 ≤ y) (hz : y ≤ z) : tri y ≤ tri z := by
  by_cases e : y = z
  · rw [e]; exact Int.le_refl _
  · have := tri_lt' h (show y < z by lia); lia
theorem worth_low {m y : Int} (h : m ≤ tri y) : worth m y = 3 * m + y := by
  unfold worth; exact if_pos h
theorem worth_high {m y : Int} (hy : 0 ≤ y) (h : tri y < m) : ∃ r, worth m y = tri y + r ∧ 0 ≤ r ∧ r ≤ y ∧ r ≤ m - tri y - 1 ∧ ∃ k : Int, m - tri y - 1 = (y + 1) * k + r := by
  have e : worth m y = tri y + (m - tri y - 1).fmod (y + 1) := by
    unfold worth; exact if_neg (show ¬ m ≤ tri y by lia)
  rw [Int.fmod_eq_emod_of_nonneg _ (by lia)] at e
  refine ⟨(m - tri y - 1) % (y + 1), e, Int.emod_nonneg _ (by lia), ?_, ?_, (m - tri y - 1) / (y + 1), (Int.mul_ediv_add_emod _ _).symm⟩
  · have := Int.emod_lt_of_pos (m - tri y - 1) (b := y + 1) (by lia); lia
  · have h1 := Int.mul_ediv_add_emod (m - tri y - 1) (y + 1)
    have h2 : 0 ≤ (y + 1) * ((m - tri y - 1) / (y + 1)) := Int.mul_nonneg (by lia) (Int.ediv_nonneg (by lia) (by lia))
    lia
/-- multiples of n below n -/
theorem small_mul {n k d : Int} (hn : 0 < n) (h : d = n * k) (h0 : 0 ≤ d) (h1 : d < n) : d = 0 := by
  by_cases hk : k = 0
  · rw [h, hk, Int.mul_zero]
  · by_cases hp : 0 < k
    · have : n * 1 ≤ n * k := Int.mul_le_mul_of_nonneg_left (by lia) (by lia)
      lia
    · have : n * k ≤ n * (-1) := Int.mul_le_mul_of_nonneg_left (by lia) (by lia)
      lia

/-- d comes from c by making one or two parts less -/
structure Fair (c d : Tri) : Prop where
  nn : 0 ≤ d.1 ∧ 0 ≤ d.2.1 ∧ 0 ≤ d.2.2
  le : d.1 ≤ c.1 ∧ d.2.1 ≤ c.2.1 ∧ d.2.2 ≤ c.2.2
  less : d.1 < c.1 ∨ d.2.1 < c.2.1 ∨ d.2.2 < c.2.2
  same : d.1 = c.1 ∨ d.2.1 = c.2.1 ∨ d.2.2 = c.2.2
theorem Fair.is {c d : Tri} (h : Fair c d) : fairT c d = true := by
  obtain ⟨a, b, e⟩ := c
  obtain ⟨a', b', e'⟩ := d
  obtain ⟨h0, h1, h2, h3⟩ := h
  dsimp only at h0 h1 h2 h3
  show ((List.count true [decide (a' < a), decide (b' < b), decide (e' < e)] == 1 || List.count true [decide (a' < a), decide (b' < b), decide (e' < e)] == 2) && List.count true [decide (a < a'), decide (b < b'), decide (e < e')] == 0) = true
  have n1 : decide (a < a') = false := by simp; lia
  have n2 : decide (b < b') = false := by simp; lia
  have n3 : decide (e < e') = false := by simp; lia
  rw [n1, n2, n3]
  by_cases x1 : a' < a <;> by_cases x2 : b' < b <;> by_cases x3 : e' < e
  all_goals first
    | (exfalso; lia)
    | (simp [x1, x2, x3])
theorem Fair.ne {c d : Tri} (h : Fair c d) : wOf c ≠ wOf d := by
  obtain ⟨a, b, e⟩ := c
  obtain ⟨a', b', e'⟩ := d
  obtain ⟨h0, h1, h2, h3⟩ := h
  dsimp only at h0 h1 h2 h3
  unfold wOf
  dsimp only
  obtain ⟨m, hm⟩ : ∃ m, min3 a b e = m := ⟨_, rfl⟩
  obtain ⟨m', hm'⟩ : ∃ m', min3 a' b' e' = m' := ⟨_, rfl⟩
  rw [hm, hm']
  have f : 0 ≤ m ∧ 0 ≤ m' ∧ m' ≤ m ∧ m ≤ a ∧ m ≤ b ∧ m ≤ e ∧ m' ≤ a' ∧ m' ≤ b' ∧ m' ≤ e' := by
    have l := min3_le a b e; have l' := min3_le a' b' e'
    rw [hm] at l; rw [hm'] at l'
    have p' : 0 ≤ m' := hm' ▸ le_min3 h0.1 h0.2.1 h0.2.2
    have q : m' ≤ m := hm ▸ le_min3 (Int.le_trans l'.1 h1.1) (Int.le_trans l'.2.1 h1.2.1) (Int.le_trans l'.2.2 h1.2.2)
    exact ⟨Int.le_trans p' q, p', q, l.1, l.2.1, l.2.2, l'.1, l'.2.1, l'.2.2⟩
  obtain ⟨y, hy⟩ : ∃ y, a + b + e - 3 * m = y := ⟨_, rfl⟩
  obtain ⟨y', hy'⟩ : ∃ y', a' + b' + e' - 3 * m' = y' := ⟨_, rfl⟩
  rw [hy, hy']
  have hy0 : 0 ≤ y ∧ 0 ≤ y' := by lia
  have hmm : m - m' ≤ y' := by lia
  have hS : m ≤ a' + b' + e' := by lia
  by_cases z1 : m ≤ tri y <;> by_cases z2 : m' ≤ tri y'
  · rw [worth_low z1, worth_low z2]; lia
  · obtain ⟨r', e1, r0, r1, r2, k, hk⟩ := worth_high hy0.2 (show tri y' < m' by lia)
    rw [worth_low z1, e1]; lia
  · obtain ⟨r, e1, r0, r1, r2, k, hk⟩ := worth_high hy0.1 (show tri y < m by lia)
    rw [worth_low z2, e1]; lia
  · obtain ⟨r, e1, r0, r1, r2, k, hk⟩ := worth_high hy0.1 (show tri y < m by lia)
    obtain ⟨r', e1', r0', r1', r2', k', hk'⟩ := worth_high hy0.2 (show tri y' < m' by lia)
    rw [e1, e1']
    intro heq
    have hyy : y = y' := by
      by_cases q : y < y'
      · have := tri_lt' hy0.1 q; lia
      · by_cases q2 : y' < y
        · have := tri_lt' hy0.2 q2; lia
        · lia
    subst hyy
    have hr : r = r' := by lia
    subst hr
    have hd : m - m' = (y + 1) * (k - k') := by rw [Int.mul_sub]; lia
    have := small_mul (by lia) hd (by lia) (by lia)
    lia
end Mine
end

section
open PySem PySem.W PyProof.Rows
set_option Elab.async false
set_option linter.unusedVariables false
namespace Mine

theorem above_tri {g : Int} (hg : 0 ≤ g) : tri (above g) ≤ g ∧ g < tri (above g) + (above g + 1) := by
  refine ⟨?_, ?_⟩
  · by_cases h : above g = 0
    · rw [h]; exact Int.le_trans (Int.le_of_eq tri_zero) hg
    · have := abvN_lt g (g.toNat + 1) 0 (above g - 1) (Nat.zero_le _) (by show above g - 1 < above g; lia)
      have e : (((above g - 1 : Nat) : Int)) = (above g : Int) - 1 := by lia
      rw [e] at this
      have e2 : (above g : Int) - 1 + 1 = above g := by lia
      have e3 : (above g : Int) - 1 + 2 = above g + 1 := by lia
      rw [e2, e3] at this
      exact this
  · have h := abvN_ge g hg (g.toNat + 1) 0 (by lia)
    have e : tri ((above g : Int) + 1) = (((above g : Int) + 1) * ((above g : Int) + 2)).fdiv 2 := by
      unfold tri
      rw [show (above g : Int) + 1 + 1 = above g + 2 by lia]
    rw [← tri_succ (by lia), e]
    exact Int.not_le.mp h
/-- two remainders that differ by a multiple -/
theorem rem_eq {n r q k : Int} (hn : 0 < n) (h : r - q = n * k) (h0 : 0 ≤ r) (h1 : r < n) (h2 : 0 ≤ q) (h3 : q < n) : r = q := by
  by_cases hs : q ≤ r
  · have := small_mul hn h (by lia) (by lia); lia
  · have h' : q - r = n * (-k) := by rw [Int.mul_neg]; lia
    have := small_mul hn h' (by lia) (by lia); lia
theorem low_worth {a g low : Int} (ha : 0 ≤ a) (h1 : tri a ≤ g) (h2 : g < tri a + (a + 1)) (hl : g < low) {k : Int} (hk : low - 1 - g = (a + 1) * k) : worth low a = g := by
  obtain ⟨r, e, r0, r1, _, k', hk'⟩ := worth_high ha (show tri a < low by lia)
  rw [e]
  have : r - (g - tri a) = (a + 1) * (k - k') := by rw [Int.mul_sub]; lia
  have := rem_eq (by lia) this r0 (by lia) (by lia) (by lia)
  lia
theorem new_ok {M b m g : Int} (h1 : b ≤ M) (h2 : m ≤ b) (h3 : 0 ≤ m) (hg : 0 ≤ g) (hW : g < worth m (M + b + m - 3 * m)) :
    ∃ x y z, newOf M b m g = [x, y, z] ∧ (0 ≤ x ∧ x ≤ M) ∧ (0 ≤ y ∧ y ≤ b) ∧ (0 ≤ z ∧ z ≤ m) ∧ (x < M ∨ y < b ∨ z < m) ∧ (x = M ∨ y = b ∨ z = m) ∧ worth (min3 x y z) (x + y + z - 3 * min3 x y z) = g := by
  obtain ⟨Y, hY⟩ : ∃ Y, M + b + m - 3 * m = Y := ⟨_, rfl⟩
  rw [hY] at hW
  have hY0 : 0 ≤ Y := by lia
  have hb0 : 0 ≤ b := Int.le_trans h3 h2
  have hM0 : 0 ≤ M := Int.le_trans hb0 h1
  unfold newOf
  by_cases c1 : M ≤ g
  · rw [if_pos c1]
    have hz : m ≤ tri Y := by
      by_cases z : m ≤ tri Y
      · exact z
      · obtain ⟨r, e, r0, r1, r2, _⟩ := worth_high hY0 (show tri Y < m by lia)
        lia
    rw [worth_low hz] at hW
    by_cases c2 : g - M ≤ b
    · refine ⟨M, g - M, 0, ?_, ⟨hM0, Int.le_refl _⟩, ⟨Int.sub_nonneg_of_le c1, c2⟩, ⟨Int.le_refl _, h3⟩, .inr (by lia), .inl rfl, ?_⟩
      · have e1 : pmin b (g - M) = g - M := by unfold pmin; split <;> lia
        have e2 : pmax 0 (g - M - b) = 0 := by unfold pmax; split <;> lia
        rw [e1, e2]
      · have e : min3 M (g - M) 0 = 0 := min3_eq (by lia) (by lia) (Int.le_refl _) (.inr (.inr rfl))
        rw [e, worth_low (tri_nonneg (by lia))]; lia
    · refine ⟨M, b, g - M - b, ?_, ⟨hM0, Int.le_refl _⟩, ⟨hb0, Int.le_refl _⟩, by lia, .inr (.inr (by lia)), .inl rfl, ?_⟩
      · have e1 : pmin b (g - M) = b := by unfold pmin; split <;> lia
        have e2 : pmax 0 (g - M - b) = g - M - b := by unfold pmax; split <;> lia
        rw [e1, e2]
      · have e : min3 M b (g - M - b) = g - M - b := min3_eq (by lia) (by lia) (Int.le_refl _) (.inr (.inr rfl))
        rw [e, worth_low ?_]
        · lia
        · have := tri_mono (y := Y) (z := M + b + (g - M - b) - 3 * (g - M - b)) hY0 (by lia)
          lia
  · rw [if_neg c1]
    by_cases c2 : m ≤ g
    · rw [if_pos c2]
      refine ⟨g - m, 0, m, rfl, ⟨Int.sub_nonneg_of_le c2, Int.le_trans (Int.sub_le_self _ h3) (Int.le_of_lt (Int.not_le.mp c1))⟩, ⟨Int.le_refl _, hb0⟩, ⟨h3, Int.le_refl _⟩, .inl (Int.lt_of_le_of_lt (Int.sub_le_self _ h3) (Int.not_le.mp c1)), .inr (.inr rfl), ?_⟩
      have e : min3 (g - m) 0 m = 0 := min3_eq (by lia) (Int.le_refl _) h3 (.inr (.inl rfl))
      rw [e, worth_low (tri_nonneg (by lia))]; lia
    · rw [if_neg c2]
      obtain ⟨t1, t2⟩ := above_tri hg
      have ha0 : (0 : Int) ≤ above g := by lia
      generalize (above g : Int) = a at t1 t2 ha0
      have haY : a ≤ Y := by
        by_cases z : a ≤ Y
        · exact z
        · have q := tri_lt' hY0 (show Y < a by lia)
          by_cases z2 : m ≤ tri Y
          · lia
          · obtain ⟨r, e, r0, r1, r2, _⟩ := worth_high hY0 (show tri Y < m by lia)
            lia
      obtain ⟨l, hl⟩ : ∃ l, (m - 1 - g).fmod (a + 1) = l := ⟨_, rfl⟩
      rw [hl]
      have hl' := hl
      rw [Int.fmod_eq_emod_of_nonneg _ (by lia)] at hl
      have l0 : 0 ≤ l := by rw [← hl]; exact Int.emod_nonneg _ (by lia)
      have l1 : l ≤ a := by have := Int.emod_lt_of_pos (m - 1 - g) (b := a + 1) (by lia); lia
      obtain ⟨k, hk⟩ : ∃ k, m - 1 - g = (a + 1) * k + l := ⟨(m - 1 - g) / (a + 1), by rw [← hl]; exact (Int.mul_ediv_add_emod _ _).symm⟩
      have l2 : l ≤ m - 1 - g := by
        have q := Int.mul_ediv_add_emod (m - 1 - g) (a + 1)
        have q2 : 0 ≤ (a + 1) * ((m - 1 - g) / (a + 1)) := Int.mul_nonneg (by lia) (Int.ediv_nonneg (by lia) (by lia))
        lia
      have wl : worth (m - l) a = g := low_worth ha0 t1 t2 (by lia) (k := k) (by lia)
      by_cases c3 : l = 0
      · rw [if_pos c3]
        obtain ⟨f, hf⟩ : ∃ f, pmin (M - m) a = f := ⟨_, rfl⟩
        rw [hf]
        have f0 : 0 ≤ f ∧ f ≤ a ∧ f ≤ M - m ∧ (f = a ∨ f = M - m) := by unfold pmin at hf; split at hf <;> lia
        have hlt : a < Y := by
          by_cases q : a = Y
          · exfalso
            subst q
            by_cases z2 : m ≤ tri a
            · lia
            · rw [c3] at wl
              have : worth m a = g := by simpa using wl
              lia
          · lia
        refine ⟨m + f, m + a - f, m, rfl, by lia, by lia, ⟨h3, Int.le_refl _⟩, by lia, .inr (.inr rfl), ?_⟩
        have e : min3 (m + f) (m + a - f) m = m := min3_eq (by lia) (by lia) (Int.le_refl _) (.inr (.inr rfl))
        rw [e, show m + f + (m + a - f) + m - 3 * m = a by lia]
        rw [c3] at wl
        simpa using wl
      · rw [if_neg c3]
        by_cases c4 : a ≤ M - m + 2 * l
        · rw [if_pos c4]
          refine ⟨m - l + a - l, m - l, m, rfl, by lia, by lia, ⟨h3, Int.le_refl _⟩, by lia, .inr (.inr rfl), ?_⟩
          have e : min3 (m - l + a - l) (m - l) m = m - l := min3_eq (by lia) (Int.le_refl _) (by lia) (.inr (.inl rfl))
          rw [e, show m - l + a - l + (m - l) + m - 3 * (m - l) = a by lia]
          exact wl
        · rw [if_neg c4]
          refine ⟨m - l + a - (b - (m - l)), b, m - l, rfl, by lia, ⟨hb0, Int.le_refl _⟩, by lia, by lia, .inr (.inl rfl), ?_⟩
          have e : min3 (m - l + a - (b - (m - l))) b (m - l) = m - l := min3_eq (by lia) (by lia) (Int.le_refl _) (.inr (.inr rfl))
          rw [e, show m - l + a - (b - (m - l)) + b + (m - l) - 3 * (m - l) = a by lia]
          exact wl
end Mine
end

section
open PySem PySem.W PyProof.Rows
set_option Elab.async false
set_option linter.unusedVariables false
namespace Mine

theorem wOf_perm {a b c a' b' c' : Int} (h1 : min3 a b c = min3 a' b' c') (h2 : a + b + c = a' + b' + c') : wOf (a, b, c) = wOf (a', b', c') := by
  unfold wOf
  dsimp only
  rw [h1, h2]
theorem w213 (a b c : Int) : wOf (a, b, c) = wOf (b, a, c) := wOf_perm ((Int.min_assoc a b c).symm.trans ((congrArg (min · c) (Int.min_comm a b)).trans (Int.min_assoc b a c))) (by rw [Int.add_comm a b])
theorem w132 (a b c : Int) : wOf (a, b, c) = wOf (a, c, b) := wOf_perm (congrArg (min a) (Int.min_comm b c)) (Int.add_right_comm a b c)
theorem w231 (a b c : Int) : wOf (a, b, c) = wOf (b, c, a) := (w213 a b c).trans (w132 b a c)
theorem w312 (a b c : Int) : wOf (a, b, c) = wOf (c, a, b) := (w231 c a b).symm
theorem w321 (a b c : Int) : wOf (a, b, c) = wOf (c, b, a) := (w231 a b c).trans (w213 b c a)
theorem o213 {A B C : Prop} (h : A ∨ B ∨ C) : B ∨ A ∨ C := h.elim (fun x => .inr (.inl x)) fun h => h.elim .inl fun x => .inr (.inr x)
theorem o132 {A B C : Prop} (h : A ∨ B ∨ C) : A ∨ C ∨ B := h.imp id Or.symm
theorem o231 {A B C : Prop} (h : A ∨ B ∨ C) : B ∨ C ∨ A := o132 (o213 h)
theorem o312 {A B C : Prop} (h : A ∨ B ∨ C) : C ∨ A ∨ B := o213 (o132 h)
theorem o321 {A B C : Prop} (h : A ∨ B ∨ C) : C ∨ B ∨ A := o213 (o231 h)
theorem ans_ok {c : Tri} {g : Int} (h0 : 0 ≤ c.1 ∧ 0 ≤ c.2.1 ∧ 0 ≤ c.2.2) (hg : 0 ≤ g) (hW : g < wOf c) : Fair c (ansT c g) ∧ wOf (ansT c g) = g := by
  obtain ⟨a, b, e⟩ := c
  obtain ⟨ha, hb, he⟩ : 0 ≤ a ∧ 0 ≤ b ∧ 0 ≤ e := h0
  have key : ∀ (o0 o1 o2 : Int) (M B m : Int), ordL a b e = [o0, o1, o2] → prt a b e o0 = M → prt a b e o1 = B → prt a b e o2 = m → B ≤ M → m ≤ B → 0 ≤ m → wOf (a, b, e) = wOf (M, B, m) →
      ∃ x y z, ansL a b e g = [0, 1, 2].map (fun k : Int => at3 [x, y, z] ([o0, o1, o2].idxOf k)) ∧ (0 ≤ x ∧ x ≤ M) ∧ (0 ≤ y ∧ y ≤ B) ∧ (0 ≤ z ∧ z ≤ m) ∧ (x < M ∨ y < B ∨ z < m) ∧ (x = M ∨ y = B ∨ z = m) ∧ wOf (x, y, z) = g := by
    intro o0 o1 o2 M B m ho p0 p1 p2 l1 l2 l3 e1
    have hw : g < worth m (M + B + m - 3 * m) := by
      rw [e1] at hW
      unfold wOf at hW
      dsimp only at hW
      rw [show min3 M B m = m from min3_eq (Int.le_trans l2 l1) l2 (Int.le_refl _) (.inr (.inr rfl))] at hW
      exact hW
    obtain ⟨x, y, z, hn, r⟩ := new_ok l1 l2 l3 hg hw
    refine ⟨x, y, z, ?_, r⟩
    unfold ansL newL sorted3L
    rw [ho]
    show [0, 1, 2].map (fun k : Int => at3 (newOf (prt a b e o0) (prt a b e o1) (prt a b e o2) g) ([o0, o1, o2].idxOf k)) = _
    rw [p0, p1, p2, hn]
  by_cases x1 : a < b <;> by_cases x2 : b < e <;> by_cases x3 : a < e
  · have ho : ordL a b e = [2, 1, 0] := by simp [ordL, res3, x1, x2]
    obtain ⟨x, y, z, hA, r1, r2, r3, r4, r5, r6⟩ := key 2 1 0 e b a ho rfl rfl rfl (Int.le_of_lt x2) (Int.le_of_lt x1) ha (w321 a b e)
    have hT : ansT (a, b, e) g = (z, y, x) := by unfold ansT; rw [hA]; rfl
    rw [hT]
    exact ⟨⟨⟨r3.1, r2.1, r1.1⟩, ⟨r3.2, r2.2, r1.2⟩, o321 r4, o321 r5⟩, (w321 z y x).trans r6⟩
  · exact absurd (Int.lt_trans x1 x2) x3
  · have ho : ordL a b e = [1, 2, 0] := by simp [ordL, res3, x1, x2, x3]
    obtain ⟨x, y, z, hA, r1, r2, r3, r4, r5, r6⟩ := key 1 2 0 b e a ho rfl rfl rfl (Int.not_lt.mp x2) (Int.le_of_lt x3) ha (w231 a b e)
    have hT : ansT (a, b, e) g = (z, x, y) := by unfold ansT; rw [hA]; rfl
    rw [hT]
    exact ⟨⟨⟨r3.1, r1.1, r2.1⟩, ⟨r3.2, r1.2, r2.2⟩, o312 r4, o312 r5⟩, (w231 z x y).trans r6⟩
  · have ho : ordL a b e = [1, 0, 2] := by simp [ordL, res3, x1, x2, x3]
    obtain ⟨x, y, z, hA, r1, r2, r3, r4, r5, r6⟩ := key 1 0 2 b a e ho rfl rfl rfl (Int.le_of_lt x1) (Int.not_lt.mp x3) he (w213 a b e)
    have hT : ansT (a, b, e) g = (y, x, z) := by unfold ansT; rw [hA]; rfl
    rw [hT]
    exact ⟨⟨⟨r2.1, r1.1, r3.1⟩, ⟨r2.2, r1.2, r3.2⟩, o213 r4, o213 r5⟩, (w213 y x z).trans r6⟩
  · have ho : ordL a b e = [2, 0, 1] := by simp [ordL, res3, x1, x2, x3]
    obtain ⟨x, y, z, hA, r1, r2, r3, r4, r5, r6⟩ := key 2 0 1 e a b ho rfl rfl rfl (Int.le_of_lt x3) (Int.not_lt.mp x1) hb (w312 a b e)
    have hT : ansT (a, b, e) g = (y, z, x) := by unfold ansT; rw [hA]; rfl
    rw [hT]
    exact ⟨⟨⟨r2.1, r3.1, r1.1⟩, ⟨r2.2, r3.2, r1.2⟩, o231 r4, o231 r5⟩, (w312 y z x).trans r6⟩
  · have ho : ordL a b e = [0, 2, 1] := by simp [ordL, res3, x1, x2, x3]
    obtain ⟨x, y, z, hA, r1, r2, r3, r4, r5, r6⟩ := key 0 2 1 a e b ho rfl rfl rfl (Int.not_lt.mp x3) (Int.le_of_lt x2) hb (w132 a b e)
    have hT : ansT (a, b, e) g = (x, z, y) := by unfold ansT; rw [hA]; rfl
    rw [hT]
    exact ⟨⟨⟨r1.1, r3.1, r2.1⟩, ⟨r1.2, r3.2, r2.2⟩, o132 r4, o132 r5⟩, (w132 x z y).trans r6⟩
  · exact absurd x3 (Int.not_lt.mpr (Int.le_trans (Int.not_lt.mp x2) (Int.not_lt.mp x1)))
  · have ho : ordL a b e = [0, 1, 2] := by simp [ordL, res3, x1, x2]
    obtain ⟨x, y, z, hA, r1, r2, r3, r4, r5, r6⟩ := key 0 1 2 a b e ho rfl rfl rfl (Int.not_lt.mp x1) (Int.not_lt.mp x2) he rfl
    have hT : ansT (a, b, e) g = (x, y, z) := by unfold ansT; rw [hA]; rfl
    rw [hT]
    exact ⟨⟨⟨r1.1, r2.1, r3.1⟩, ⟨r1.2, r2.2, r3.2⟩, r4, r5⟩, r6⟩
/-! the other's move -/
theorem pick_cases {x : Int} (hx : 0 ≤ x) : (∃ k, k < 3 ∧ oPick x k = true) ∧ (∃ k, k < 3 ∧ oPick x k = false) := by
  unfold oPick
  obtain ⟨q, hq⟩ : ∃ q, (x.fdiv 3).fmod 6 = q := ⟨_, rfl⟩
  rw [hq]
  have h1 := Int.fmod_nonneg_of_pos (x.fdiv 3) (b := 6) (by decide)
  have h2 := Int.fmod_lt_of_pos (x.fdiv 3) (b := 6) (by decide)
  rw [hq] at h1 h2
  have cs : q = 0 ∨ q = 1 ∨ q = 2 ∨ q = 3 ∨ q = 4 ∨ q = 5 := by lia
  rcases cs with rfl | rfl | rfl | rfl | rfl | rfl
  · exact ⟨⟨0, by decide, by decide⟩, ⟨1, by decide, by decide⟩⟩
  · exact ⟨⟨1, by decide, by decide⟩, ⟨0, by decide, by decide⟩⟩
  · exact ⟨⟨0, by decide, by decide⟩, ⟨2, by decide, by decide⟩⟩
  · exact ⟨⟨2, by decide, by decide⟩, ⟨0, by decide, by decide⟩⟩
  · exact ⟨⟨0, by decide, by decide⟩, ⟨1, by decide, by decide⟩⟩
  · exact ⟨⟨1, by decide, by decide⟩, ⟨0, by decide, by decide⟩⟩
theorem oPart_le {x p : Int} (k : Nat) (hp : 0 ≤ p) : 0 ≤ oPart x p k ∧ oPart x p k ≤ p ∧ (oPick x k = false → oPart x p k = p) := by
  unfold oPart
  by_cases h : oPick x k = true ∧ 0 < p
  · rw [if_pos h]
    have h1 := Int.fmod_nonneg_of_pos (x.fdiv 18) (b := p) h.2
    have h2 := Int.fmod_lt_of_pos (x.fdiv 18) (b := p) h.2
    refine ⟨h1, by omega, fun q => by rw [q] at h; simp at h⟩
  · rw [if_neg h]
    exact ⟨hp, Int.le_refl _, fun _ => rfl⟩
theorem other_fair {x : Int} {c : Tri} (hx : 0 ≤ x) (h0 : 0 ≤ c.1 ∧ 0 ≤ c.2.1 ∧ 0 ≤ c.2.2) (hne : c ≠ (0, 0, 0)) : Fair c (otherT x c) := by
  obtain ⟨a, b, e⟩ := c
  dsimp only at h0
  have o0 := oPart_le (x := x) 0 h0.1
  have o1 := oPart_le (x := x) 1 h0.2.1
  have o2 := oPart_le (x := x) 2 h0.2.2
  have hpos : 0 < a ∨ 0 < b ∨ 0 < e := by
    by_cases q : a = 0 ∧ b = 0 ∧ e = 0
    · exact absurd (by rw [q.1, q.2.1, q.2.2]) hne
    · lia
  unfold otherT other
  dsimp only
  by_cases hc : ([oPart x a 0, oPart x b 1, oPart x e 2] : List Int) = [a, b, e]
  · rw [if_pos hc]
    have ha : 0 < a ∨ a = 0 := by lia
    have hb : 0 < b ∨ b = 0 := by lia
    have he : 0 < e ∨ e = 0 := by lia
    rcases ha with ha | ha <;> rcases hb with hb | hb <;> rcases he with he | he
    all_goals first
      | (exfalso; lia)
      | (refine ⟨?_, ?_, ?_, ?_⟩ <;> simp [tri3, darkAt, litOf, ha, hb, he] <;> lia)
  · rw [if_neg hc]
    show Fair (a, b, e) (oPart x a 0, oPart x b 1, oPart x e 2)
    have hc' : ¬ (oPart x a 0 = a ∧ oPart x b 1 = b ∧ oPart x e 2 = e) := fun q => hc (by rw [q.1, q.2.1, q.2.2])
    obtain ⟨_, k, hk, hf⟩ := pick_cases hx
    have : k = 0 ∨ k = 1 ∨ k = 2 := by lia
    refine ⟨⟨o0.1, o1.1, o2.1⟩, ⟨o0.2.1, o1.2.1, o2.2.1⟩, ?_, ?_⟩
    · dsimp only; lia
    · dsimp only
      rcases this with rfl | rfl | rfl
      · exact .inl (o0.2.2 hf)
      · exact .inr (.inl (o1.2.2 hf))
      · exact .inr (.inr (o2.2.2 hf))
end Mine
end

section
open PySem PySem.W PyProof.Rows
set_option Elab.async false
set_option linter.unusedVariables false
namespace Mine

theorem add_xor (x : Nat) : ∀ y : Nat, x + y = (x ^^^ y) + 2 * (x &&& y) := by
  induction x using Nat.strongRecOn with
  | ind x ih =>
    intro y
    by_cases hx : x = 0
    · subst hx; simp
    · have h1 := ih (x / 2) (by lia) (y / 2)
      have e1 : (x ^^^ y) / 2 = x / 2 ^^^ y / 2 := Nat.xor_div_two
      have e2 : (x &&& y) / 2 = x / 2 &&& y / 2 := Nat.and_div_two
      have e3 : (x ^^^ y) % 2 = 1 ↔ ¬(x % 2 = 1 ↔ y % 2 = 1) := Nat.xor_mod_two_eq_one
      have e4 : (x &&& y) % 2 = 1 ↔ x % 2 = 1 ∧ y % 2 = 1 := Nat.and_mod_two_eq_one
      lia
theorem xor_nn {a b : Int} (ha : 0 ≤ a) (hb : 0 ≤ b) : Builtin.bitXor a b = ((a.toNat ^^^ b.toNat : Nat) : Int) := by
  rw [bitXor_and, bitAnd_pp ha hb]
  have := add_xor a.toNat b.toNat
  lia
theorem bit_lt {x y i : Nat} (hx : x.testBit i = false) (hy : y.testBit i = true) (h : ∀ j, i < j → x.testBit j = y.testBit j) : x < y := by
  have e : x / 2 ^ (i + 1) = y / 2 ^ (i + 1) := by
    apply Nat.eq_of_testBit_eq
    intro j
    rw [Nat.testBit_div_two_pow, Nat.testBit_div_two_pow]
    exact h _ (by lia)
  have hx' : (x / 2 ^ i) % 2 = 0 := by
    have := hx
    rw [Nat.testBit_eq_decide_div_mod_eq] at this
    simp at this; omega
  have hy' : (y / 2 ^ i) % 2 = 1 := by
    have := hy
    rw [Nat.testBit_eq_decide_div_mod_eq] at this
    simpa using this
  have e1 : x / 2 ^ (i + 1) = x / 2 ^ i / 2 := by rw [Nat.pow_succ, Nat.div_div_eq_div_mul]
  have e2 : y / 2 ^ (i + 1) = y / 2 ^ i / 2 := by rw [Nat.pow_succ, Nat.div_div_eq_div_mul]
  have hlt : x / 2 ^ i < y / 2 ^ i := by lia
  exact Nat.lt_of_not_le fun hle => Nat.not_lt.mpr (Nat.div_le_div_right hle) hlt
theorem xor_less {w q : Nat} (hq : q ≠ 0) (h : w.testBit q.log2 = true) : w ^^^ q < w := by
  refine bit_lt (i := q.log2) ?_ h fun j hj => ?_
  · rw [Nat.testBit_xor, h, Nat.testBit_log2 hq]; rfl
  · rw [Nat.testBit_xor]
    have : q.testBit j = false := Nat.testBit_lt_two_pow (Nat.lt_of_lt_of_le Nat.lt_log2_self (Nat.pow_le_pow_right (by decide) hj))
    rw [this]; simp
theorem nim (a b c : Nat) (h : (a ^^^ b) ^^^ c ≠ 0) : a ^^^ ((a ^^^ b) ^^^ c) < a ∨ b ^^^ ((a ^^^ b) ^^^ c) < b ∨ c ^^^ ((a ^^^ b) ^^^ c) < c := by
  have ht := Nat.testBit_log2 h
  rw [Nat.testBit_xor, Nat.testBit_xor] at ht
  by_cases h1 : a.testBit ((a ^^^ b) ^^^ c).log2 = true
  · exact .inl (xor_less h h1)
  · by_cases h2 : b.testBit ((a ^^^ b) ^^^ c).log2 = true
    · exact .inr (.inl (xor_less h h2))
    · refine .inr (.inr (xor_less h ?_))
      simp only [Bool.not_eq_true] at h1 h2
      rw [h1, h2] at ht
      simpa using ht
structure Nn (w : Tri) : Prop where
  a : 0 ≤ w.1
  b : 0 ≤ w.2.1
  c : 0 ≤ w.2.2
noncomputable def nats (w : Tri) : Nat × Nat × Nat := (w.1.toNat, w.2.1.toNat, w.2.2.toNat)
theorem xor3_nn {w : Tri} (h : Nn w) : xor3 w = (((w.1.toNat ^^^ w.2.1.toNat) ^^^ w.2.2.toNat : Nat) : Int) := by
  unfold xor3
  rw [xor_nn h.a h.b, xor_nn (by lia) h.c, Int.toNat_natCast]
theorem xor_eq_zero {a b : Nat} (h : a ^^^ b = 0) : a = b := by
  have : a ^^^ b ^^^ b = b := by rw [h]; simp
  rw [Nat.xor_assoc, Nat.xor_self, Nat.xor_zero] at this
  exact this
theorem xlc (a b c : Nat) : a ^^^ (b ^^^ c) = b ^^^ (a ^^^ c) := by rw [← Nat.xor_assoc, Nat.xor_comm a b, Nat.xor_assoc]
/-- with the sum at 0, one worth changed: it is 0 no more -/
theorem xor_change {w : Tri} (h : Nn w) (h0 : xor3 w = 0) {p : Nat} (hp : p < 3) {v : Int} (hv : 0 ≤ v) (hne : v ≠ wAt w p) : xor3 (setW w p v) ≠ 0 := by
  obtain ⟨a, b, c⟩ := w
  have hw : Nn (setW (a, b, c) p v) := by
    have := h.a; have := h.b; have := h.c
    unfold setW
    constructor <;> dsimp only <;> split <;> assumption
  rw [xor3_nn hw]
  rw [xor3_nn h] at h0
  have h0' : (a.toNat ^^^ b.toNat) ^^^ c.toNat = 0 := by exact_mod_cast h0
  intro q
  have q' : ((setW (a, b, c) p v).1.toNat ^^^ (setW (a, b, c) p v).2.1.toNat) ^^^ (setW (a, b, c) p v).2.2.toNat = 0 := by exact_mod_cast q
  have h1 := h.a; have h2 := h.b; have h3 := h.c
  dsimp only at h1 h2 h3
  have : p = 0 ∨ p = 1 ∨ p = 2 := by lia
  rcases this with rfl | rfl | rfl
  · have q2 : (v.toNat ^^^ b.toNat) ^^^ c.toNat = 0 := q'
    have e1 := xor_eq_zero h0'
    have e2 := xor_eq_zero q2
    have e3 : a.toNat = v.toNat := by
      have : (a.toNat ^^^ b.toNat) ^^^ b.toNat = (v.toNat ^^^ b.toNat) ^^^ b.toNat := by rw [e1, e2]
      rw [Nat.xor_assoc, Nat.xor_assoc, Nat.xor_self, Nat.xor_zero, Nat.xor_zero] at this
      exact this
    exact hne (show v = a by lia)
  · have q2 : (a.toNat ^^^ v.toNat) ^^^ c.toNat = 0 := q'
    have e1 := xor_eq_zero h0'
    have e2 := xor_eq_zero q2
    have e3 : b.toNat = v.toNat := by
      have : a.toNat ^^^ (a.toNat ^^^ b.toNat) = a.toNat ^^^ (a.toNat ^^^ v.toNat) := by rw [e1, e2]
      rw [← Nat.xor_assoc, ← Nat.xor_assoc, Nat.xor_self, Nat.zero_xor, Nat.zero_xor] at this
      exact this
    exact hne (show v = b by lia)
  · have q2 : (a.toNat ^^^ b.toNat) ^^^ v.toNat = 0 := q'
    have e1 := xor_eq_zero h0'
    have e2 := xor_eq_zero q2
    exact hne (show v = c by lia)
/-- the place with a lesser worth -/
theorem place_ok {w : Tri} (h : Nn w) (h0 : xor3 w ≠ 0) : placeOf w < 3 ∧ ((downs w (xor3 w))[placeOf w]? = some true ∧ ∀ j, j < placeOf w → (downs w (xor3 w))[j]? = some false) ∧ 0 ≤ goalOf w ∧ goalOf w < wAt w (placeOf w) ∧ xor3 (setW w (placeOf w) (goalOf w)) = 0 := by
  obtain ⟨a, b, c⟩ := w
  have h1 := h.a; have h2 := h.b; have h3 := h.c
  dsimp only at h1 h2 h3
  obtain ⟨q, hq⟩ : ∃ q : Nat, (a.toNat ^^^ b.toNat) ^^^ c.toNat = q := ⟨_, rfl⟩
  have hx : xor3 (a, b, c) = (q : Int) := by rw [xor3_nn h]; exact congrArg _ hq
  have hq0 : q ≠ 0 := by
    intro e
    exact h0 (by rw [hx, e]; rfl)
  have hn := nim a.toNat b.toNat c.toNat (by rw [hq]; exact hq0)
  rw [hq] at hn
  have ea : Builtin.bitXor a q = ((a.toNat ^^^ q : Nat) : Int) := by rw [xor_nn h1 (by lia), Int.toNat_natCast]
  have eb : Builtin.bitXor b q = ((b.toNat ^^^ q : Nat) : Int) := by rw [xor_nn h2 (by lia), Int.toNat_natCast]
  have ec : Builtin.bitXor c q = ((c.toNat ^^^ q : Nat) : Int) := by rw [xor_nn h3 (by lia), Int.toNat_natCast]
  have hd : downs (a, b, c) (q : Int) = [decide (Builtin.bitXor a q < a), decide (Builtin.bitXor b q < b), decide (Builtin.bitXor c q < c)] := rfl
  unfold placeOf goalOf
  unfold placeOf
  rw [hx, hd]
  by_cases x1 : Builtin.bitXor a q < a
  · rw [decide_eq_true x1]
    refine ⟨(show (0 : Nat) < 3 by decide), ⟨rfl, fun j hj => absurd hj (by simp)⟩, ?_, x1, ?_⟩
    · show 0 ≤ Builtin.bitXor a q
      rw [ea]; lia
    · show xor3 (Builtin.bitXor a q, b, c) = 0
      rw [xor3_nn ⟨by dsimp only; rw [ea]; lia, h2, h3⟩]
      dsimp only
      rw [ea, Int.toNat_natCast]
      have : ((a.toNat ^^^ q) ^^^ b.toNat) ^^^ c.toNat = ((a.toNat ^^^ b.toNat) ^^^ c.toNat) ^^^ q := by
        simp only [Nat.xor_assoc, Nat.xor_comm, xlc]
      rw [this, hq, Nat.xor_self]; rfl
  · rw [decide_eq_false x1]
    by_cases x2 : Builtin.bitXor b q < b
    · rw [decide_eq_true x2]
      refine ⟨(show (1 : Nat) < 3 by decide), ⟨rfl, fun j hj => ?_⟩, ?_, x2, ?_⟩
      · have : j = 0 := by
          have hj' : j < 1 := hj
          lia
        subst this; rfl
      · show 0 ≤ Builtin.bitXor b q
        rw [eb]; lia
      · show xor3 (a, Builtin.bitXor b q, c) = 0
        rw [xor3_nn ⟨h1, by dsimp only; rw [eb]; lia, h3⟩]
        dsimp only
        rw [eb, Int.toNat_natCast]
        have : (a.toNat ^^^ (b.toNat ^^^ q)) ^^^ c.toNat = ((a.toNat ^^^ b.toNat) ^^^ c.toNat) ^^^ q := by
          simp only [Nat.xor_assoc, Nat.xor_comm, xlc]
        rw [this, hq, Nat.xor_self]; rfl
    · rw [decide_eq_false x2]
      have x3 : Builtin.bitXor c q < c := by
        rw [ea] at x1; rw [eb] at x2; rw [ec]
        lia
      rw [decide_eq_true x3]
      refine ⟨by decide, ⟨rfl, fun j hj => ?_⟩, ?_, x3, ?_⟩
      · have hj' : j < 2 := hj
        have : j = 0 ∨ j = 1 := by lia
        rcases this with rfl | rfl <;> rfl
      · show 0 ≤ Builtin.bitXor c q
        rw [ec]; lia
      · show xor3 (a, b, Builtin.bitXor c q) = 0
        rw [xor3_nn ⟨h1, h2, by dsimp only; rw [ec]; lia⟩]
        dsimp only
        rw [ec, Int.toNat_natCast]
        have : (a.toNat ^^^ b.toNat) ^^^ (c.toNat ^^^ q) = ((a.toNat ^^^ b.toNat) ^^^ c.toNat) ^^^ q := by
          simp only [Nat.xor_assoc]
        rw [this, hq, Nat.xor_self]; rfl
end Mine
end

section
open PySem PySem.W PyProof.Rows
set_option Elab.async false
set_option linter.unusedVariables false
namespace Mine

theorem wOf_bounds {c : Tri} (h : inb3 c) : 0 ≤ wOf c ∧ wOf c < 10000 := by
  obtain ⟨a, b, e⟩ := c
  obtain ⟨ha, hb, he⟩ := h
  have h1 := ha.1; have h2 := ha.2; have h3 := hb.1; have h4 := hb.2; have h5 := he.1; have h6 := he.2
  dsimp only at h1 h2 h3 h4 h5 h6
  unfold wOf
  dsimp only
  obtain ⟨m, hm⟩ : ∃ m, min3 a b e = m := ⟨_, rfl⟩
  rw [hm]
  have f : 0 ≤ m ∧ m ≤ a ∧ m ≤ b ∧ m ≤ e := by
    have l := min3_le a b e; rw [hm] at l
    exact ⟨hm ▸ le_min3 h1 h3 h5, l⟩
  by_cases z : m ≤ tri (a + b + e - 3 * m)
  · rw [worth_low z]; lia
  · obtain ⟨r, e1, r0, r1, r2, _⟩ := worth_high (m := m) (y := a + b + e - 3 * m) (by lia) (by lia)
    have := tri_nonneg (y := a + b + e - 3 * m) (by lia)
    rw [e1]; lia
theorem inb_zero : inb3 (0, 0, 0) := ⟨⟨by decide, by decide⟩, ⟨by decide, by decide⟩, ⟨by decide, by decide⟩⟩
theorem Good.parts {t : List Cell} (h : Good t) (p : Nat) : inb3 (partsT t p) := by
  unfold partsT getT
  cases q : t.find? (fun e => e.1 == p) with
  | none => exact inb_zero
  | some e =>
    have he := List.mem_of_find?_eq_some q
    have := h.ok.2 e he
    exact ⟨this.a, this.b, this.c⟩
theorem Good.nn {t : List Cell} (h : Good t) : Nn (wT t) := ⟨(wOf_bounds (h.parts 0)).1, (wOf_bounds (h.parts 1)).1, (wOf_bounds (h.parts 2)).1⟩
theorem wAt_wT (t : List Cell) {p : Nat} (hp : p < 3) : wAt (wT t) p = wOf (partsT t p) := by
  have : p = 0 ∨ p = 1 ∨ p = 2 := by lia
  rcases this with rfl | rfl | rfl <;> rfl
theorem inb_of_fair {c d : Tri} (h : inb3 c) (f : Fair c d) : inb3 d := by
  obtain ⟨⟨a1, a2⟩, ⟨b1, b2⟩, ⟨c1, c2⟩⟩ := h
  obtain ⟨⟨n1, n2, n3⟩, ⟨l1, l2, l3⟩, _, _⟩ := f
  exact ⟨⟨n1, by lia⟩, ⟨n2, by lia⟩, ⟨n3, by lia⟩⟩
theorem inb_nn {c : Tri} (h : inb3 c) : 0 ≤ c.1 ∧ 0 ≤ c.2.1 ∧ 0 ≤ c.2.2 := ⟨h.1.1, h.2.1.1, h.2.2.1⟩
theorem other_ok' {i : Nat} {x : Int} {t : List Cell} (h : Good t) (hx : 0 ≤ x) (h0 : xor3 (wT t) = 0) {e : Cell} (he : e ∈ t) : OtherOk i x t e := by
  have hc := h.parts e.1
  have hpt := getT_mem h.nodup he
  rw [hpt] at hc
  have f := other_fair hx (inb_nn hc) (h.lit e he)
  have hi := inb_of_fair hc f
  have hp := (h.ok.2 e he).place
  refine ⟨f.is, hi, ?_⟩
  rw [wT_lay]
  refine xor_change h.nn h0 hp (wOf_bounds hi).1 ?_
  rw [wAt_wT t hp, hpt]
  exact fun q => f.ne q.symm
theorem ansF {t : List Cell} (h : Good t) (h0 : xor3 (wT t) ≠ 0) : AnsOk t ∧ Fair (partsT t (placeOf (wT t))) (ansT (partsT t (placeOf (wT t))) (goalOf (wT t))) ∧ xor3 (setW (wT t) (placeOf (wT t)) (goalOf (wT t))) = 0 := by
  obtain ⟨hp, hd, g0, g1, hx⟩ := place_ok h.nn h0
  rw [wAt_wT t hp] at g1
  have hc := h.parts (placeOf (wT t))
  obtain ⟨f, hw⟩ := ans_ok (inb_nn hc) g0 g1
  exact ⟨⟨hp, hd, ⟨g0, by have := (wOf_bounds hc).2; lia⟩, f.is, hw, inb_of_fair hc f⟩, f, hx⟩
theorem step_ok {i : Nat} {x : Int} {t : List Cell} (h : Good t) (hx : 0 ≤ x) (h0 : 0 < i → xor3 (wT t) = 0) : StepOk i x t := by
  have ho : 0 < i → ∀ e, t[pickI x t.length]? = some e → OtherOk i x t e := fun hi e he => other_ok' h hx (h0 hi) (List.mem_of_getElem? he)
  have st : StepOk i x t → True := fun _ => trivial
  have g1 : Good (afterOther i x t) := by
    unfold afterOther
    split
    · rename_i hi
      split
      · rename_i e he
        exact h.lay (h.ok.2 e (List.mem_of_getElem? he)).place _ (ho hi e he).inb
      · exact h
    · exact h
  exact ⟨h, ho, fun hne => (ansF g1 hne).1⟩
theorem step_good {i : Nat} {x : Int} {t : List Cell} (st : StepOk i x t) : Good (stepT i x t) ∧ xor3 (wT (stepT i x t)) = 0 := by
  have g1 := st.good1
  unfold stepT afterAns
  by_cases h : xor3 (wT (afterOther i x t)) = 0
  · rw [if_pos h]; exact ⟨g1, h⟩
  · rw [if_neg h]
    obtain ⟨ao, f, hx⟩ := ansF g1 h
    refine ⟨g1.lay ao.place _ ao.inb, ?_⟩
    rw [wT_lay, ao.hit]
    exact hx

/-! how long it lasts -/
noncomputable def rank (c : Tri) : Nat := (if 0 < c.1 ∨ 0 < c.2.1 then 1 else 0) + (if 0 < c.2.2 then 1 else 0)
noncomputable def rankT (t : List Cell) : Nat := rank (partsT t 0) + rank (partsT t 1) + rank (partsT t 2)
theorem rank_le (c : Tri) : rank c ≤ 2 := by unfold rank; split <;> split <;> lia
theorem rank_fair {c d : Tri} (f : Fair c d) : rank d ≤ rank c := by
  obtain ⟨_, ⟨l1, l2, l3⟩, _, _⟩ := f
  unfold rank
  split <;> split <;> split <;> split <;> omega
theorem rank_lay (t : List Cell) {p : Nat} (hp : p < 3) (gr : Bool) (c : Tri) : rankT (layT t p gr c) + rank (partsT t p) = rankT t + rank c := by
  unfold rankT
  rw [parts_lay, parts_lay, parts_lay]
  have : p = 0 ∨ p = 1 ∨ p = 2 := by lia
  rcases this with rfl | rfl | rfl <;> simp <;> lia
theorem rank_zero {c : Tri} (h : inb3 c) (h0 : rank c = 0) : c = (0, 0, 0) := by
  obtain ⟨a, b, e⟩ := c
  obtain ⟨ha, hb, he⟩ := h
  have h1 := ha.1; have h3 := hb.1; have h5 := he.1
  dsimp only at h1 h3 h5
  unfold rank at h0
  dsimp only at h0
  have : a = 0 ∧ b = 0 ∧ e = 0 := by split at h0 <;> split at h0 <;> lia
  rw [this.1, this.2.1, this.2.2]
theorem rankT_zero {t : List Cell} (h : Good t) (h0 : rankT t = 0) : t = [] := by
  cases t with
  | nil => rfl
  | cons e r =>
    exfalso
    have hp := (h.ok.2 e (by simp)).place
    have hpt := getT_mem h.nodup (e := e) (by simp)
    have hc := h.parts e.1
    have : rank (partsT (e :: r) e.1) = 0 := by
      unfold rankT at h0
      have : e.1 = 0 ∨ e.1 = 1 ∨ e.1 = 2 := by lia
      rcases this with q | q | q <;> rw [q] <;> lia
    exact h.lit e (by simp) (by rw [← hpt]; exact rank_zero hc this)
theorem other6 {c : Tri} (h : inb3 c) (hne : c ≠ (0, 0, 0)) : rank (otherT 6 c) + 1 ≤ rank c := by
  obtain ⟨a, b, e⟩ := c
  have h1 := h.1.1; have h3 := h.2.1.1; have h5 := h.2.2.1
  dsimp only at h1 h3 h5
  have p0 : oPick 6 0 = true := by decide
  have p1 : oPick 6 1 = true := by decide
  have p2 : oPick 6 2 = false := by decide
  have d0 : Int.fdiv 6 18 = 0 := by decide
  have o0 : oPart 6 a 0 = 0 := by
    unfold oPart
    rw [p0, d0]
    by_cases q : 0 < a
    · rw [if_pos ⟨rfl, q⟩]; simp
    · rw [if_neg (by lia)]; lia
  have o1 : oPart 6 b 1 = 0 := by
    unfold oPart
    rw [p1, d0]
    by_cases q : 0 < b
    · rw [if_pos ⟨rfl, q⟩]; simp
    · rw [if_neg (by lia)]; lia
  have o2 : oPart 6 e 2 = e := by
    unfold oPart
    rw [p2]; simp
  unfold otherT other
  dsimp only
  rw [o0, o1, o2]
  by_cases hc : ([0, 0, e] : List Int) = [a, b, e]
  · rw [if_pos hc]
    simp at hc
    obtain ⟨ha, hb⟩ := hc
    subst ha hb
    have he : 0 < e := by
      by_cases q : e = 0
      · exact absurd (by rw [q]) hne
      · lia
    simp [tri3, darkAt, litOf, rank, he]
  · rw [if_neg hc]
    have hpos : 0 < a ∨ 0 < b := by
      by_cases q : a = 0 ∧ b = 0
      · exact absurd (by rw [q.1, q.2]) hc
      · lia
    show rank (0, 0, e) + 1 ≤ rank (a, b, e)
    unfold rank
    simp only [hpos, if_true]
    simp
    split <;> lia
theorem step_rank {i : Nat} {x : Int} {t : List Cell} (st : StepOk i x t) (hx : 0 ≤ x) (h0 : 0 < i → xor3 (wT t) = 0) : rankT (stepT i x t) ≤ rankT (afterOther i x t) ∧ rankT (afterOther i x t) ≤ rankT t := by
  have g1 := st.good1
  refine ⟨?_, ?_⟩
  · unfold stepT afterAns
    by_cases h : xor3 (wT (afterOther i x t)) = 0
    · rw [if_pos h]; exact Nat.le_refl _
    · rw [if_neg h]
      obtain ⟨ao, f, _⟩ := ansF g1 h
      have e1 := rank_lay (afterOther i x t) ao.place (i % 2 == 1) (ansT (partsT (afterOther i x t) (placeOf (wT (afterOther i x t)))) (goalOf (wT (afterOther i x t))))
      have e2 := rank_fair f
      lia
  · unfold afterOther
    split
    · rename_i hi
      split
      · rename_i e he
        have hm := List.mem_of_getElem? he
        have hp := (st.good.ok.2 e hm).place
        have hpt := getT_mem st.good.nodup hm
        have hc := st.good.parts e.1
        rw [hpt] at hc
        have e1 := rank_lay t hp (i % 2 == 0) (otherT x e.2.2)
        have e2 := rank_fair (other_fair hx (inb_nn hc) (st.good.lit e hm))
        rw [hpt] at e1
        lia
      · exact Nat.le_refl _
    · exact Nat.le_refl _
theorem step_six {i : Nat} {t : List Cell} (st : StepOk i 6 t) (hi : 0 < i) (h0 : 0 < i → xor3 (wT t) = 0) : rankT (stepT i 6 t) ≤ rankT t - 1 := by
  obtain ⟨r1, r2⟩ := step_rank st (by decide) h0
  by_cases ht : t = []
  · have : rankT t = 0 := by rw [ht]; rfl
    lia
  · have hlt := (pickI_lt (x := 6) (List.length_pos_iff.mpr ht)).1
    have he : t[pickI 6 t.length]? = some t[pickI 6 t.length] := List.getElem?_eq_getElem hlt
    generalize t[pickI 6 t.length] = e at he
    have hm := List.mem_of_getElem? he
    have hp := (st.good.ok.2 e hm).place
    have hpt := getT_mem st.good.nodup hm
    have hc := st.good.parts e.1
    rw [hpt] at hc
    have e9 : afterOther i 6 t = layT t e.1 (i % 2 == 0) (otherT 6 e.2.2) := by unfold afterOther; rw [if_pos hi, he]
    have e1 := rank_lay t hp (i % 2 == 0) (otherT 6 e.2.2)
    have e2 := other6 hc (st.good.lit e hm)
    rw [hpt] at e1
    rw [e9] at r1
    lia
theorem turns_nn (l : List Int) : ∀ x ∈ turnsOf l, 0 ≤ x := by
  intro x hx
  unfold turnsOf at hx
  simp only [List.mem_append, List.mem_cons, List.mem_map, List.not_mem_nil, or_false] at hx
  rcases hx with (rfl | ⟨n, _, rfl⟩) | h
  · decide
  · exact Int.fmod_nonneg_of_pos _ (by decide)
  · rcases h with h | h | h | h | h | h <;> rw [h] <;> decide
theorem turns_six (l : List Int) : ∃ n, 0 < n ∧ (turnsOf l).length = n + 6 ∧ ∀ j, j < 6 → (turnsOf l).getD (n + j) 0 = 6 := by
  refine ⟨([0] ++ (midOf l).map (fun n : Int => n.fmod 1000000000)).length, by simp, by unfold turnsOf; simp, fun j hj => ?_⟩
  unfold turnsOf
  rw [List.getD_eq_getElem?_getD, List.getElem?_append_right (by lia), Nat.add_sub_cancel_left]
  have : j = 0 ∨ j = 1 ∨ j = 2 ∨ j = 3 ∨ j = 4 ∨ j = 5 := by lia
  rcases this with rfl | rfl | rfl | rfl | rfl | rfl <;> rfl
theorem col_inb (l : List Int) (p : Nat) : inb3 (colT l p) := by
  have hw := Int.fmod_nonneg_of_pos ((colX l p).fdiv 3) (b := 1000) (by decide)
  have hw2 := Int.fmod_lt_of_pos ((colX l p).fdiv 3) (b := 1000) (by decide)
  have cm := colMore_cases (colX l p)
  have hm : 0 < colMore (colX l p) ∧ colMore (colX l p) ≤ 1000 := by lia
  have one : ∀ z : Int, inb (colW (colX l p) + z.fmod (colMore (colX l p))) := fun z => by
    have h1 := Int.fmod_nonneg_of_pos z hm.1
    have h2 := Int.fmod_lt_of_pos z hm.1
    unfold colW
    exact ⟨by omega, by omega⟩
  exact ⟨one _, one _, one _⟩
theorem law_all (l : List Int) : LawOk l := by
  have hcol : ∀ p, p < 3 → inb3 (colT l p) := fun p _ => col_inb l p
  have inv : ∀ i, i ≤ (turnsOf l).length → Good (runT l i) ∧ (0 < i → xor3 (wT (runT l i)) = 0) := by
    intro i
    induction i with
    | zero => exact fun _ => ⟨good_set hcol 3 (Nat.le_refl _), fun h => absurd h (Nat.lt_irrefl _)⟩
    | succ i ih =>
      intro hi
      obtain ⟨g, h0⟩ := ih (by lia)
      have hx : 0 ≤ (turnsOf l).getD i 0 := by
        rw [List.getD_eq_getElem?_getD, List.getElem?_eq_getElem (by lia)]
        exact turns_nn l _ (List.getElem_mem _)
      have sg := step_good (step_ok g hx h0)
      exact ⟨sg.1, fun _ => sg.2⟩
  have nn : ∀ i, i < (turnsOf l).length → 0 ≤ (turnsOf l).getD i 0 := fun i hi => by
    rw [List.getD_eq_getElem?_getD, List.getElem?_eq_getElem hi]
    exact turns_nn l _ (List.getElem_mem _)
  have st : ∀ i, i < (turnsOf l).length → StepOk i ((turnsOf l).getD i 0) (runT l i) := fun i hi => step_ok (inv i (by lia)).1 (nn i hi) (inv i (by lia)).2
  refine ⟨hcol, st, ?_⟩
  obtain ⟨n, hn, hlen, h6⟩ := turns_six l
  have fall : ∀ j, j ≤ 6 → rankT (runT l (n + j)) ≤ 6 - j := by
    intro j
    induction j with
    | zero =>
      intro _
      unfold rankT
      have h1 := rank_le (partsT (runT l (n + 0)) 0)
      have h2 := rank_le (partsT (runT l (n + 0)) 1)
      have h3 := rank_le (partsT (runT l (n + 0)) 2)
      lia
    | succ j ih =>
      intro hj
      have h1 := ih (by lia)
      have s := st (n + j) (by lia)
      rw [h6 j (by lia)] at s
      have h2 := step_six s (by lia) (inv (n + j) (by lia)).2
      have e : runT l (n + (j + 1)) = stepT (n + j) 6 (runT l (n + j)) := by
        show stepT (n + j) ((turnsOf l).getD (n + j) 0) (runT l (n + j)) = _
        rw [h6 j (by lia)]
      rw [e]; lia
  have := fall 6 (Nat.le_refl _)
  rw [← hlen] at this
  exact rankT_zero (inv _ (Nat.le_refl _)).1 (by lia)
end Mine
end

section
open PySem PySem.Float64
set_option Elab.async false
set_option linter.unusedVariables false
namespace Mine.Q

/-! ## floats as fractions -/
theorem grid : ∀ (k q : Nat), q ≤ 2 ^ 53 → ∃ t, V t = q * 2 ^ k
  | 0, q, h => ⟨q, by
    have := V_at (k := 0) (q := q) h (.inr rfl)
    simpa using this⟩
  | k + 1, q, h => by
    by_cases h2 : 2 ^ 52 ≤ q
    · exact ⟨_, V_at (k := k + 1) (q := q) h (.inl h2)⟩
    · obtain ⟨t, ht⟩ := grid k (2 * q) (by lia)
      refine ⟨t, ?_⟩
      rw [ht, Nat.pow_succ]
      rw [Nat.mul_comm 2 q, Nat.mul_assoc, Nat.mul_comm 2]
noncomputable def Fn (x : UInt64) : Prop := ∃ a m e, decode x = .fin a m e
/-- the value of a float -/
noncomputable def R (x : UInt64) : Rat := (val x : Rat) / ((2 ^ 1074 : Nat) : Rat)
/-- what a rounding gives, in whole numbers -/
theorem round_nat {r : UInt64} {neg : Bool} {W d : Nat} (h : Right r neg W d) (hd : 0 < d) {k : Nat} (hk : k ≤ 1040) (hW : W ≤ d * (2 ^ 53 * 2 ^ k)) :
    ∃ v : Nat, Fn r ∧ val r = sgn neg v ∧ W ≤ d * v + d * 2 ^ k ∧ d * v ≤ W + d * 2 ^ k ∧ (∀ q j, q ≤ 2 ^ 53 → W = d * (q * 2 ^ j) → v = q * 2 ^ j) := by
  obtain ⟨t, rfl, ht, hov, hn⟩ := h
  have hlt : t < infMag := by
    refine Nat.lt_of_le_of_ne ht fun e => ?_
    have h1 := hov.mp e
    have h2 : 2 ^ 53 * 2 ^ k ≤ 2 ^ 53 * 2 ^ 1040 := Nat.mul_le_mul_left _ (Nat.pow_le_pow_right (by decide) hk)
    have h3 : 2 * (d * (2 ^ 53 * 2 ^ k)) ≤ d * (2 * (2 ^ 53 * 2 ^ 1040)) := by
      have := Nat.mul_le_mul_left (2 * d) h2
      calc 2 * (d * (2 ^ 53 * 2 ^ k)) = 2 * d * (2 ^ 53 * 2 ^ k) := by rw [Nat.mul_assoc]
        _ ≤ 2 * d * (2 ^ 53 * 2 ^ 1040) := this
        _ = d * (2 * (2 ^ 53 * 2 ^ 1040)) := by rw [Nat.mul_comm 2 d, Nat.mul_assoc]
    have h4 : d * (2 * (2 ^ 53 * 2 ^ 1040)) < d * ((2 ^ 54 - 1) * 2 ^ 2045) := Nat.mul_lt_mul_of_pos_left (by decide +kernel) hd
    omega
  obtain ⟨m, e, hdec, hv⟩ := decode_pack neg hlt
  refine ⟨V t, ⟨_, _, _, hdec⟩, val_pack neg hlt, ?_⟩
  have near := fun t' => (hn hlt t').1
  have gap : dist W (d * V t) ≤ d * 2 ^ k := by
    have hdk : 0 < d * 2 ^ k := Nat.mul_pos hd (Nat.two_pow_pos _)
    obtain ⟨q, hq⟩ : ∃ q, W / (d * 2 ^ k) = q := ⟨_, rfl⟩
    have hq53 : q ≤ 2 ^ 53 := by
      rw [← hq]
      refine Nat.div_le_of_le_mul ?_
      calc W ≤ d * (2 ^ 53 * 2 ^ k) := hW
        _ = d * 2 ^ k * 2 ^ 53 := by ac_rfl
    obtain ⟨t', ht'⟩ := grid k q hq53
    have h1 := near t'
    rw [ht'] at h1
    have h2 := Nat.div_add_mod W (d * 2 ^ k)
    have h3 := Nat.mod_lt W hdk
    rw [hq] at h2
    have e1 : d * (q * 2 ^ k) = d * 2 ^ k * q := by ac_rfl
    rw [e1] at h1
    unfold dist at h1 ⊢
    omega
  refine ⟨by unfold dist at gap; omega, by unfold dist at gap; omega, fun q j hq hWq => ?_⟩
  obtain ⟨t', ht'⟩ := grid j q hq
  have h1 := near t'
  rw [ht', hWq] at h1
  have : d * V t = d * (q * 2 ^ j) := by unfold dist at h1; omega
  exact Nat.eq_of_mul_eq_mul_left hd this
end Mine.Q
end

section
open PySem PySem.Float64
set_option Elab.async false
set_option linter.unusedVariables false
set_option maxRecDepth 100000
set_option exponentiation.threshold 3000
namespace Mine.Q

noncomputable abbrev kN : Nat := 2 ^ 1074
theorem kN_pos : (0 : Rat) < ((2 ^ 1074 : Nat) : Rat) := by
  have : 0 < 2 ^ 1074 := Nat.two_pow_pos _
  exact_mod_cast this
theorem R_mul (x : UInt64) : R x * ((2 ^ 1074 : Nat) : Rat) = (val x : Rat) := by
  unfold R
  have := kN_pos
  generalize ((2 ^ 1074 : Nat) : Rat) = K at this
  grind
/-- a fraction that a float can be -/
noncomputable def Dy (r : Rat) : Prop := ∃ (n : Int) (j : Nat), j ≤ 1074 ∧ n.natAbs ≤ 2 ^ 53 ∧ r * ((2 ^ j : Nat) : Rat) = (n : Rat)
/-- the error of one rounding, of a value to 2^j -/
noncomputable def err (j : Nat) : Rat := ((2 ^ j : Nat) : Rat) / ((2 ^ 53 : Nat) : Rat)
theorem two_pow_pos' (j : Nat) : (0 : Rat) < ((2 ^ j : Nat) : Rat) := by
  have : 0 < 2 ^ j := Nat.two_pow_pos _
  exact_mod_cast this
theorem ncast (v : Nat) : (((-(v : Int)) : Int) : Rat) = -(v : Rat) := by
  rw [Rat.intCast_neg, Rat.intCast_natCast]
theorem cancel {d x y : Rat} (h : 0 < d) (l : d * x ≤ d * y) : x ≤ y := by
  refine Rat.not_lt.mp fun hlt => ?_
  have := Rat.mul_pos h (show 0 < x - y by grind)
  grind
theorem divm {K : Rat} (h : 0 < K) (x : Rat) : K * (x / K) = x := by
  have := Rat.mul_inv_cancel K (by grind)
  grind
theorem cancel2 {d x y : Rat} (h : 0 < d) (l : d * x = d * y) : x = y := by
  have a := cancel h (show d * x ≤ d * y by grind)
  have b := cancel h (show d * y ≤ d * x by grind)
  grind
theorem fin1 {d E K G P J v : Rat} (hd : 0 < d) (hK : 0 < K) (hP : 0 < P) (ek : G * P = J * K) (h : d * v ≤ d * (E * K + G)) : v / K - E ≤ J / P := by
  have c := cancel hd h
  have e1 := divm hK v
  have e2 := divm hP J
  generalize v / K = X at *
  generalize J / P = e at *
  have : G = e * K := cancel2 hP (by grind)
  have := cancel hK (show K * X ≤ K * (E + e) by grind)
  grind
theorem fin2 {d E K G P J v : Rat} (hd : 0 < d) (hK : 0 < K) (hP : 0 < P) (ek : G * P = J * K) (h : d * (E * K) ≤ d * (v + G)) : E - v / K ≤ J / P := by
  have c := cancel hd h
  have e1 := divm hK v
  have e2 := divm hP J
  generalize v / K = X at *
  generalize J / P = e at *
  have : G = e * K := cancel2 hP (by grind)
  have := cancel hK (show K * E ≤ K * (X + e) by grind)
  grind
theorem round_rat {r : UInt64} {neg : Bool} {W d : Nat} (h : Right r neg W d) (hd : 0 < d) {E : Rat} (hE : E * ((d : Rat) * ((2 ^ 1074 : Nat) : Rat)) = (W : Rat)) {j : Nat} (hj : j ≤ 19) (hb : E ≤ ((2 ^ j : Nat) : Rat)) :
    ∃ v : Rat, Fn r ∧ R r = (if neg then -v else v) ∧ 0 ≤ v ∧ v - E ≤ err j ∧ E - v ≤ err j ∧ (Dy E → v = E) := by
  have e1 : (2 ^ 53 * 2 ^ (1021 + j) : Nat) = 2 ^ j * 2 ^ 1074 := by rw [← Nat.pow_add, ← Nat.pow_add]; congr 1; lia
  have hd' : (0 : Rat) < (d : Rat) := by exact_mod_cast hd
  have hK := kN_pos
  have hW : W ≤ d * (2 ^ 53 * 2 ^ (1021 + j)) := by
    rw [e1]
    have : (W : Rat) ≤ ((d * (2 ^ j * 2 ^ 1074) : Nat) : Rat) := by
      rw [← hE, Rat.natCast_mul, Rat.natCast_mul]
      have p : (0 : Rat) ≤ (d : Rat) * ((2 ^ 1074 : Nat) : Rat) := Rat.le_of_lt (Rat.mul_pos hd' hK)
      have := Rat.mul_le_mul_of_nonneg_right hb p
      generalize ((2 ^ 1074 : Nat) : Rat) = K at *
      generalize ((2 ^ j : Nat) : Rat) = J at *
      grind
    exact_mod_cast this
  obtain ⟨v, hf, hv, b1, b2, ex⟩ := round_nat h hd (k := 1021 + j) (by lia) hW
  have ek : ((2 ^ (1021 + j) : Nat) : Rat) * ((2 ^ 53 : Nat) : Rat) = ((2 ^ j : Nat) : Rat) * ((2 ^ 1074 : Nat) : Rat) := by
    rw [← Rat.natCast_mul, ← Rat.natCast_mul, Nat.mul_comm (2 ^ (1021 + j)), e1]
  have b1' : (W : Rat) ≤ (d : Rat) * (v : Rat) + (d : Rat) * ((2 ^ (1021 + j) : Nat) : Rat) := by exact_mod_cast b1
  have b2' : (d : Rat) * (v : Rat) ≤ (W : Rat) + (d : Rat) * ((2 ^ (1021 + j) : Nat) : Rat) := by exact_mod_cast b2
  have rr : R r = (if neg then -((v : Rat) / ((2 ^ 1074 : Nat) : Rat)) else (v : Rat) / ((2 ^ 1074 : Nat) : Rat)) := by
    have rm := R_mul r
    rw [hv] at rm
    generalize ((2 ^ 1074 : Nat) : Rat) = K at *
    have e1 := divm hK (v : Rat)
    unfold sgn at rm
    cases neg
    · rw [if_neg (by decide)] at rm ⊢
      rw [Rat.intCast_natCast] at rm
      exact cancel2 hK (by grind)
    · rw [if_pos rfl] at rm ⊢
      rw [ncast] at rm
      exact cancel2 hK (by grind)
  have v0 : (0 : Rat) ≤ (v : Rat) := by exact_mod_cast Nat.zero_le v
  have ex' : Dy E → (v : Rat) = E * ((2 ^ 1074 : Nat) : Rat) := by
    intro ⟨n, i, hi, hn, he⟩
    have hi2 : (2 ^ 1074 : Nat) = 2 ^ i * 2 ^ (1074 - i) := by rw [← Nat.pow_add]; congr 1; lia
    have i0 := two_pow_pos' i
    have hi3 : ((2 ^ 1074 : Nat) : Rat) = ((2 ^ i : Nat) : Rat) * ((2 ^ (1074 - i) : Nat) : Rat) := by rw [← Rat.natCast_mul, ← hi2]
    have w0 : (0 : Rat) ≤ (W : Rat) := by exact_mod_cast Nat.zero_le W
    have s0 := two_pow_pos' (1074 - i)
    rw [hi3] at hE ⊢
    generalize hs : ((2 ^ (1074 - i) : Nat) : Rat) = s at *
    generalize ((2 ^ i : Nat) : Rat) = I at *
    have hE2 : (d : Rat) * ((n : Rat) * s) = (W : Rat) := by grind
    have n0 : 0 ≤ n := by
      refine Int.not_lt.mp fun hlt => ?_
      have n1 : (n : Rat) < 0 := by exact_mod_cast hlt
      have p1 : 0 < (d : Rat) * s := Rat.mul_pos hd' s0
      have p2 : 0 < (d : Rat) * s * (-(n : Rat)) := Rat.mul_pos p1 (by grind)
      grind
    obtain ⟨q, rfl⟩ := Int.eq_ofNat_of_zero_le n0
    have := ex q (1074 - i) (by lia) (by
      have : ((d * (q * 2 ^ (1074 - i)) : Nat) : Rat) = (W : Rat) := by
        rw [Rat.natCast_mul, Rat.natCast_mul, hs, ← hE2]; rfl
      exact_mod_cast this.symm)
    rw [this, Rat.natCast_mul, hs]
    have e2 : E * I = (q : Rat) := he
    rw [← e2]
    grind
  have P0 := two_pow_pos' 53
  generalize ((2 ^ 1074 : Nat) : Rat) = K at *
  generalize ((2 ^ (1021 + j) : Nat) : Rat) = G at *
  refine ⟨(v : Rat) / K, hf, rr, ?_, ?_, ?_, ?_⟩
  · exact cancel hK (by rw [divm hK]; grind)
  · exact fin1 hd' hK P0 ek (by grind)
  · exact fin2 hd' hK P0 ek (by grind)
  · intro hD
    have := ex' hD
    exact cancel2 hK (by rw [divm hK, this]; grind)
end Mine.Q
end

section
open PySem PySem.Float64
set_option Elab.async false
set_option linter.unusedVariables false
set_option maxRecDepth 100000
set_option exponentiation.threshold 3000
namespace Mine.Q

/-- r is e, rounded once -/
structure Rd (r : UInt64) (e : Rat) (j : Nat) : Prop where
  fn : Fn r
  up : R r ≤ e + err j
  lo : e ≤ R r + err j
  ex : Dy e → R r = e
theorem Dy.neg {e : Rat} (h : Dy e) : Dy (-e) := by
  obtain ⟨n, j, h1, h2, h3⟩ := h
  refine ⟨-n, j, h1, by omega, ?_⟩
  rw [Rat.intCast_neg, ← h3]
  generalize ((2 ^ j : Nat) : Rat) = J
  grind
theorem rd_of {r : UInt64} {neg : Bool} {W d : Nat} {e : Rat} {j : Nat} (h : Right r neg W d) (hd : 0 < d) (hs : (if neg then -e else e) * ((d : Rat) * ((2 ^ 1074 : Nat) : Rat)) = (W : Rat)) (hj : j ≤ 19) (h1 : e ≤ ((2 ^ j : Nat) : Rat)) (h2 : -e ≤ ((2 ^ j : Nat) : Rat)) : Rd r e j := by
  have hb : (if neg then -e else e) ≤ ((2 ^ j : Nat) : Rat) := by split <;> assumption
  obtain ⟨v, hf, hv, v0, u, l, x⟩ := round_rat h hd hs hj hb
  cases neg
  · rw [if_neg (by decide)] at hv u l x
    exact ⟨hf, by rw [hv]; grind, by rw [hv]; grind, fun q => by rw [hv]; exact x q⟩
  · rw [if_pos rfl] at hv u l x
    exact ⟨hf, by rw [hv]; grind, by rw [hv]; grind, fun q => by rw [hv, x q.neg]; grind⟩
theorem sgr (b : Bool) (n : Nat) : ((sgn b n : Int) : Rat) = if b then -(n : Rat) else (n : Rat) := by
  unfold sgn
  cases b
  · rw [if_neg (by decide), if_neg (by decide), Rat.intCast_natCast]
  · rw [if_pos rfl, if_pos rfl, ncast]
theorem sgn_val {x : UInt64} {a : Bool} {m : Nat} {e : Int} (hx : decode x = .fin a m e) : R x * ((2 ^ 1074 : Nat) : Rat) = if a then -((val x).natAbs : Rat) else ((val x).natAbs : Rat) := by
  rw [R_mul, ← sgr, val_natAbs hx, ← val_eq hx]
theorem nab (z : Int) : ((z.natAbs : Nat) : Rat) = if decide (z < 0) then -(z : Rat) else (z : Rat) := by
  rcases Int.natAbs_eq z with h | h
  · have : ¬ z < 0 := by lia
    rw [decide_eq_false this, if_neg (by decide)]
    rw [← Rat.intCast_natCast, ← h]
  · by_cases hz : z < 0
    · rw [decide_eq_true hz, if_pos rfl, ← Rat.intCast_neg, ← Rat.intCast_natCast]
      congr 1; lia
    · rw [decide_eq_false hz, if_neg (by decide), ← Rat.intCast_natCast]
      congr 1; lia
theorem fn_zero (s : Bool) : Fn (zero s) := by
  obtain ⟨m, e, h, _⟩ := decode_pack s (t := 0) (by decide)
  exact ⟨_, _, _, h⟩
theorem R_zero (s : Bool) : R (zero s) = 0 := by
  have : val (zero s) = 0 := (val_pack s (t := 0) (by decide)).trans (by cases s <;> decide +kernel)
  have k := R_mul (zero s)
  rw [this] at k
  have hK := kN_pos
  generalize ((2 ^ 1074 : Nat) : Rat) = K at *
  exact cancel2 hK (by rw [Rat.mul_comm, k]; grind)
theorem err_pos (j : Nat) : 0 < err j := by
  have a := two_pow_pos' 53
  have b := two_pow_pos' j
  unfold err
  have c := divm a ((2 ^ j : Nat) : Rat)
  generalize ((2 ^ 53 : Nat) : Rat) = P at *
  generalize ((2 ^ j : Nat) : Rat) = J at *
  generalize J / P = X at *
  refine Rat.not_le.mp fun hlt => ?_
  have := Rat.mul_nonneg (Rat.le_of_lt a) (show 0 ≤ -X by grind)
  grind
theorem Rd.add {x y : UInt64} (hx : Fn x) (hy : Fn y) {j : Nat} (hj : j ≤ 19) (h1 : R x + R y ≤ ((2 ^ j : Nat) : Rat)) (h2 : -(R x + R y) ≤ ((2 ^ j : Nat) : Rat)) : Rd (add x y) (R x + R y) j := by
  obtain ⟨a, m, e, hx⟩ := hx
  obtain ⟨b, k, f, hy⟩ := hy
  have ⟨z, nz⟩ := add_right hx hy
  have hK := kN_pos
  have ek : (R x + R y) * ((2 ^ 1074 : Nat) : Rat) = ((val x + val y : Int) : Rat) := by
    have := R_mul x; have := R_mul y
    rw [Rat.intCast_add]
    generalize ((2 ^ 1074 : Nat) : Rat) = K at *
    grind
  by_cases h0 : val x + val y = 0
  · have e0 : R x + R y = 0 := by
      rw [h0] at ek
      generalize ((2 ^ 1074 : Nat) : Rat) = K at *
      exact cancel2 hK (by rw [Rat.mul_comm, ek]; grind)
    have ep := err_pos j
    rw [z h0, e0]
    exact ⟨fn_zero _, by rw [R_zero]; grind, by rw [R_zero]; grind, fun _ => R_zero _⟩
  · refine rd_of (nz h0) (by decide) ?_ hj h1 h2
    rw [nab, ← ek]
    generalize decide (val x + val y < 0) = c
    generalize ((2 ^ 1074 : Nat) : Rat) = K at *
    have : ((1 : Nat) : Rat) = 1 := rfl
    cases c
    · rw [if_neg (by decide), if_neg (by decide)]; grind
    · rw [if_pos rfl, if_pos rfl]; grind
theorem Fn.neg {y : UInt64} (hy : Fn y) : Fn (neg y) := by
  obtain ⟨b, k, f, hy⟩ := hy
  exact ⟨_, _, _, neg_decode hy⟩
theorem R_neg {y : UInt64} (hy : Fn y) : R (neg y) = -R y := by
  obtain ⟨b, k, f, hy⟩ := hy
  have a := R_mul y
  have b := R_mul (neg y)
  rw [neg_val hy, Rat.intCast_neg, ← a] at b
  have hK := kN_pos
  generalize ((2 ^ 1074 : Nat) : Rat) = K at *
  exact cancel2 hK (by grind)
theorem Rd.sub {x y : UInt64} (hx : Fn x) (hy : Fn y) {j : Nat} (hj : j ≤ 19) (h1 : R x - R y ≤ ((2 ^ j : Nat) : Rat)) (h2 : -(R x - R y) ≤ ((2 ^ j : Nat) : Rat)) : Rd (sub x y) (R x - R y) j := by
  have e : R x - R y = R x + R (neg y) := by rw [R_neg hy]; grind
  rw [e] at h1 h2 ⊢
  unfold Float64.sub
  exact Rd.add hx hy.neg hj h1 h2
theorem Rd.mul {x y : UInt64} (hx : Fn x) (hy : Fn y) {j : Nat} (hj : j ≤ 19) (h1 : R x * R y ≤ ((2 ^ j : Nat) : Rat)) (h2 : -(R x * R y) ≤ ((2 ^ j : Nat) : Rat)) : Rd (mul x y) (R x * R y) j := by
  obtain ⟨a, m, e, hx⟩ := hx
  obtain ⟨b, k, f, hy⟩ := hy
  refine rd_of (mul_right hx hy) (Nat.two_pow_pos _) ?_ hj h1 h2
  have p := sgn_val hx
  have q := sgn_val hy
  rw [Rat.natCast_mul]
  generalize ((2 ^ 1074 : Nat) : Rat) = K at *
  generalize ((val x).natAbs : Rat) = X at *
  generalize ((val y).natAbs : Rat) = Y at *
  cases a <;> cases b <;> simp only [if_true, if_false, Bool.false_eq_true, bne_self_eq_false, show (true != false) = true from rfl, show (false != true) = true from rfl] at p q ⊢ <;> grind
theorem Rd.div {x y : UInt64} (hx : Fn x) (hy : Fn y) (h0 : R y ≠ 0) {j : Nat} (hj : j ≤ 19) (h1 : R x / R y ≤ ((2 ^ j : Nat) : Rat)) (h2 : -(R x / R y) ≤ ((2 ^ j : Nat) : Rat)) : Rd (div x y) (R x / R y) j := by
  obtain ⟨a, m, e, hx⟩ := hx
  obtain ⟨b, k, f, hy⟩ := hy
  have p := sgn_val hx
  have q := sgn_val hy
  have hK := kN_pos
  have n0 : (val y).natAbs ≠ 0 := by
    intro h
    rw [h] at q
    have z : ((0 : Nat) : Rat) = 0 := rfl
    generalize ((2 ^ 1074 : Nat) : Rat) = K at *
    exact h0 (cancel2 hK (by rw [Rat.mul_comm, q, z]; split <;> grind))
  refine rd_of (div_right hx hy (fun h => n0 (by rw [val_natAbs hy, h, Nat.zero_mul]))) (Nat.pos_of_ne_zero n0) ?_ hj h1 h2
  rw [Rat.natCast_mul]
  have dm := Rat.mul_inv_cancel (R y) h0
  have dd : R x / R y = R x * (R y)⁻¹ := Rat.div_def _ _
  generalize ((2 ^ 1074 : Nat) : Rat) = K at *
  generalize ((val x).natAbs : Rat) = X at *
  generalize ((val y).natAbs : Rat) = Y at *
  rw [dd]
  generalize (R y)⁻¹ = I at *
  cases a <;> cases b <;> simp only [if_true, if_false, Bool.false_eq_true, bne_self_eq_false, show (true != false) = true from rfl, show (false != true) = true from rfl] at p q ⊢ <;> grind
theorem Rd.ofInt (i : Int) {j : Nat} (hj : j ≤ 19) (h1 : (i : Rat) ≤ ((2 ^ j : Nat) : Rat)) (h2 : -(i : Rat) ≤ ((2 ^ j : Nat) : Rat)) : Rd (ofInt i) (i : Rat) j := by
  refine rd_of (ofInt_right i) (by decide) ?_ hj h1 h2
  rw [Rat.natCast_mul, nab]
  have : ((1 : Nat) : Rat) = 1 := rfl
  generalize ((2 ^ 1074 : Nat) : Rat) = K at *
  generalize decide (i < 0) = c
  cases c
  · simp only [Bool.false_eq_true, if_false]; grind
  · simp only [if_true]; grind
end Mine.Q
end

section
open PySem PySem.Float64
set_option Elab.async false
set_option linter.unusedVariables false
set_option maxRecDepth 100000
set_option exponentiation.threshold 3000
namespace Mine.Q

theorem R_lt {x y : UInt64} : R x < R y ↔ val x < val y := by
  have a := R_mul x
  have b := R_mul y
  have hK := kN_pos
  have e : val x < val y ↔ (val x : Rat) < (val y : Rat) := by exact_mod_cast Iff.rfl
  rw [e, ← a, ← b]
  generalize ((2 ^ 1074 : Nat) : Rat) = K at *
  constructor
  · intro h
    have := Rat.mul_pos hK (show 0 < R y - R x by grind)
    grind
  · intro h
    refine Rat.not_le.mp fun l => ?_
    have := Rat.mul_nonneg (Rat.le_of_lt hK) (show 0 ≤ R x - R y by grind)
    grind
theorem R_eq {x y : UInt64} : R x = R y ↔ val x = val y := by
  have a := @R_lt x y
  have b := @R_lt y x
  constructor
  · intro h
    have a' := mt a.mpr (by grind)
    have b' := mt b.mpr (by grind)
    lia
  · intro h
    have a' := mt a.mp (by lia)
    have b' := mt b.mp (by lia)
    grind
theorem cmp_R {x y : UInt64} (hx : Fn x) (hy : Fn y) : (cmp x y == some Ordering.lt) = decide (R x < R y) ∧ (cmp x y == some Ordering.eq) = decide (R x = R y) := by
  obtain ⟨a, m, e, hx⟩ := hx
  obtain ⟨b, k, f, hy⟩ := hy
  rw [cmp_right hx hy]
  have e1 : decide (R x < R y) = decide (val x < val y) := decide_eq_decide.mpr R_lt
  have e2 : decide (R x = R y) = decide (val x = val y) := decide_eq_decide.mpr R_eq
  rw [e1, e2]
  rcases Int.lt_trichotomy (val x) (val y) with h | h | h
  · rw [Int.compare_eq_lt.mpr h, decide_eq_true h, decide_eq_false (by lia)]; exact ⟨rfl, rfl⟩
  · rw [Int.compare_eq_eq.mpr h, decide_eq_true h, decide_eq_false (by lia)]; exact ⟨rfl, rfl⟩
  · rw [Int.compare_eq_gt.mpr h, decide_eq_false (by lia), decide_eq_false (by lia)]; exact ⟨rfl, rfl⟩
theorem feq_R {x y : UInt64} (hx : Fn x) (hy : Fn y) : feq x y = decide (R x = R y) := (cmp_R hx hy).2
theorem Fn.inf {x : UInt64} (hx : Fn x) : isInf x = false := by
  obtain ⟨a, m, e, hx⟩ := hx
  unfold isInf; rw [hx]
theorem Fn.nan {x : UInt64} (hx : Fn x) : isNaN x = false := by
  obtain ⟨a, m, e, hx⟩ := hx
  unfold isNaN; rw [hx]
theorem val_R0 {x : UInt64} : R x = 0 ↔ val x = 0 := by
  have k := R_mul x
  have hK := kN_pos
  constructor
  · intro h
    rw [h, Rat.zero_mul] at k
    exact_mod_cast k.symm
  · intro h
    rw [h] at k
    generalize ((2 ^ 1074 : Nat) : Rat) = K at *
    exact cancel2 hK (by rw [Rat.mul_comm, k]; grind)
theorem isZero_R {x : UInt64} (hx : Fn x) : isZero x = decide (R x = 0) := by
  obtain ⟨a, m, e, hx⟩ := hx
  rw [decide_eq_decide.mpr val_R0]
  have hv := val_natAbs hx
  have hp : 0 < 2 ^ (e + 1074).toNat := Nat.two_pow_pos _
  unfold isZero
  rw [hx]
  cases m with
  | zero => rw [Nat.zero_mul] at hv; rw [decide_eq_true (by lia)]; rfl
  | succ m =>
    have : 0 < (m + 1) * 2 ^ (e + 1074).toNat := Nat.mul_pos (by lia) hp
    rw [decide_eq_false (by lia)]; rfl
theorem R_is {x : UInt64} {z : Int} {s : Nat} (h : val x * (s : Int) = z * (2 ^ 1074 : Nat)) : R x * (s : Rat) = (z : Rat) := by
  have k := R_mul x
  have hK := kN_pos
  have h' : ((val x * (s : Int) : Int) : Rat) = ((z * (2 ^ 1074 : Nat) : Int) : Rat) := by rw [h]
  rw [Rat.intCast_mul, Rat.intCast_mul, Rat.intCast_natCast, Rat.intCast_natCast, ← k] at h'
  generalize ((2 ^ 1074 : Nat) : Rat) = K at *
  exact cancel2 hK (by grind)
theorem R_ge {x : UInt64} {n : Int} (h : (n : Rat) ≤ R x) : n * (2 ^ 1074 : Nat) ≤ val x := by
  have k := R_mul x
  have hK := kN_pos
  have : ((n * (2 ^ 1074 : Nat) : Int) : Rat) ≤ (val x : Rat) := by
    rw [Rat.intCast_mul, Rat.intCast_natCast, ← k]
    exact Rat.mul_le_mul_of_nonneg_right h (Rat.le_of_lt hK)
  exact_mod_cast this
theorem R_gt {x : UInt64} {n : Int} (h : R x < (n : Rat)) : val x < n * (2 ^ 1074 : Nat) := by
  have k := R_mul x
  have hK := kN_pos
  have : (val x : Rat) < ((n * (2 ^ 1074 : Nat) : Int) : Rat) := by
    rw [Rat.intCast_mul, Rat.intCast_natCast, ← k]
    generalize ((2 ^ 1074 : Nat) : Rat) = K at *
    have := Rat.mul_pos hK (show 0 < (n : Rat) - R x by grind)
    grind
  exact_mod_cast this
theorem val_sign {x : UInt64} {a : Bool} {m : Nat} {e : Int} (hx : decode x = .fin a m e) : val x = if a then -((m * 2 ^ (e + 1074).toNat : Nat) : Int) else ((m * 2 ^ (e + 1074).toNat : Nat) : Int) := by
  rw [val_eq hx]; unfold sgn; rfl
/-- int(x), of a float that is not below naught -/
theorem toI_floor {x : UInt64} (hf : Fn x) {n : Nat} (h1 : ((n : Int) : Rat) ≤ R x) (h2 : R x < (((n + 1 : Nat) : Int) : Rat)) : toI x = some (n : Int) := by
  have g1 := R_ge h1
  have g2 := R_gt h2
  obtain ⟨a, m, e, hx⟩ := hf
  have he := decode_ge hx
  have vs := val_sign hx
  unfold toI
  rw [hx]
  simp only
  congr 1
  have hP : 0 < 2 ^ (e + 1074).toNat := Nat.two_pow_pos _
  have hK : 0 < 2 ^ 1074 := Nat.two_pow_pos _
  cases a with
  | true =>
    rw [if_pos rfl] at vs
    have n0 : n * 2 ^ 1074 = 0 := by
      generalize 2 ^ 1074 = K at *
      have := Nat.zero_le (n * K)
      have e1 : (n : Int) * (K : Nat) = ((n * K : Nat) : Int) := by push_cast; rfl
      rw [e1] at g1
      lia
    have n1 : n = 0 := by
      rcases Nat.mul_eq_zero.mp n0 with h | h
      · exact h
      · exact absurd h (Nat.ne_of_gt hK)
    subst n1
    have m0 : m * 2 ^ (e + 1074).toNat = 0 := by
      generalize 2 ^ 1074 = K at *
      lia
    have m1 : m = 0 := by
      rcases Nat.mul_eq_zero.mp m0 with h | h
      · exact h
      · exact absurd h (Nat.ne_of_gt hP)
    subst m1
    unfold truncOf ceilOf floorOf sgn
    simp
  | false =>
    rw [if_neg (by decide)] at vs
    rw [vs] at g1 g2
    unfold truncOf floorOf sgn
    simp only [Bool.false_eq_true, if_false]
    split
    · rename_i h
      have e1 : (e + 1074).toNat = e.toNat + 1074 := by lia
      rw [e1, Nat.pow_add, ← Nat.mul_assoc] at g1 g2
      generalize hK2 : (2 ^ 1074 : Nat) = K at *
      have g1' : n * K ≤ m * 2 ^ e.toNat * K := by exact_mod_cast g1
      have g2' : m * 2 ^ e.toNat * K < (n + 1) * K := by exact_mod_cast g2
      have a1 := Nat.le_of_mul_le_mul_right g1' hK
      have a2 := Nat.lt_of_mul_lt_mul_right g2'
      have : m * 2 ^ e.toNat = n := by lia
      exact_mod_cast this
    · rename_i h
      have e1 : 1074 = (-e).toNat + (e + 1074).toNat := by lia
      have e2 : 2 ^ 1074 = 2 ^ (-e).toNat * 2 ^ (e + 1074).toNat := by rw [← Nat.pow_add, ← e1]
      rw [e2] at g1 g2
      generalize 2 ^ (e + 1074).toNat = P at *
      have g1' : n * (2 ^ (-e).toNat * P) ≤ m * P := by exact_mod_cast g1
      have g2' : m * P < (n + 1) * (2 ^ (-e).toNat * P) := by exact_mod_cast g2
      rw [← Nat.mul_assoc] at g1' g2'
      have a1 := Nat.le_of_mul_le_mul_right g1' hP
      have a2 := Nat.lt_of_mul_lt_mul_right g2'
      rw [Int.fdiv_eq_ediv_of_nonneg _ (by exact_mod_cast Nat.zero_le _)]
      have : m / 2 ^ (-e).toNat = n := by
        have q : 0 < 2 ^ (-e).toNat := Nat.two_pow_pos _
        refine Nat.le_antisymm ?_ ?_
        · exact Nat.lt_succ_iff.mp ((Nat.div_lt_iff_lt_mul q).mpr a2)
        · exact (Nat.le_div_iff_mul_le q).mpr a1
      exact_mod_cast this

theorem abs_eq {x : UInt64} {a : Bool} {m : Nat} {e : Int} (hx : decode x = .fin a m e) : Float64.abs x = if a then neg x else x := by
  have hn : isNaN x = false := Fn.nan ⟨_, _, _, hx⟩
  have ha : a = (x.toNat / 2 ^ 63 == 1) := by
    unfold decode at hx
    simp only at hx
    split at hx
    · split at hx <;> cases hx
    · split at hx <;> cases hx <;> rfl
  have hlt := x.toNat_lt
  have hp := pack_toNat false (t := x.toNat % 2 ^ 63) (by lia)
  rw [if_neg (by decide), Nat.zero_add] at hp
  have ⟨n1, n2⟩ := neg_toNat hn
  have nl := (neg x).toNat_lt
  unfold Float64.abs
  rw [if_neg (by rw [hn]; decide)]
  refine UInt64.toNat.inj ?_
  rw [hp]
  cases a with
  | true =>
    rw [if_pos rfl]
    rw [← ha] at n2
    have : ¬ (neg x).toNat / 2 ^ 63 = 1 := by simpa using n2
    lia
  | false =>
    rw [if_neg (by decide)]
    have : ¬ x.toNat / 2 ^ 63 = 1 := by simpa using ha.symm
    lia
theorem abs_R {x : UInt64} (hf : Fn x) : Fn (Float64.abs x) ∧ (0 ≤ R x → R (Float64.abs x) = R x) ∧ (R x ≤ 0 → R (Float64.abs x) = -R x) := by
  have hn := R_neg hf
  have fn := hf.neg
  obtain ⟨a, m, e, hx⟩ := hf
  have q := sgn_val hx
  have hK := kN_pos
  have z : (0 : Rat) ≤ ((val x).natAbs : Rat) := by exact_mod_cast Nat.zero_le _
  rw [abs_eq hx]
  generalize ((2 ^ 1074 : Nat) : Rat) = K at *
  generalize ((val x).natAbs : Rat) = N at *
  cases a with
  | true =>
    rw [if_pos rfl] at q ⊢
    have s : R x ≤ 0 := cancel hK (by grind)
    exact ⟨fn, fun h => by rw [hn]; grind, fun h => hn⟩
  | false =>
    rw [if_neg (by decide)] at q ⊢
    have s : 0 ≤ R x := cancel hK (by grind)
    exact ⟨⟨_, _, _, hx⟩, fun h => rfl, fun h => by grind⟩
end Mine.Q
end

section
open PySem PySem.Float64
set_option Elab.async false
set_option linter.unusedVariables false
set_option maxRecDepth 100000
set_option exponentiation.threshold 3000
namespace Mine.Q

theorem decode_lt {x : UInt64} {a : Bool} {m : Nat} {e : Int} (h : decode x = .fin a m e) : m < 2 ^ 53 := by
  unfold decode at h
  simp only at h
  split at h
  · split at h <;> cases h
  · split at h
    · cases h
      have := Nat.mod_lt x.toNat (show 0 < 2 ^ 52 by decide)
      lia
    · cases h
      have := Nat.mod_lt x.toNat (show 0 < 2 ^ 52 by decide)
      lia
theorem fn_dy {x : UInt64} (hf : Fn x) (h1 : R x < 1) (h2 : -1 < R x) : Dy (R x) := by
  obtain ⟨a, m, e, hx⟩ := hf
  have hm := decode_lt hx
  have he := decode_ge hx
  have q := sgn_val hx
  have nb := val_natAbs hx
  have hK := kN_pos
  by_cases h0 : e ≤ 0
  · refine ⟨sgn a m, (-e).toNat, by lia, by rw [sgn_natAbs]; lia, ?_⟩
    rw [sgr]
    have e1 : (val x).natAbs * 2 ^ (-e).toNat = m * 2 ^ 1074 := by
      rw [nb, Nat.mul_assoc, ← Nat.pow_add]
      congr 2; lia
    have e2 : ((val x).natAbs : Rat) * ((2 ^ (-e).toNat : Nat) : Rat) = (m : Rat) * ((2 ^ 1074 : Nat) : Rat) := by
      rw [← Rat.natCast_mul, e1, Rat.natCast_mul]
    generalize ((2 ^ 1074 : Nat) : Rat) = K at *
    generalize ((2 ^ (-e).toNat : Nat) : Rat) = J at *
    generalize ((val x).natAbs : Rat) = N at *
    refine cancel2 hK ?_
    cases a
    · rw [if_neg (by decide)] at q ⊢; grind
    · rw [if_pos rfl] at q ⊢; grind
  · have hv : (val x).natAbs < 2 ^ 1074 := by
      have z1 : ((1 : Int) : Rat) = 1 := rfl
      have z2 : ((-1 : Int) : Rat) = -1 := by rw [Rat.intCast_neg]; rfl
      have a1 := R_gt (x := x) (n := 1) (by rw [z1]; exact h1)
      have a2 := R_ge (x := x) (n := -1) (by rw [z2]; exact Rat.le_of_lt h2)
      have a3 : val x ≠ (-1) * (2 ^ 1074 : Nat) := by
        intro h
        have := R_is (x := x) (z := -1) (s := 1) (by rw [h]; generalize (2 ^ 1074 : Nat) = K; lia)
        rw [z2] at this
        have z3 : ((1 : Nat) : Rat) = 1 := rfl
        rw [z3] at this
        grind
      generalize (2 ^ 1074 : Nat) = K at *
      lia
    have m0 : m = 0 := by
      refine Nat.eq_zero_of_not_pos fun hm => ?_
      have : 2 ^ 1074 ≤ 2 ^ (e + 1074).toNat := Nat.pow_le_pow_right (by decide) (by lia)
      have : 1 * 2 ^ (e + 1074).toNat ≤ m * 2 ^ (e + 1074).toNat := Nat.mul_le_mul_right _ hm
      generalize 2 ^ (e + 1074).toNat = P at *
      generalize (2 ^ 1074 : Nat) = K at *
      lia
    rw [m0, Nat.zero_mul] at nb
    have : R x = 0 := val_R0.mpr (by lia)
    exact ⟨0, 0, by decide, by decide, by rw [this]; exact Rat.zero_mul _⟩
theorem f1_dec : decode f1 = .fin false (2 ^ 52) (-52) := by kernel_rfl
theorem fmod_one {x : UInt64} (hf : Fn x) (h1 : R x < 1) (h2 : -1 < R x) : Fn (fmod x f1) ∧ R (fmod x f1) = R x := by
  have dy := fn_dy hf h1 h2
  have hv : (val x).natAbs < 2 ^ 1074 := by
    have z1 : ((1 : Int) : Rat) = 1 := rfl
    have z2 : ((-1 : Int) : Rat) = -1 := by rw [Rat.intCast_neg]; rfl
    have a1 := R_gt (x := x) (n := 1) (by rw [z1]; exact h1)
    have a2 := R_ge (x := x) (n := -1) (by rw [z2]; exact Rat.le_of_lt h2)
    have a3 : val x ≠ (-1) * (2 ^ 1074 : Nat) := by
      intro h
      have := R_is (x := x) (z := -1) (s := 1) (by rw [h]; generalize (2 ^ 1074 : Nat) = K; lia)
      rw [z2] at this
      have z3 : ((1 : Nat) : Rat) = 1 := rfl
      rw [z3] at this
      grind
    generalize (2 ^ 1074 : Nat) = K at *
    lia
  obtain ⟨a, m, e, hx⟩ := hf
  have he := decode_ge hx
  have q := sgn_val hx
  have nb := val_natAbs hx
  have key : fmod x f1 = ofBin a (m * 2 ^ (e - min e (-52)).toNat) (min e (-52)) := by
    unfold fmod
    rw [hx, f1_dec]
    simp only [align, sgn, Bool.false_eq_true, if_false]
    rw [if_neg (by decide)]
    rw [Int.toNat_natCast, Int.toNat_natCast]
    congr 1
    refine Nat.mod_eq_of_lt ?_
    have e1 : (e + 1074).toNat = (e - min e (-52)).toNat + (min e (-52) + 1074).toNat := by lia
    have e2 : 1074 = 52 + ((-52 - min e (-52)).toNat + (min e (-52) + 1074).toNat) := by omega
    have e3 : 2 ^ 1074 = 2 ^ 52 * 2 ^ (-52 - min e (-52)).toNat * 2 ^ (min e (-52) + 1074).toNat := by rw [Nat.mul_assoc, ← Nat.pow_add, ← Nat.pow_add, ← e2]
    rw [nb, e1, Nat.pow_add, ← Nat.mul_assoc, e3] at hv
    exact Nat.lt_of_mul_lt_mul_right hv
  have hs := shift_one (m * 2 ^ (e - min e (-52)).toNat) (min e (-52)) 1074 (by lia)
  have hd := shift_pos (m * 2 ^ (e - min e (-52)).toNat) 1 (min e (-52)) (by decide)
  have e1 : (e + 1074).toNat = (e - min e (-52)).toNat + (min e (-52) + (1074 : Nat)).toNat := by lia
  rw [Nat.mul_assoc m, ← Nat.pow_add, ← e1, ← nb] at hs
  have rt : Right (fmod x f1) a (val x).natAbs 1 := by
    rw [key]
    exact ofFrac_right (n := (shift (m * 2 ^ (e - min e (-52)).toNat) 1 (min e (-52))).1) (d := (shift (m * 2 ^ (e - min e (-52)).toNat) 1 (min e (-52))).2) hd (by rw [Nat.mul_one, hs]) (by decide)
  have r := rd_of (e := R x) (j := 0) rt (by decide) (by
    rw [show ((1 : Nat) : Rat) = 1 from rfl, Rat.one_mul]
    generalize ((2 ^ 1074 : Nat) : Rat) = K at *
    generalize ((val x).natAbs : Rat) = N at *
    cases a
    · rw [if_neg (by decide)] at q ⊢; exact q
    · rw [if_pos rfl] at q ⊢; grind) (by decide) (by rw [show ((2 ^ 0 : Nat) : Rat) = 1 from rfl]; grind) (by rw [show ((2 ^ 0 : Nat) : Rat) = 1 from rfl]; grind)
  exact ⟨r.fn, r.ex dy⟩
theorem fn_c {x : UInt64} (h : isFinite x = true) : Fn x := by
  unfold isFinite at h
  unfold Fn
  split at h
  · rename_i a m e hd; exact ⟨_, _, _, hd⟩
  · cases h
theorem f1_fn : Fn f1 := ⟨_, _, _, f1_dec⟩
theorem f1_R : R f1 = 1 := by
  have := R_is (x := f1) (z := 1) (s := 1) (by decide +kernel)
  rw [show ((1 : Nat) : Rat) = 1 from rfl, show ((1 : Int) : Rat) = 1 from rfl] at this
  grind
theorem divmod_one {x : UInt64} (hf : Fn x) (h1 : R x < 1) (h2 : -1 < R x) :
    (0 ≤ R x → Fn (divmod x f1).2 ∧ R (divmod x f1).2 = R x) ∧ (R x < 0 → Rd (divmod x f1).2 (R x + 1) 0) := by
  have ⟨mf, mr⟩ := fmod_one hf h1 h2
  have zr := R_zero false
  have zf := fn_zero false
  have l1 : lt f1 (zero false) = false := by
    unfold Float64.lt
    rw [(cmp_R f1_fn zf).1, f1_R, zr]
    decide +kernel
  have l2 : lt (fmod x f1) (zero false) = decide (R x < 0) := by
    unfold Float64.lt
    rw [(cmp_R mf zf).1, mr, zr]
  unfold divmod
  simp only [isZero_R mf, mr, l1, l2]
  have cz : copysign (zero false) f1 = zero false := by decide +kernel
  by_cases h0 : R x = 0
  · simp only [h0, decide_true, if_true]
    rw [cz]
    exact ⟨fun _ => ⟨zf, zr⟩, fun h => absurd h (by grind)⟩
  · have hz : decide (R x = 0) = false := decide_eq_false h0
    simp only [hz, Bool.false_eq_true, if_false]
    by_cases hn : R x < 0
    · have hz : decide (R x < 0) = true := decide_eq_true hn
      simp only [hz]
      refine ⟨fun h => absurd h (by grind), fun _ => ?_⟩
      have := Rd.add mf f1_fn (j := 0) (by decide) (by rw [show ((2 ^ 0 : Nat) : Rat) = 1 from rfl, mr, f1_R]; grind) (by rw [show ((2 ^ 0 : Nat) : Rat) = 1 from rfl, mr, f1_R]; grind)
      rw [mr, f1_R] at this
      exact this
    · have hz : decide (R x < 0) = false := decide_eq_false hn
      simp only [hz]
      exact ⟨fun _ => ⟨mf, mr⟩, fun h => absurd h hn⟩
end Mine.Q
end

section
open PySem PySem.Float64
set_option Elab.async false
set_option linter.unusedVariables false
set_option maxRecDepth 100000
set_option exponentiation.threshold 3000
namespace Mine.Q

noncomputable abbrev eta : Rat := 1 / 2199023255552
/-- one rounding, of a value to 4096 -/
structure Op (r : UInt64) (e : Rat) : Prop where
  fn : Fn r
  up : R r ≤ e + eta
  lo : e ≤ R r + eta
  ex : ∀ n : Int, n.natAbs ≤ 2 ^ 53 → e * 4096 = (n : Rat) → R r = e
theorem err12 : err 12 = eta := by decide +kernel
theorem err0 : err 0 ≤ eta := by decide +kernel
theorem p12 : ((2 ^ 12 : Nat) : Rat) = 4096 := rfl
theorem Rd.op {r : UInt64} {e : Rat} (h : Rd r e 12) : Op r e := by
  obtain ⟨f, u, l, x⟩ := h
  rw [err12] at u l
  exact ⟨f, u, l, fun n hn he => x ⟨n, 12, by decide, hn, by rw [p12]; exact he⟩⟩
theorem Op.add {x y : UInt64} (hx : Fn x) (hy : Fn y) (h1 : R x + R y ≤ 4096) (h2 : -4096 ≤ R x + R y) : Op (add x y) (R x + R y) :=
  (Rd.add hx hy (by decide) (by rw [p12]; exact h1) (by rw [p12]; grind)).op
theorem Op.sub {x y : UInt64} (hx : Fn x) (hy : Fn y) (h1 : R x - R y ≤ 4096) (h2 : -4096 ≤ R x - R y) : Op (sub x y) (R x - R y) :=
  (Rd.sub hx hy (by decide) (by rw [p12]; exact h1) (by rw [p12]; grind)).op
theorem Op.mul {x y : UInt64} (hx : Fn x) (hy : Fn y) (h1 : R x * R y ≤ 4096) (h2 : -4096 ≤ R x * R y) : Op (mul x y) (R x * R y) :=
  (Rd.mul hx hy (by decide) (by rw [p12]; exact h1) (by rw [p12]; grind)).op
theorem Op.div {x y : UInt64} (hx : Fn x) (hy : Fn y) {q : Rat} (h0 : R y ≠ 0) (hq : q * R y = R x) (h1 : q ≤ 4096) (h2 : -4096 ≤ q) : Op (div x y) q := by
  have e : q = R x / R y := by
    rw [← hq, Rat.div_def, Rat.mul_assoc, Rat.mul_inv_cancel _ h0, Rat.mul_one]
  rw [e] at h1 h2 ⊢
  exact (Rd.div hx hy h0 (j := 12) (by decide) (by rw [p12]; exact h1) (by rw [p12]; grind)).op
theorem fI_ok {i : Int} (h1 : -4096 ≤ i) (h2 : i ≤ 4096) : Fn (fI i) ∧ R (fI i) = (i : Rat) := by
  have a : (i : Rat) ≤ ((4096 : Int) : Rat) := by exact_mod_cast h2
  have b : ((-4096 : Int) : Rat) ≤ (i : Rat) := by exact_mod_cast h1
  rw [show ((4096 : Int) : Rat) = 4096 from rfl] at a
  rw [show ((-4096 : Int) : Rat) = -4096 from rfl] at b
  have h := (Rd.ofInt i (j := 12) (by decide) (by rw [p12]; exact a) (by rw [p12]; grind)).op
  refine ⟨h.fn, h.ex (i * 4096) (by lia) ?_⟩
  rw [Rat.intCast_mul]; rfl
theorem fq_ok {a : Int} (h1 : 0 ≤ a) (h2 : a < 2000) : Fn (fq a) ∧ R (fq a) * 2048 = (a : Rat) := by
  have A : (a : Rat) ≤ ((2000 : Int) : Rat) := by exact_mod_cast Int.le_of_lt h2
  have B : ((0 : Int) : Rat) ≤ (a : Rat) := by exact_mod_cast h1
  rw [show ((2000 : Int) : Rat) = 2000 from rfl] at A
  rw [show ((0 : Int) : Rat) = 0 from rfl] at B
  have rt : Right (fq a) false (a.natAbs * 2 ^ 1074) 2048 := by
    unfold fq
    have e : (decide (a < 0) != decide ((2048 : Int) < 0)) = false := by
      rw [decide_eq_false (by lia)]; rfl
    rw [e]
    exact ofFrac_right (by decide) rfl (by decide)
  have h := (rd_of (e := (a : Rat) / 2048) (j := 12) rt (by decide) (by
    rw [if_neg (by decide), Rat.natCast_mul, nab, decide_eq_false (by lia : ¬ a < 0), if_neg (by decide)]
    rw [show ((2048 : Nat) : Rat) = 2048 from rfl]
    generalize ((2 ^ 1074 : Nat) : Rat) = K
    grind) (by decide) (by rw [p12]; grind) (by rw [p12]; grind)).op
  have := h.ex (a * 2) (by lia) (by rw [Rat.intCast_mul, show ((2 : Int) : Rat) = 2 from rfl]; grind)
  exact ⟨h.fn, by rw [this]; grind⟩
theorem c_int {x : UInt64} {z : Int} (h : val x = z * (2 ^ 1074 : Nat)) : R x = (z : Rat) := by
  have := R_is (x := x) (z := z) (s := 1) (by rw [h]; generalize (2 ^ 1074 : Nat) = K; lia)
  rw [show ((1 : Nat) : Rat) = 1 from rfl] at this
  grind
theorem f2_ok : Fn f2 ∧ R f2 = 2 := ⟨fn_c (by decide +kernel), c_int (z := 2) (by decide +kernel)⟩
theorem f4_ok : Fn f4 ∧ R f4 = 4 := ⟨fn_c (by decide +kernel), c_int (z := 4) (by decide +kernel)⟩
theorem f6_ok : Fn f6 ∧ R f6 = 6 := ⟨fn_c (by decide +kernel), c_int (z := 6) (by decide +kernel)⟩
theorem f0_ok : Fn f0 ∧ R f0 = 0 := ⟨fn_c (by decide +kernel), c_int (z := 0) (by decide +kernel)⟩
theorem fhalf_ok : Fn fhalf ∧ R fhalf * 2 = 1 := ⟨fn_c (by decide +kernel), R_is (x := fhalf) (z := 1) (s := 2) (by decide +kernel)⟩
theorem icle {a b : Int} (h : a ≤ b) : (a : Rat) ≤ (b : Rat) := by exact_mod_cast h
theorem iclt {a b : Int} (h : a < b) : (a : Rat) < (b : Rat) := by exact_mod_cast h
/-- int(x + 0.5), of a float that is all but n -/
theorem round_ok {x : UInt64} (hx : Fn x) {n : Int} (h0 : 0 ≤ n) (h1 : n ≤ 2000) (l : (n : Rat) - 1 / 4 ≤ R x) (u : R x ≤ (n : Rat) + 1 / 4) : toI (add x fhalf) = some n := by
  obtain ⟨k, rfl⟩ := Int.eq_ofNat_of_zero_le h0
  have a := icle h0
  have b := icle h1
  rw [show ((2000 : Int) : Rat) = 2000 from rfl] at b
  rw [show ((0 : Int) : Rat) = 0 from rfl] at a
  have ⟨hf, hr⟩ := fhalf_ok
  have o := Op.add hx hf (by grind) (by grind)
  refine toI_floor o.fn ?_ ?_
  · have := o.lo; grind
  · have := o.up
    rw [show (((k + 1 : Nat) : Int) : Rat) = ((k : Int) : Rat) + 1 by rw [Int.natCast_add, Rat.intCast_add]; rfl]
    grind
theorem back_ok {x : UInt64} (hx : Fn x) {n : Int} (h0 : 0 ≤ n) (h1 : n ≤ 2000) (l : (n : Rat) - 1 / 8 ≤ R x * 2048) (u : R x * 2048 ≤ (n : Rat) + 1 / 8) : back x = some n := by
  have a := icle h0
  have b := icle h1
  rw [show ((2000 : Int) : Rat) = 2000 from rfl] at b
  rw [show ((0 : Int) : Rat) = 0 from rfl] at a
  have ⟨hf, hr⟩ := fI_ok (i := 2048) (by decide) (by decide)
  rw [show ((2048 : Int) : Rat) = 2048 from rfl] at hr
  have o := Op.mul hx hf (by rw [hr]; grind) (by rw [hr]; grind)
  rw [hr] at o
  exact round_ok o.fn h0 h1 (by have := o.lo; grind) (by have := o.up; grind)
theorem fq_lt {a b : Int} (ha : inb a) (hb : inb b) : (cmp (fq a) (fq b) == some Ordering.lt) = decide (a < b) := by
  have ⟨fa, ra⟩ := fq_ok ha.1 ha.2
  have ⟨fb, rb⟩ := fq_ok hb.1 hb.2
  rw [(cmp_R fa fb).1]
  refine decide_eq_decide.mpr ⟨fun h => ?_, fun h => ?_⟩
  · have : (a : Rat) < (b : Rat) := by grind
    exact_mod_cast this
  · have := iclt h
    grind
theorem fq_eq {a b : Int} (ha : inb a) (hb : inb b) : feq (fq a) (fq b) = decide (a = b) := by
  have ⟨fa, ra⟩ := fq_ok ha.1 ha.2
  have ⟨fb, rb⟩ := fq_ok hb.1 hb.2
  rw [feq_R fa fb]
  refine decide_eq_decide.mpr ⟨fun h => ?_, fun h => by rw [h]⟩
  have : (a : Rat) = (b : Rat) := by rw [← ra, ← rb, h]
  exact_mod_cast this
theorem mx_fq {a b c : Int} (ha : inb a) (hb : inb b) (hc : inb c) : mx (fq a) (fq b) (fq c) = fq (max3 a b c) := by
  have st : ∀ {x y : Int}, inb x → inb y → (if PySem.Flt.gtB (fq y) (fq x) = true then fq y else fq x) = fq (max x y) := by
    intro x y hx hy
    unfold PySem.Flt.gtB
    rw [fq_lt hx hy]
    by_cases h : x < y
    · rw [decide_eq_true h, if_pos rfl, Int.max_eq_right (Int.le_of_lt h)]
    · rw [decide_eq_false h, if_neg (by decide), Int.max_eq_left (by lia)]
  have hab : inb (max a b) := by unfold inb at *; lia
  show (if PySem.Flt.gtB (fq c) (if PySem.Flt.gtB (fq b) (fq a) = true then fq b else fq a) = true then fq c else if PySem.Flt.gtB (fq b) (fq a) = true then fq b else fq a) = _
  rw [st ha hb, st hab hc]
  congr 1
  exact Int.max_assoc a b c
theorem mn_fq {a b c : Int} (ha : inb a) (hb : inb b) (hc : inb c) : mn (fq a) (fq b) (fq c) = fq (min3 a b c) := by
  have st : ∀ {x y : Int}, inb x → inb y → (if PySem.Flt.ltB (fq y) (fq x) = true then fq y else fq x) = fq (min x y) := by
    intro x y hx hy
    unfold PySem.Flt.ltB
    rw [fq_lt hy hx]
    by_cases h : y < x
    · rw [decide_eq_true h, if_pos rfl, Int.min_eq_right (Int.le_of_lt h)]
    · rw [decide_eq_false h, if_neg (by decide), Int.min_eq_left (by lia)]
  have hab : inb (min a b) := by unfold inb at *; lia
  show (if PySem.Flt.ltB (fq c) (if PySem.Flt.ltB (fq b) (fq a) = true then fq b else fq a) = true then fq c else if PySem.Flt.ltB (fq b) (fq a) = true then fq b else fq a) = _
  rw [st ha hb, st hab hc]
  congr 1
  exact Int.min_assoc a b c
end Mine.Q
end

section
open PySem PySem.Float64
set_option Elab.async false
set_option linter.unusedVariables false
set_option maxRecDepth 100000
set_option exponentiation.threshold 3000
namespace Mine.Q

theorem inb_b {a : Int} (h : inb a) : (0 : Rat) ≤ (a : Rat) ∧ (a : Rat) ≤ 1999 := by
  have p := icle h.1
  have q := icle (show a ≤ 1999 by have := h.2; lia)
  exact ⟨p, q⟩
theorem Op.is {r : UInt64} {e : Rat} (h : Op r e) {n : Int} (hn : n.natAbs ≤ 2 ^ 53) (he : e * 4096 = (n : Rat)) : Fn r ∧ R r * 4096 = (n : Rat) := ⟨h.fn, by rw [h.ex n hn he]; exact he⟩
theorem sub_fq {a b : Int} (ha : inb a) (hb : inb b) : Fn (sub (fq a) (fq b)) ∧ R (sub (fq a) (fq b)) * 2048 = (a : Rat) - (b : Rat) := by
  have ⟨fa, ra⟩ := fq_ok ha.1 ha.2
  have ⟨fb, rb⟩ := fq_ok hb.1 hb.2
  have ⟨a0, a1⟩ := inb_b ha
  have ⟨b0, b1⟩ := inb_b hb
  have o := (Op.sub fa fb (by grind) (by grind)).is (n := (a - b) * 2) (by unfold inb at *; lia) (by
    rw [Rat.intCast_mul, Rat.intCast_sub, show ((2 : Int) : Rat) = 2 from rfl]; grind)
  refine ⟨o.1, ?_⟩
  have := o.2
  rw [Rat.intCast_mul, Rat.intCast_sub, show ((2 : Int) : Rat) = 2 from rfl] at this
  grind
theorem add_fq {a b : Int} (ha : inb a) (hb : inb b) : Fn (add (fq a) (fq b)) ∧ R (add (fq a) (fq b)) * 2048 = (a : Rat) + (b : Rat) := by
  have ⟨fa, ra⟩ := fq_ok ha.1 ha.2
  have ⟨fb, rb⟩ := fq_ok hb.1 hb.2
  have ⟨a0, a1⟩ := inb_b ha
  have ⟨b0, b1⟩ := inb_b hb
  have o := (Op.add fa fb (by grind) (by grind)).is (n := (a + b) * 2) (by unfold inb at *; lia) (by
    rw [Rat.intCast_mul, Rat.intCast_add, show ((2 : Int) : Rat) = 2 from rfl]; grind)
  refine ⟨o.1, ?_⟩
  have := o.2
  rw [Rat.intCast_mul, Rat.intCast_add, show ((2 : Int) : Rat) = 2 from rfl] at this
  grind
theorem rneg {a b : Int} (h : a ≠ b) : (a : Rat) ≠ (b : Rat) := fun e => h (by exact_mod_cast e)
theorem light_ok {a b : Int} (ha : inb a) (hb : inb b) : Fn (div (add (fq a) (fq b)) f2) ∧ R (div (add (fq a) (fq b)) f2) * 4096 = (a : Rat) + (b : Rat) := by
  have ⟨f, r⟩ := add_fq ha hb
  have ⟨a0, a1⟩ := inb_b ha
  have ⟨b0, b1⟩ := inb_b hb
  have ⟨f2f, f2r⟩ := f2_ok
  have o := (Op.div (q := R (add (fq a) (fq b)) / 2) f f2f (by rw [f2r]; decide) (by rw [f2r]; grind) (by grind) (by grind)).is (n := a + b) (by unfold inb at *; lia) (by
    rw [Rat.intCast_add]; grind)
  refine ⟨o.1, ?_⟩
  have := o.2
  rw [Rat.intCast_add] at this
  exact this
theorem least_ok {M m : Int} (hM : inb M) (hm : inb m) : back (sub (mul (fI 2) (div (add (fq M) (fq m)) f2)) (fq M)) = some m := by
  have ⟨f, r⟩ := light_ok hM hm
  have ⟨fM, rM⟩ := fq_ok hM.1 hM.2
  have ⟨a0, a1⟩ := inb_b hM
  have ⟨b0, b1⟩ := inb_b hm
  have ⟨f2f, f2r⟩ := fI_ok (i := 2) (by decide) (by decide)
  rw [show ((2 : Int) : Rat) = 2 from rfl] at f2r
  have o := (Op.mul f2f f (by rw [f2r]; grind) (by rw [f2r]; grind)).is (n := (M + m) * 2) (by unfold inb at *; lia) (by
    rw [Rat.intCast_mul, Rat.intCast_add, f2r, show ((2 : Int) : Rat) = 2 from rfl]; grind)
  have o2 := o.2
  rw [Rat.intCast_mul, Rat.intCast_add, show ((2 : Int) : Rat) = 2 from rfl] at o2
  have p := Op.sub o.1 fM (by grind) (by grind)
  exact back_ok p.fn hm.1 (by have := hm.2; lia) (by have := p.lo; grind) (by have := p.up; grind)
theorem most_ok {M : Int} (hM : inb M) : back (fq M) = some M := by
  have ⟨fM, rM⟩ := fq_ok hM.1 hM.2
  exact back_ok fM hM.1 (by have := hM.2; lia) (by grind) (by grind)
theorem notzero {x : UInt64} (hf : Fn x) {s z : Rat} (h : R x * s = z) (hz : z ≠ 0) : isZero x = false := by
  rw [isZero_R hf]
  exact decide_eq_false (fun e => hz (by rw [← h, e, Rat.zero_mul]))
theorem two_ok {M m : Int} (hM : inb M) (hm : inb m) : isZero (sub (sub f2 (fq M)) (fq m)) = false := by
  have ⟨fM, rM⟩ := fq_ok hM.1 hM.2
  have ⟨fm, rm⟩ := fq_ok hm.1 hm.2
  have ⟨a0, a1⟩ := inb_b hM
  have ⟨b0, b1⟩ := inb_b hm
  have ⟨f2f, f2r⟩ := f2_ok
  have o := Op.sub f2f fM (by rw [f2r]; grind) (by rw [f2r]; grind)
  rw [f2r] at o
  have u := o.up
  have l := o.lo
  have p := Op.sub o.fn fm (by grind) (by grind)
  rw [isZero_R p.fn]
  exact decide_eq_false (fun e => by have := p.lo; grind)
end Mine.Q
end

section
open PySem PySem.Float64
set_option Elab.async false
set_option linter.unusedVariables false
set_option maxRecDepth 100000
set_option exponentiation.threshold 3000
namespace Mine.Q

theorem part_ok {M m x : Int} (hM : inb M) (hm : inb m) (hx : inb x) (h : m < M) (h1 : m ≤ x) (h2 : x ≤ M) :
    ∃ q : Rat, 0 ≤ q ∧ q ≤ 1 ∧ q * ((M : Rat) - (m : Rat)) = (M : Rat) - (x : Rat) ∧ Op (div (sub (fq M) (fq x)) (sub (fq M) (fq m))) q := by
  have ⟨fx, rx⟩ := sub_fq hM hx
  have ⟨fr, rr⟩ := sub_fq hM hm
  have a := iclt h
  have b := icle h1
  have c := icle h2
  have D0 : (0 : Rat) < (M : Rat) - (m : Rat) := by grind
  have e := divm D0 ((M : Rat) - (x : Rat))
  refine ⟨((M : Rat) - (x : Rat)) / ((M : Rat) - (m : Rat)), ?_, ?_, ?_, ?_⟩
  · exact cancel D0 (by rw [e]; grind)
  · exact cancel D0 (by rw [e]; grind)
  · rw [Rat.mul_comm]; exact e
  · refine Op.div fx fr (fun h0 => ?_) ?_ ?_ ?_
    · rw [h0] at rr; grind
    · generalize ((M : Rat) - (x : Rat)) / ((M : Rat) - (m : Rat)) = q at *
      have : q * (R (sub (fq M) (fq m)) * 2048) = R (sub (fq M) (fq x)) * 2048 := by rw [rr, rx, Rat.mul_comm]; exact e
      grind
    · have := cancel D0 (x := ((M : Rat) - (x : Rat)) / ((M : Rat) - (m : Rat))) (y := 1) (by rw [e]; grind)
      grind
    · have := cancel D0 (x := 0) (y := ((M : Rat) - (x : Rat)) / ((M : Rat) - (m : Rat))) (by rw [e]; grind)
      grind
/-- the whole turn, all but what the roundings take -/
structure Turn (t : UInt64) (T : Rat) : Prop where
  fn : Fn t
  up : R t ≤ T + 5 * eta
  lo : T ≤ R t + 5 * eta
  zero : T = 0 → R t = 0
  ge : -1 ≤ T
  le : T ≤ 5
  pos : 0 < T → 1 / 1999 ≤ T
  neg : T < 0 → T ≤ -1 / 1999
theorem turn_ok {a b c M m : Int} (ha : inb a) (hb : inb b) (hc : inb c) (eM : max3 a b c = M) (em : min3 a b c = m) (h : m < M) :
    ∃ T : Rat, Turn (turnF (fq a) (fq b) (fq c)) T ∧
      ((a = M ∧ T * ((M : Rat) - (m : Rat)) = (b : Rat) - (c : Rat)) ∨
       (a ≠ M ∧ b = M ∧ T * ((M : Rat) - (m : Rat)) = 2 * ((M : Rat) - (m : Rat)) + ((c : Rat) - (a : Rat)) ∧ 1 ≤ T) ∨
       (a ≠ M ∧ b ≠ M ∧ c = M ∧ T * ((M : Rat) - (m : Rat)) = 4 * ((M : Rat) - (m : Rat)) + ((a : Rat) - (b : Rat)) ∧ 1 ≤ T)) := by
  have bd := bnd3 ha hb hc eM em
  obtain ⟨hM, hm, ba, bb, bc, cs⟩ := bd
  obtain ⟨qa, qa0, qa1, qaD, oa⟩ := part_ok hM hm ha h ba.1 ba.2
  obtain ⟨qb, qb0, qb1, qbD, ob⟩ := part_ok hM hm hb h bb.1 bb.2
  obtain ⟨qc, qc0, qc1, qcD, oc⟩ := part_ok hM hm hc h bc.1 bc.2
  have ⟨f2f, f2r⟩ := f2_ok
  have ⟨f4f, f4r⟩ := f4_ok
  have ua := oa.up; have la := oa.lo
  have ub := ob.up; have lb := ob.lo
  have uc := oc.up; have lc := oc.lo
  unfold turnF part rangeF
  rw [mx_fq ha hb hc, mn_fq ha hb hc, eM, em, fq_eq ha hM, fq_eq hb hM]
  by_cases h1 : a = M
  · rw [decide_eq_true h1, if_pos rfl]
    have o := Op.sub oc.fn ob.fn (by grind) (by grind)
    have u := o.up; have l := o.lo
    have hD : (1 : Rat) ≤ (M : Rat) - (m : Rat) := by
      have := icle (show m + 1 ≤ M by lia)
      rw [Rat.intCast_add, show ((1 : Int) : Rat) = 1 from rfl] at this
      grind
    have hD2 : (M : Rat) - (m : Rat) ≤ 1999 := by
      have := inb_b hM; have := inb_b hm; grind
    have TD : (qc - qb) * ((M : Rat) - (m : Rat)) = (b : Rat) - (c : Rat) := by grind
    generalize hDD : (M : Rat) - (m : Rat) = D at *
    refine ⟨qc - qb, ⟨o.fn, by grind, by grind, fun h0 => ?_, by grind, by grind, fun h0 => ?_, fun h0 => ?_⟩, .inl ⟨h1, TD⟩⟩
    · have e : (b : Rat) = (c : Rat) := by rw [h0, Rat.zero_mul] at TD; grind
      have e2 : b = c := by exact_mod_cast e
      subst e2
      have := o.ex 0 (by decide) (by rw [show ((0 : Int) : Rat) = 0 from rfl]; grind)
      rw [this]; grind
    · have p := Rat.mul_pos h0 (show 0 < D by grind)
      have p2 : (c : Rat) < (b : Rat) := by grind
      have p3 : c < b := by exact_mod_cast p2
      have p4 := icle (show c + 1 ≤ b by lia)
      rw [Rat.intCast_add, show ((1 : Int) : Rat) = 1 from rfl] at p4
      have p5 := Rat.mul_nonneg (Rat.le_of_lt h0) (show 0 ≤ 1999 - D by grind)
      grind
    · have p := Rat.mul_pos (show 0 < -(qc - qb) by grind) (show 0 < D by grind)
      have p2 : (b : Rat) < (c : Rat) := by grind
      have p3 : b < c := by exact_mod_cast p2
      have p4 := icle (show b + 1 ≤ c by lia)
      rw [Rat.intCast_add, show ((1 : Int) : Rat) = 1 from rfl] at p4
      have p5 := Rat.mul_nonneg (show 0 ≤ -(qc - qb) by grind) (show 0 ≤ 1999 - D by grind)
      grind
  · rw [decide_eq_false h1, if_neg (by decide)]
    by_cases h2 : b = M
    · rw [decide_eq_true h2, if_pos rfl]
      have o1 := Op.add f2f oa.fn (by grind) (by grind)
      have u1 := o1.up; have l1 := o1.lo
      have o := Op.sub o1.fn oc.fn (by grind) (by grind)
      have u := o.up; have l := o.lo
      refine ⟨2 + qa - qc, ⟨o.fn, by grind, by grind, fun h0 => by grind, by grind, by grind, fun h0 => by grind, fun h0 => by grind⟩, .inr (.inl ⟨h1, h2, by grind, by grind⟩)⟩
    · rw [decide_eq_false h2, if_neg (by decide)]
      have o1 := Op.add f4f ob.fn (by grind) (by grind)
      have u1 := o1.up; have l1 := o1.lo
      have o := Op.sub o1.fn oa.fn (by grind) (by grind)
      have u := o.up; have l := o.lo
      have h3 : c = M := by lia
      refine ⟨4 + qb - qa, ⟨o.fn, by grind, by grind, fun h0 => by grind, by grind, by grind, fun h0 => by grind, fun h0 => by grind⟩, .inr (.inr ⟨h1, h2, h3, by grind, by grind⟩)⟩
/-- the hue, in sixths -/
structure Sixth (h : UInt64) (P : Rat) : Prop where
  fh : Fn h
  fn : Fn (mul h f6)
  up : R (mul h f6) ≤ P + 32 * eta
  lo : P ≤ R (mul h f6) + 32 * eta
  ge : 0 ≤ R (mul h f6)
  lt : R (mul h f6) < 6
theorem sixth_ok {t : UInt64} {T : Rat} (h : Turn t T) : Sixth (divmod (div t f6) f1).2 (if T < 0 then T + 6 else T) := by
  have ⟨f6f, f6r⟩ := f6_ok
  have u := h.up; have l := h.lo; have ge := h.ge; have le := h.le
  have o := Op.div (q := R t / 6) h.fn f6f (by rw [f6r]; decide) (by rw [f6r]; grind) (by grind) (by grind)
  have u1 := o.up; have l1 := o.lo
  have ⟨d1, d2⟩ := divmod_one o.fn (by grind) (by grind)
  by_cases hn : T < 0
  · rw [if_pos hn]
    have := h.neg hn
    have r := d2 (by grind)
    have u2 := r.up; have l2 := r.lo
    have e0 := err0
    have p := Op.mul r.fn f6f (by rw [f6r]; grind) (by rw [f6r]; grind)
    have u3 := p.up; have l3 := p.lo
    rw [f6r] at u3 l3
    exact ⟨r.fn, p.fn, by grind, by grind, by grind, by grind⟩
  · rw [if_neg hn]
    by_cases h0 : T = 0
    · have z := h.zero h0
      have z1 := o.ex 0 (by decide) (by rw [z, show ((0 : Int) : Rat) = 0 from rfl]; grind)
      have r := d1 (by rw [z1, z]; grind)
      have z2 : R (divmod (div t f6) f1).2 = 0 := by rw [r.2, z1, z]; grind
      have p := Op.mul r.1 f6f (by rw [z2]; grind) (by rw [z2]; grind)
      have z3 := p.ex 0 (by decide) (by rw [z2, show ((0 : Int) : Rat) = 0 from rfl]; grind)
      have z4 : R (mul (divmod (div t f6) f1).2 f6) = 0 := by rw [z3, z2]; grind
      exact ⟨r.1, p.fn, by rw [z4]; grind, by rw [z4]; grind, by rw [z4]; grind, by rw [z4]; grind⟩
    · have := h.pos (by grind)
      have r := d1 (by grind)
      have p := Op.mul r.1 f6f (by rw [f6r, r.2]; grind) (by rw [f6r, r.2]; grind)
      have u3 := p.up; have l3 := p.lo
      rw [f6r, r.2] at u3 l3
      exact ⟨r.1, p.fn, by grind, by grind, by grind, by grind⟩
end Mine.Q
end

section
open PySem PySem.Float64
set_option Elab.async false
set_option linter.unusedVariables false
set_option maxRecDepth 100000
set_option exponentiation.threshold 3000
namespace Mine.Q

theorem far {X S f A : Rat} {n c : Int} (f0 : 0 ≤ f) (f1 : f ≤ 1) (hp : S ≤ 2 * (c : Rat) + f + 32 * eta ∧ 2 * (c : Rat) + f ≤ S + 32 * eta ∨ S ≤ 2 * (c : Rat) - f + 32 * eta ∧ 2 * (c : Rat) - f ≤ S + 32 * eta)
    (n1 : S ≤ 2 * (n : Rat) + 1 + 8 * eta) (n2 : 2 * (n : Rat) - 1 - 8 * eta ≤ S) (x1 : X ≤ S - 2 * (n : Rat) + eta) (x2 : S - 2 * (n : Rat) ≤ X + eta) (a1 : 0 ≤ X → A = X) (a2 : X ≤ 0 → A = -X) : A ≤ f + 200 * eta ∧ f ≤ A + 200 * eta := by
  have hA : (0 ≤ X ∧ A = X) ∨ (X ≤ 0 ∧ A = -X) := by
    by_cases h : 0 ≤ X
    · exact .inl ⟨h, a1 h⟩
    · exact .inr ⟨by grind, a2 (by grind)⟩
  clear a1 a2
  have cs : c = n ∨ n + 1 ≤ c ∨ c + 1 ≤ n := by lia
  rcases cs with h | h | h
  · subst h
    rcases hp with ⟨p1, p2⟩ | ⟨p1, p2⟩ <;> rcases hA with ⟨q1, q2⟩ | ⟨q1, q2⟩ <;> constructor <;> grind
  · have h := icle h
    rw [Rat.intCast_add, show ((1 : Int) : Rat) = 1 from rfl] at h
    rcases hp with ⟨p1, p2⟩ | ⟨p1, p2⟩ <;> rcases hA with ⟨q1, q2⟩ | ⟨q1, q2⟩ <;> constructor <;> grind
  · have h := icle h
    rw [Rat.intCast_add, show ((1 : Int) : Rat) = 1 from rfl] at h
    rcases hp with ⟨p1, p2⟩ | ⟨p1, p2⟩ <;> rcases hA with ⟨q1, q2⟩ | ⟨q1, q2⟩ <;> constructor <;> grind
theorem bmul {x d D : Rat} (h1 : x ≤ d) (D0 : 0 ≤ D) : x * D ≤ d * D := Rat.mul_le_mul_of_nonneg_right h1 D0
theorem away_ok {s : UInt64} (hs : Fn s) (s0 : 0 ≤ R s) (s6 : R s < 6) {f : Rat} {c D k : Int} (f0 : 0 ≤ f) (f1 : f ≤ 1) (hD : 0 ≤ D) (hD2 : D ≤ 1999) (hk : f * (D : Rat) = (k : Rat))
    (hp : R s ≤ 2 * (c : Rat) + f + 32 * eta ∧ 2 * (c : Rat) + f ≤ R s + 32 * eta ∨ R s ≤ 2 * (c : Rat) - f + 32 * eta ∧ 2 * (c : Rat) - f ≤ R s + 32 * eta) :
    ∃ i, toI (add (div s (fI 2)) fhalf) = some i ∧ isInf (fI (2 * i)) = false ∧ (2 * i).natAbs < 2 ^ 64 ∧
      toI (add (mul (Float64.abs (sub s (fI (2 * i)))) (fI D)) fhalf) = some k := by
  have ⟨f2f, f2r⟩ := fI_ok (i := 2) (by decide) (by decide)
  rw [show ((2 : Int) : Rat) = 2 from rfl] at f2r
  have ⟨hf, hr⟩ := fhalf_ok
  have o := Op.div (q := R s / 2) hs f2f (by rw [f2r]; decide) (by rw [f2r]; grind) (by grind) (by grind)
  have u := o.up; have l := o.lo
  have o2 := Op.add o.fn hf (by grind) (by grind)
  have u2 := o2.up; have l2 := o2.lo
  have D0 := icle hD
  have D1 := icle hD2
  rw [show ((0 : Int) : Rat) = 0 from rfl] at D0
  rw [show ((1999 : Int) : Rat) = 1999 from rfl] at D1
  have k0 : 0 ≤ k := by
    have := Rat.mul_nonneg f0 D0
    rw [hk] at this
    exact_mod_cast this
  have k1 : k ≤ D := by
    have := bmul f1 D0
    rw [hk, Rat.one_mul] at this
    exact_mod_cast this
  have fin : ∀ n : Nat, n ≤ 3 → ((n : Int) : Rat) ≤ R (add (div s (fI 2)) fhalf) → R (add (div s (fI 2)) fhalf) < (((n + 1 : Nat) : Int) : Rat) → ∃ i, toI (add (div s (fI 2)) fhalf) = some i ∧ isInf (fI (2 * i)) = false ∧ (2 * i).natAbs < 2 ^ 64 ∧
      toI (add (mul (Float64.abs (sub s (fI (2 * i)))) (fI D)) fhalf) = some k := by
    intro n hn l3 u3
    have ⟨ff, fr⟩ := fI_ok (i := 2 * (n : Int)) (by lia) (by lia)
    refine ⟨(n : Int), toI_floor o2.fn l3 u3, ff.inf, by lia, ?_⟩
    rw [Rat.intCast_mul, show ((2 : Int) : Rat) = 2 from rfl] at fr
    rw [show (((n + 1 : Nat) : Int) : Rat) = ((n : Int) : Rat) + 1 by rw [Int.natCast_add, Rat.intCast_add]; rfl] at u3
    have n0 := icle (show (0 : Int) ≤ (n : Int) by lia)
    have n3 := icle (show (n : Int) ≤ 3 by lia)
    rw [show ((0 : Int) : Rat) = 0 from rfl] at n0
    rw [show ((3 : Int) : Rat) = 3 from rfl] at n3
    have o4 := Op.sub hs ff (by rw [fr]; grind) (by rw [fr]; grind)
    have u4 := o4.up; have l4 := o4.lo
    rw [fr] at u4 l4
    have ⟨af, ap, an⟩ := abs_R o4.fn
    have ⟨e1, e2⟩ := far f0 f1 hp (n := (n : Int)) (by grind) (by grind) u4 l4 ap an
    have ⟨df, dr⟩ := fI_ok (i := D) (by lia) (by lia)
    have b1 := bmul e1 D0
    have b2 := bmul e2 D0
    generalize hA : R (Float64.abs (sub s (fI (2 * (n : Int))))) = A at *
    have c1 : A * (D : Rat) ≤ (k : Rat) + 200 * eta * (D : Rat) := by grind
    have c2 : (k : Rat) ≤ A * (D : Rat) + 200 * eta * (D : Rat) := by grind
    have k0' := icle k0
    have k1' := icle k1
    rw [show ((0 : Int) : Rat) = 0 from rfl] at k0'
    have o5 := Op.mul af df (by rw [hA, dr]; grind) (by rw [hA, dr]; grind)
    have u5 := o5.up; have l5 := o5.lo
    rw [hA, dr] at u5 l5
    exact round_ok o5.fn k0 (by lia) (by grind) (by grind)
  generalize hY : R (add (div s (fI 2)) fhalf) = Y at *
  by_cases h1 : Y < 1
  · exact fin 0 (by decide) (by rw [show (((0 : Nat) : Int) : Rat) = 0 from rfl]; grind) (by rw [show (((0 + 1 : Nat) : Int) : Rat) = 1 from rfl]; grind)
  · by_cases h2 : Y < 2
    · exact fin 1 (by decide) (by rw [show (((1 : Nat) : Int) : Rat) = 1 from rfl]; grind) (by rw [show (((1 + 1 : Nat) : Int) : Rat) = 2 from rfl]; grind)
    · by_cases h3 : Y < 3
      · exact fin 2 (by decide) (by rw [show (((2 : Nat) : Int) : Rat) = 2 from rfl]; grind) (by rw [show (((2 + 1 : Nat) : Int) : Rat) = 3 from rfl]; grind)
      · exact fin 3 (by decide) (by rw [show (((3 : Nat) : Int) : Rat) = 3 from rfl]; grind) (by rw [show (((3 + 1 : Nat) : Int) : Rat) = 4 from rfl]; grind)
end Mine.Q
end

section
open PySem PySem.Float64
set_option Elab.async false
set_option linter.unusedVariables false
set_option maxRecDepth 100000
set_option exponentiation.threshold 3000
namespace Mine.Q

theorem pm {x y a b : Rat} (h1 : x ≤ a) (h2 : -a ≤ x) (h3 : y ≤ b) (h4 : -b ≤ y) : x * y ≤ a * b ∧ -(a * b) ≤ x * y := by
  have p1 := Rat.mul_nonneg (show 0 ≤ a - x by grind) (show 0 ≤ b + y by grind)
  have p2 := Rat.mul_nonneg (show 0 ≤ a + x by grind) (show 0 ≤ b - y by grind)
  have p3 := Rat.mul_nonneg (show 0 ≤ a - x by grind) (show 0 ≤ b - y by grind)
  have p4 := Rat.mul_nonneg (show 0 ≤ a + x by grind) (show 0 ≤ b + y by grind)
  constructor <;> grind
/-- 2048 times the float is z, all but -/
structure Nr (x : UInt64) (z : Rat) : Prop where
  fn : Fn x
  up : R x * 2048 ≤ z + 1 / 64
  lo : z ≤ R x * 2048 + 1 / 64
theorem Nr.back {x : UInt64} {z : Rat} {n : Int} (h : Nr x z) (hn : inb n) (h1 : z ≤ (n : Rat) + 1 / 16) (h2 : (n : Rat) ≤ z + 1 / 16) : back x = some n := by
  have u := h.up; have l := h.lo
  exact back_ok h.fn hn.1 (by have := hn.2; lia) (by grind) (by grind)
/-- v * (1 - y) -/
theorem mix {v y : UInt64} {M Y : Rat} (hv : Fn v) (hy : Fn y) (rv : R v * 2048 = M) (M0 : 0 ≤ M) (M1 : M ≤ 1999) (y1 : R y ≤ Y + 8 * eta) (y2 : Y ≤ R y + 8 * eta) (Y1 : Y ≤ 2) (Y2 : -2 ≤ Y) :
    Fn (mul v (sub f1 y)) ∧ R (mul v (sub f1 y)) * 2048 ≤ M - M * Y + 1 / 65536 ∧ M - M * Y ≤ R (mul v (sub f1 y)) * 2048 + 1 / 65536 := by
  have o := Op.sub f1_fn hy (by rw [f1_R]; grind) (by rw [f1_R]; grind)
  have u := o.up; have l := o.lo
  rw [f1_R] at u l
  have hw : ∃ w : Rat, R (sub f1 y) = 1 - Y + w ∧ w ≤ 9 * eta ∧ -(9 * eta) ≤ w := ⟨R (sub f1 y) - (1 - Y), by grind, by grind, by grind⟩
  obtain ⟨w, hw, w1, w2⟩ := hw
  have p := pm (x := M) (y := w) (a := 1999) M1 (by grind) w1 w2
  have q := pm (x := M) (y := Y) (a := 1999) (b := 2) M1 (by grind) Y1 Y2
  have e : R v * R (sub f1 y) * 2048 = M - M * Y + M * w := by rw [hw]; grind
  have o2 := Op.mul hv o.fn (by grind) (by grind)
  have u2 := o2.up; have l2 := o2.lo
  exact ⟨o2.fn, by grind, by grind⟩
/-- v * (1 - s * g) -/
theorem mix2 {v s g : UInt64} {M D σ : Rat} (hv : Fn v) (hs : Fn s) (hg : Fn g) (rv : R v * 2048 = M) (M0 : 0 ≤ M) (M1 : M ≤ 1999) (s1 : R s ≤ σ + eta) (s2 : σ ≤ R s + eta) (S1 : σ ≤ 1) (S2 : 0 ≤ σ) (hD : σ * M = D)
    (g1 : R g ≤ 3 / 2) (g2 : -(3 / 2) ≤ R g) :
    Fn (mul v (sub f1 (mul s g))) ∧ R (mul v (sub f1 (mul s g))) * 2048 ≤ M - D * R g + 1 / 65536 ∧ M - D * R g ≤ R (mul v (sub f1 (mul s g))) * 2048 + 1 / 65536 := by
  have hw : ∃ w : Rat, R s = σ + w ∧ w ≤ eta ∧ -eta ≤ w := ⟨R s - σ, by grind, by grind, by grind⟩
  obtain ⟨w, hw, w1, w2⟩ := hw
  have p := pm (x := w) (y := R g) w1 w2 g1 g2
  have q := pm (x := σ) (y := R g) S1 (by grind) g1 g2
  have e : R s * R g = σ * R g + w * R g := by rw [hw]; grind
  have o := Op.mul hs hg (by grind) (by grind)
  have u := o.up; have l := o.lo
  have := mix (Y := σ * R g) hv o.fn rv M0 M1 (by grind) (by grind) (by grind) (by grind)
  have e2 : M * (σ * R g) = D * R g := by rw [← hD]; grind
  rw [e2] at this
  exact this
theorem paint_at {h : UInt64} {P : Rat} (S : Sixth h P) {M m : Int} (hM : inb M) (hm : inb m) (hlt : m < M) (i : Int) (i0 : 0 ≤ i) (i5 : i ≤ 5) (hi1 : (i : Rat) ≤ R (mul h f6)) (hi2 : R (mul h f6) ≤ (i : Rat) + 1) :
    ∃ X : Rat, X ≤ ((M : Rat) - (m : Rat)) * P + 1 / 64 ∧ ((M : Rat) - (m : Rat)) * P ≤ X + 1 / 64 ∧ ((M : Rat) - (m : Rat)) * (i : Rat) ≤ X ∧ X ≤ ((M : Rat) - (m : Rat)) * ((i : Rat) + 1) ∧
      Nr (fq M) (M : Rat) ∧ Nr (pF (div (sub (fq M) (fq m)) (fq M)) (fq M)) (m : Rat) ∧
      Nr (qF h (div (sub (fq M) (fq m)) (fq M)) (fq M) i) ((M : Rat) - (X - ((M : Rat) - (m : Rat)) * (i : Rat))) ∧
      Nr (tF h (div (sub (fq M) (fq m)) (fq M)) (fq M) i) ((m : Rat) + (X - ((M : Rat) - (m : Rat)) * (i : Rat))) := by
  have ⟨fM, rM⟩ := fq_ok hM.1 hM.2
  have ⟨fr, rr⟩ := sub_fq hM hm
  have ⟨M0, M1⟩ := inb_b hM
  have ⟨m0, m1⟩ := inb_b hm
  have lt := iclt hlt
  have Mp : (0 : Rat) < (M : Rat) := by grind
  have eσ := divm Mp ((M : Rat) - (m : Rat))
  generalize hσ : ((M : Rat) - (m : Rat)) / (M : Rat) = σ at *
  have σ0 : 0 ≤ σ := cancel Mp (by rw [eσ]; grind)
  have σ1 : σ ≤ 1 := cancel Mp (by rw [eσ]; grind)
  have os := Op.div (q := σ) fr fM (fun h0 => by rw [h0] at rM; grind) (by
    have : σ * (R (fq M) * 2048) = R (sub (fq M) (fq m)) * 2048 := by rw [rM, rr, Rat.mul_comm]; exact eσ
    grind) (by grind) (by grind)
  have us := os.up; have ls := os.lo
  have ⟨fi, ri⟩ := fI_ok (i := i) (by lia) (by lia)
  have u6 := S.up; have l6 := S.lo
  have of := Op.sub S.fn fi (by rw [ri]; grind) (by rw [ri]; grind)
  have uf := of.up; have lf := of.lo
  rw [ri] at uf lf
  have D0 : (0 : Rat) ≤ (M : Rat) - (m : Rat) := by grind
  have D1 : (M : Rat) - (m : Rat) ≤ 1999 := by grind
  have eσ2 : σ * (M : Rat) = (M : Rat) - (m : Rat) := by rw [Rat.mul_comm]; exact eσ
  have og := Op.sub f1_fn of.fn (by rw [f1_R]; grind) (by rw [f1_R]; grind)
  have ug := og.up; have lg := og.lo
  rw [f1_R] at ug lg
  have mp := mix (Y := σ) fM os.fn rM M0 M1 (by grind) (by grind) (by grind) (by grind)
  have mq := mix2 fM os.fn of.fn rM M0 M1 us ls σ1 σ0 eσ2 (by grind) (by grind)
  have mt := mix2 fM os.fn og.fn rM M0 M1 us ls σ1 σ0 eσ2 (by grind) (by grind)
  have em : (M : Rat) - (M : Rat) * σ = (m : Rat) := by grind
  rw [em] at mp
  generalize hF : R (sub (mul h f6) (ofInt i)) = F at *
  generalize hG : R (sub f1 (sub (mul h f6) (ofInt i))) = G at *
  generalize hS : R (mul h f6) = Z at *
  generalize hD : (M : Rat) - (m : Rat) = D at *
  have w1 := Rat.mul_nonneg D0 (show 0 ≤ F - (Z - i) + eta by grind)
  have w2 := Rat.mul_nonneg D0 (show 0 ≤ (Z - i) - F + eta by grind)
  have w3 := Rat.mul_nonneg D0 (show 0 ≤ G - (1 - F) + eta by grind)
  have w4 := Rat.mul_nonneg D0 (show 0 ≤ (1 - F) - G + eta by grind)
  have w5 := Rat.mul_nonneg D0 (show 0 ≤ P - Z + 32 * eta by grind)
  have w6 := Rat.mul_nonneg D0 (show 0 ≤ Z - P + 32 * eta by grind)
  have w7 := Rat.mul_nonneg D0 (show 0 ≤ Z - i by grind)
  have w8 := Rat.mul_nonneg D0 (show 0 ≤ (i : Rat) + 1 - Z by grind)
  refine ⟨D * Z, by grind, by grind, by grind, by grind, ⟨fM, by grind, by grind⟩, ⟨mp.1, ?_, ?_⟩, ⟨mq.1, ?_, ?_⟩, ⟨mt.1, ?_, ?_⟩⟩
  · have := mp.2.1; unfold pF; grind
  · have := mp.2.2; unfold pF; grind
  · have := mq.2.1; unfold qF fracF; grind
  · have := mq.2.2; unfold qF fracF; grind
  · have := mt.2.1; unfold tF fracF; grind
  · have := mt.2.2; unfold tF fracF; grind
end Mine.Q
end

section
open PySem PySem.Float64
set_option Elab.async false
set_option linter.unusedVariables false
set_option maxRecDepth 100000
set_option exponentiation.threshold 3000
namespace Mine.Q

inductive Hex (a b c M m W : Rat) : Prop
  | c1 (h1 : a = M) (h2 : m = c) (h3 : W = b - c)
  | c2 (h1 : a = M) (h2 : m = b) (h3 : W = 6 * (M - m) + (b - c)) (h4 : b + 1 ≤ c)
  | c3 (h1 : b = M) (h2 : m = a) (h3 : W = 2 * (M - m) + (c - a))
  | c4 (h1 : b = M) (h2 : m = c) (h3 : W = 2 * (M - m) + (c - a))
  | c5 (h1 : c = M) (h2 : m = b) (h3 : W = 4 * (M - m) + (a - b))
  | c6 (h1 : c = M) (h2 : m = a) (h3 : W = 4 * (M - m) + (a - b))
theorem near2 {z n : Rat} (h1 : z ≤ n + 1 / 16) (h2 : n ≤ z + 1 / 16) : z ≤ n + 1 / 16 ∧ n ≤ z + 1 / 16 := ⟨h1, h2⟩
section
variable {a b c M m W X : Rat} (H : Hex a b c M m W) (hD : 1 ≤ M - m) (a1 : m ≤ a) (a2 : a ≤ M) (b1 : m ≤ b) (b2 : b ≤ M) (c1 : m ≤ c) (c2 : c ≤ M) (x1 : X ≤ W + 1 / 64) (x2 : W ≤ X + 1 / 64)
include H hD a1 a2 b1 b2 c1 c2 x1 x2
theorem hex0 (l : (M - m) * 0 ≤ X) (u : X ≤ (M - m) * (0 + 1)) : (M ≤ a + 1 / 16 ∧ a ≤ M + 1 / 16) ∧ (m + (X - (M - m) * 0) ≤ b + 1 / 16 ∧ b ≤ m + (X - (M - m) * 0) + 1 / 16) ∧ (m ≤ c + 1 / 16 ∧ c ≤ m + 1 / 16) := by
  cases H <;> refine ⟨⟨?_, ?_⟩, ⟨?_, ?_⟩, ?_, ?_⟩ <;> grind
theorem hex1 (l : (M - m) * 1 ≤ X) (u : X ≤ (M - m) * (1 + 1)) : (M - (X - (M - m) * 1) ≤ a + 1 / 16 ∧ a ≤ M - (X - (M - m) * 1) + 1 / 16) ∧ (M ≤ b + 1 / 16 ∧ b ≤ M + 1 / 16) ∧ (m ≤ c + 1 / 16 ∧ c ≤ m + 1 / 16) := by
  cases H <;> refine ⟨⟨?_, ?_⟩, ⟨?_, ?_⟩, ?_, ?_⟩ <;> grind
theorem hex2 (l : (M - m) * 2 ≤ X) (u : X ≤ (M - m) * (2 + 1)) : (m ≤ a + 1 / 16 ∧ a ≤ m + 1 / 16) ∧ (M ≤ b + 1 / 16 ∧ b ≤ M + 1 / 16) ∧ (m + (X - (M - m) * 2) ≤ c + 1 / 16 ∧ c ≤ m + (X - (M - m) * 2) + 1 / 16) := by
  cases H <;> refine ⟨⟨?_, ?_⟩, ⟨?_, ?_⟩, ?_, ?_⟩ <;> grind
theorem hex3 (l : (M - m) * 3 ≤ X) (u : X ≤ (M - m) * (3 + 1)) : (m ≤ a + 1 / 16 ∧ a ≤ m + 1 / 16) ∧ (M - (X - (M - m) * 3) ≤ b + 1 / 16 ∧ b ≤ M - (X - (M - m) * 3) + 1 / 16) ∧ (M ≤ c + 1 / 16 ∧ c ≤ M + 1 / 16) := by
  cases H <;> refine ⟨⟨?_, ?_⟩, ⟨?_, ?_⟩, ?_, ?_⟩ <;> grind
theorem hex4 (l : (M - m) * 4 ≤ X) (u : X ≤ (M - m) * (4 + 1)) : (m + (X - (M - m) * 4) ≤ a + 1 / 16 ∧ a ≤ m + (X - (M - m) * 4) + 1 / 16) ∧ (m ≤ b + 1 / 16 ∧ b ≤ m + 1 / 16) ∧ (M ≤ c + 1 / 16 ∧ c ≤ M + 1 / 16) := by
  cases H <;> refine ⟨⟨?_, ?_⟩, ⟨?_, ?_⟩, ?_, ?_⟩ <;> grind
theorem hex5 (l : (M - m) * 5 ≤ X) (u : X ≤ (M - m) * (5 + 1)) : (M ≤ a + 1 / 16 ∧ a ≤ M + 1 / 16) ∧ (m ≤ b + 1 / 16 ∧ b ≤ m + 1 / 16) ∧ (M - (X - (M - m) * 5) ≤ c + 1 / 16 ∧ c ≤ M - (X - (M - m) * 5) + 1 / 16) := by
  cases H <;> refine ⟨⟨?_, ?_⟩, ⟨?_, ?_⟩, ?_, ?_⟩ <;> grind
end
theorem paint_ok {h : UInt64} {P : Rat} (S : Sixth h P) {a b c M m : Int} (ha : inb a) (hb : inb b) (hc : inb c) (hM : inb M) (hm : inb m) (hlt : m < M) (a1 : m ≤ a) (a2 : a ≤ M) (b1 : m ≤ b) (b2 : b ≤ M) (c1 : m ≤ c) (c2 : c ≤ M)
    (H : Hex (a : Rat) (b : Rat) (c : Rat) (M : Rat) (m : Rat) (((M : Rat) - (m : Rat)) * P)) :
    ∃ i, toI (mul h f6) = some i ∧ isInf (fI i) = false ∧
      back (rgbF h (div (sub (fq M) (fq m)) (fq M)) (fq M) i).1 = some a ∧
      back (rgbF h (div (sub (fq M) (fq m)) (fq M)) (fq M) i).2.1 = some b ∧
      back (rgbF h (div (sub (fq M) (fq m)) (fq M)) (fq M) i).2.2 = some c := by
  have hD : (1 : Rat) ≤ (M : Rat) - (m : Rat) := by
    have := icle (show m + 1 ≤ M by lia)
    rw [Rat.intCast_add, show ((1 : Int) : Rat) = 1 from rfl] at this
    grind
  have ra1 := icle a1; have ra2 := icle a2
  have rb1 := icle b1; have rb2 := icle b2
  have rc1 := icle c1; have rc2 := icle c2
  have ge := S.ge; have lt := S.lt
  have pa := fun (i : Int) (h0 : 0 ≤ i) (h5 : i ≤ 5) => paint_at S hM hm hlt i h0 h5
  have fi := fun (i : Int) (h0 : 0 ≤ i) (h5 : i ≤ 5) => (fI_ok (i := i) (by lia) (by lia)).1.inf
  have tf := fun (n : Nat) h1 h2 => toI_floor S.fn (n := n) h1 h2
  generalize hZ : R (mul h f6) = Z at *
  by_cases g1 : Z < 1
  · obtain ⟨X, x1, x2, l, u, nM, np, nq, nt⟩ := pa 0 (by decide) (by decide) (by rw [show ((0 : Int) : Rat) = 0 from rfl]; grind) (by rw [show ((0 : Int) : Rat) = 0 from rfl]; grind)
    rw [show ((0 : Int) : Rat) = 0 from rfl] at l u nq nt
    have ⟨⟨r1, r2⟩, ⟨r3, r4⟩, r5, r6⟩ := hex0 H hD ra1 ra2 rb1 rb2 rc1 rc2 x1 x2 l u
    exact ⟨0, tf 0 (by rw [show (((0 : Nat) : Int) : Rat) = 0 from rfl]; grind) (by rw [show (((0 + 1 : Nat) : Int) : Rat) = 1 from rfl]; grind), fi 0 (by decide) (by decide), nM.back ha r1 r2, nt.back hb r3 r4, np.back hc r5 r6⟩
  · by_cases g2 : Z < 2
    · obtain ⟨X, x1, x2, l, u, nM, np, nq, nt⟩ := pa 1 (by decide) (by decide) (by rw [show ((1 : Int) : Rat) = 1 from rfl]; grind) (by rw [show ((1 : Int) : Rat) = 1 from rfl]; grind)
      rw [show ((1 : Int) : Rat) = 1 from rfl] at l u nq nt
      have ⟨⟨r1, r2⟩, ⟨r3, r4⟩, r5, r6⟩ := hex1 H hD ra1 ra2 rb1 rb2 rc1 rc2 x1 x2 l u
      exact ⟨1, tf 1 (by rw [show (((1 : Nat) : Int) : Rat) = 1 from rfl]; grind) (by rw [show (((1 + 1 : Nat) : Int) : Rat) = 2 from rfl]; grind), fi 1 (by decide) (by decide), nq.back ha r1 r2, nM.back hb r3 r4, np.back hc r5 r6⟩
    · by_cases g3 : Z < 3
      · obtain ⟨X, x1, x2, l, u, nM, np, nq, nt⟩ := pa 2 (by decide) (by decide) (by rw [show ((2 : Int) : Rat) = 2 from rfl]; grind) (by rw [show ((2 : Int) : Rat) = 2 from rfl]; grind)
        rw [show ((2 : Int) : Rat) = 2 from rfl] at l u nq nt
        have ⟨⟨r1, r2⟩, ⟨r3, r4⟩, r5, r6⟩ := hex2 H hD ra1 ra2 rb1 rb2 rc1 rc2 x1 x2 l u
        exact ⟨2, tf 2 (by rw [show (((2 : Nat) : Int) : Rat) = 2 from rfl]; grind) (by rw [show (((2 + 1 : Nat) : Int) : Rat) = 3 from rfl]; grind), fi 2 (by decide) (by decide), np.back ha r1 r2, nM.back hb r3 r4, nt.back hc r5 r6⟩
      · by_cases g4 : Z < 4
        · obtain ⟨X, x1, x2, l, u, nM, np, nq, nt⟩ := pa 3 (by decide) (by decide) (by rw [show ((3 : Int) : Rat) = 3 from rfl]; grind) (by rw [show ((3 : Int) : Rat) = 3 from rfl]; grind)
          rw [show ((3 : Int) : Rat) = 3 from rfl] at l u nq nt
          have ⟨⟨r1, r2⟩, ⟨r3, r4⟩, r5, r6⟩ := hex3 H hD ra1 ra2 rb1 rb2 rc1 rc2 x1 x2 l u
          exact ⟨3, tf 3 (by rw [show (((3 : Nat) : Int) : Rat) = 3 from rfl]; grind) (by rw [show (((3 + 1 : Nat) : Int) : Rat) = 4 from rfl]; grind), fi 3 (by decide) (by decide), np.back ha r1 r2, nq.back hb r3 r4, nM.back hc r5 r6⟩
        · by_cases g5 : Z < 5
          · obtain ⟨X, x1, x2, l, u, nM, np, nq, nt⟩ := pa 4 (by decide) (by decide) (by rw [show ((4 : Int) : Rat) = 4 from rfl]; grind) (by rw [show ((4 : Int) : Rat) = 4 from rfl]; grind)
            rw [show ((4 : Int) : Rat) = 4 from rfl] at l u nq nt
            have ⟨⟨r1, r2⟩, ⟨r3, r4⟩, r5, r6⟩ := hex4 H hD ra1 ra2 rb1 rb2 rc1 rc2 x1 x2 l u
            exact ⟨4, tf 4 (by rw [show (((4 : Nat) : Int) : Rat) = 4 from rfl]; grind) (by rw [show (((4 + 1 : Nat) : Int) : Rat) = 5 from rfl]; grind), fi 4 (by decide) (by decide), nt.back ha r1 r2, np.back hb r3 r4, nM.back hc r5 r6⟩
          · obtain ⟨X, x1, x2, l, u, nM, np, nq, nt⟩ := pa 5 (by decide) (by decide) (by rw [show ((5 : Int) : Rat) = 5 from rfl]; grind) (by rw [show ((5 : Int) : Rat) = 5 from rfl]; grind)
            rw [show ((5 : Int) : Rat) = 5 from rfl] at l u nq nt
            have ⟨⟨r1, r2⟩, ⟨r3, r4⟩, r5, r6⟩ := hex5 H hD ra1 ra2 rb1 rb2 rc1 rc2 x1 x2 l u
            exact ⟨5, tf 5 (by rw [show (((5 : Nat) : Int) : Rat) = 5 from rfl]; grind) (by rw [show (((5 + 1 : Nat) : Int) : Rat) = 6 from rfl]; grind), fi 5 (by decide) (by decide), nM.back ha r1 r2, np.back hb r3 r4, nq.back hc r5 r6⟩
end Mine.Q
end

section
open PySem PySem.Float64
set_option Elab.async false
set_option linter.unusedVariables false
set_option maxRecDepth 100000
set_option exponentiation.threshold 3000
namespace Mine.Q

theorem flAll : ∀ a b c, inb a → inb b → inb c → FlOk a b c := by
  intro a b c ha hb hc
  obtain ⟨M, eM⟩ : ∃ M, max3 a b c = M := ⟨_, rfl⟩
  obtain ⟨m, em⟩ : ∃ m, min3 a b c = m := ⟨_, rfl⟩
  obtain ⟨hM, hm, ba, bb, bc, cs⟩ := bnd3 ha hb hc eM em
  have hmM := Int.le_trans ba.1 ba.2
  have cm := min3_mem a b c
  rw [em] at cm
  have fa := (fq_ok ha.1 ha.2).1
  have fb := (fq_ok hb.1 hb.2).1
  have fc := (fq_ok hc.1 hc.2).1
  have ⟨fr, rr⟩ := sub_fq hM hm
  have ⟨fs, rs⟩ := add_fq hM hm
  have ⟨fM, rM⟩ := fq_ok hM.1 hM.2
  have eqv : feq (fq m) (fq M) = decide (m = M) := fq_eq hm hM
  have ⟨M0, M1⟩ := inb_b hM
  have ⟨m0, m1⟩ := inb_b hm
  have D1999 : M - m ≤ 1999 := by have h1 := hM.2; have h2 := hm.1; clear ha hb hc eM em; lia
  have key : m < M → (hueF (fq a) (fq b) (fq c) = hueF (fq a) (fq b) (fq c)) ∧ ∃ P : Rat, Sixth (hueF (fq a) (fq b) (fq c)) P ∧ Hex (a : Rat) (b : Rat) (c : Rat) (M : Rat) (m : Rat) (((M : Rat) - (m : Rat)) * P) ∧
      ∃ (f : Rat) (k : Int), 0 ≤ f ∧ f ≤ 1 ∧ f * ((M - m : Int) : Rat) = ((a + b + c - M - 2 * m : Int) : Rat) ∧ (P = 2 * (k : Rat) + f ∨ P = 2 * (k : Rat) - f) := by
    intro hlt
    refine ⟨rfl, ?_⟩
    obtain ⟨T, ht, hT⟩ := turn_ok ha hb hc eM em hlt
    have hs := sixth_ok ht
    have lt := iclt hlt
    have ra1 := icle ba.1; have ra2 := icle ba.2
    have rb1 := icle bb.1; have rb2 := icle bb.2
    have rc1 := icle bc.1; have rc2 := icle bc.2
    have D0 : (0 : Rat) < (M : Rat) - (m : Rat) := by grind
    have eD : ((M - m : Int) : Rat) = (M : Rat) - (m : Rat) := Rat.intCast_sub _ _
    have ek : ((a + b + c - M - 2 * m : Int) : Rat) = (a : Rat) + b + c - M - 2 * m := by
      rw [Rat.intCast_sub, Rat.intCast_sub, Rat.intCast_add, Rat.intCast_add, Rat.intCast_mul]; rfl
    have k0 : ((0 : Int) : Rat) = 0 := rfl
    have k1 : ((1 : Int) : Rat) = 1 := rfl
    have k2 : ((2 : Int) : Rat) = 2 := rfl
    have k3 : ((3 : Int) : Rat) = 3 := rfl
    have mid : (a + b + c - M - 2 * m) ≤ M - m ∧ 0 ≤ (a + b + c - M - 2 * m) := by clear ha hb hc eM em; lia
    have f0 : ∀ f : Rat, f * ((M : Rat) - (m : Rat)) = (a : Rat) + b + c - M - 2 * m → 0 ≤ f ∧ f ≤ 1 := by
      intro f hf
      have q1 := icle mid.1
      have q2 := icle mid.2
      rw [ek] at q1 q2
      rw [eD] at q1
      rw [k0] at q2
      exact ⟨cancel D0 (by grind), cancel D0 (by grind)⟩
    rw [eD, ek]
    rcases hT with ⟨h1, h2⟩ | ⟨h1, h2, h3, h4⟩ | ⟨h1, h2, h3, h4, h5⟩
    · by_cases hn : T < 0
      · rw [if_pos hn] at hs
        have p := Rat.mul_pos (show 0 < -T by grind) D0
        have p2 : (b : Rat) < (c : Rat) := by grind
        have p3 : b < c := by exact_mod_cast p2
        have p4 := icle (show b + 1 ≤ c by lia)
        rw [Rat.intCast_add, k1] at p4
        have p5 : m = b := by clear ha hb hc eM em; lia
        have e1 : (a : Rat) = M := by rw [h1]
        have e2 : (m : Rat) = b := by rw [p5]
        have ff : (-T) * ((M : Rat) - (m : Rat)) = (a : Rat) + b + c - M - 2 * m := by grind
        have fb := f0 _ ff
        exact ⟨_, hs, .c2 e1 e2 (by grind) p4, -T, 3, fb.1, fb.2, ff, .inr (by rw [k3]; grind)⟩
      · rw [if_neg hn] at hs
        have p := Rat.mul_nonneg (show 0 ≤ T by grind) (Rat.le_of_lt D0)
        have p2 : (c : Rat) ≤ (b : Rat) := by grind
        have p3 : c ≤ b := by exact_mod_cast p2
        have p5 : m = c := by clear ha hb hc eM em; lia
        have e1 : (a : Rat) = M := by rw [h1]
        have e2 : (m : Rat) = c := by rw [p5]
        have ff : T * ((M : Rat) - (m : Rat)) = (a : Rat) + b + c - M - 2 * m := by grind
        have fb := f0 _ ff
        exact ⟨_, hs, .c1 e1 e2 (by grind), T, 0, fb.1, fb.2, ff, .inl (by rw [k0]; grind)⟩
    · rw [if_neg (by grind)] at hs
      have e1 : (b : Rat) = M := by rw [h2]
      by_cases hn : a ≤ c
      · have p5 : m = a := by clear ha hb hc eM em; lia
        have e2 : (m : Rat) = a := by rw [p5]
        have ff : (T - 2) * ((M : Rat) - (m : Rat)) = (a : Rat) + b + c - M - 2 * m := by grind
        have fb := f0 _ ff
        exact ⟨_, hs, .c3 e1 e2 (by grind), T - 2, 1, fb.1, fb.2, ff, .inl (by rw [k1]; grind)⟩
      · have p5 : m = c := by clear ha hb hc eM em; lia
        have e2 : (m : Rat) = c := by rw [p5]
        have ff : (2 - T) * ((M : Rat) - (m : Rat)) = (a : Rat) + b + c - M - 2 * m := by grind
        have fb := f0 _ ff
        exact ⟨_, hs, .c4 e1 e2 (by grind), 2 - T, 1, fb.1, fb.2, ff, .inr (by rw [k1]; grind)⟩
    · rw [if_neg (by grind)] at hs
      have e1 : (c : Rat) = M := by rw [h3]
      by_cases hn : b ≤ a
      · have p5 : m = b := by clear ha hb hc eM em; lia
        have e2 : (m : Rat) = b := by rw [p5]
        have ff : (T - 4) * ((M : Rat) - (m : Rat)) = (a : Rat) + b + c - M - 2 * m := by grind
        have fb := f0 _ ff
        exact ⟨_, hs, .c5 e1 e2 (by grind), T - 4, 2, fb.1, fb.2, ff, .inl (by rw [k2]; grind)⟩
      · have p5 : m = a := by clear ha hb hc eM em; lia
        have e2 : (m : Rat) = a := by rw [p5]
        have ff : (4 - T) * ((M : Rat) - (m : Rat)) = (a : Rat) + b + c - M - 2 * m := by grind
        have fb := f0 _ ff
        exact ⟨_, hs, .c6 e1 e2 (by grind), 4 - T, 2, fb.1, fb.2, ff, .inr (by rw [k2]; grind)⟩
  have nz : m ≠ M → m < M := fun h => by lia
  refine ⟨fa.inf, fb.inf, fc.inf, ?_, ?_, ?_, ?_, ?_, ?_, ?_, ?_⟩
  · rw [mx_fq ha hb hc, mn_fq ha hb hc, eM, em, eqv]
    intro h
    have lt := iclt (nz (of_decide_eq_false h))
    unfold rangeF
    rw [mx_fq ha hb hc, mn_fq ha hb hc, eM, em]
    exact ⟨notzero fr rr (by grind), notzero fM rM (by grind)⟩
  · rw [mx_fq ha hb hc, mn_fq ha hb hc, eM, em, eqv]
    intro h
    have lt := iclt (nz (of_decide_eq_false h))
    unfold rangeF
    rw [mx_fq ha hb hc, mn_fq ha hb hc, eM, em]
    exact ⟨notzero fr rr (by grind), notzero fs rs (by grind), two_ok hM hm⟩
  · unfold hsvF
    split <;> rfl
  · unfold lightF
    rw [mx_fq ha hb hc, mn_fq ha hb hc, eM, em]
    exact least_ok hM hm
  · rw [mx_fq ha hb hc, eM]
    exact most_ok hM
  · rw [eM, em]
    exact (fI_ok (i := M - m) (by lia) (by lia)).1.inf
  · rw [eM, em]
    unfold awayF sixthF hsvF
    rw [mx_fq ha hb hc, mn_fq ha hb hc, eM, em, eqv]
    by_cases h : m = M
    · rw [decide_eq_true h, if_pos rfl]
      have ⟨z0, z1⟩ := f0_ok
      have ⟨s0, s1⟩ := f6_ok
      have o := Op.mul z0 s0 (by rw [z1]; grind) (by rw [z1]; grind)
      have e := o.ex 0 (by decide) (by rw [z1, show ((0 : Int) : Rat) = 0 from rfl]; grind)
      have e2 : R (mul f0 f6) = 0 := by rw [e, z1]; grind
      exact away_ok (f := 0) (c := 0) o.fn (by rw [e2]; grind) (by rw [e2]; grind) (by grind) (by grind) (by lia) D1999 (by
        have : a + b + c - M - 2 * m = 0 := by lia
        rw [this, Rat.zero_mul]; rfl) (.inl ⟨by rw [e2, show ((0 : Int) : Rat) = 0 from rfl]; grind, by rw [e2, show ((0 : Int) : Rat) = 0 from rfl]; grind⟩)
    · rw [decide_eq_false h, if_neg (by decide)]
      obtain ⟨_, P, S, _, f, k, q0, q1, qD, qP⟩ := key (nz h)
      have u := S.up; have l := S.lo
      refine away_ok (f := f) (c := k) S.fn S.ge S.lt q0 q1 (by lia) D1999 qD ?_
      rcases qP with e | e
      · exact .inl ⟨by rw [← e]; exact u, by rw [← e]; exact l⟩
      · exact .inr ⟨by rw [← e]; exact u, by rw [← e]; exact l⟩
  · unfold sixthF hsvF
    rw [mx_fq ha hb hc, mn_fq ha hb hc, eM, em, eqv]
    by_cases h : m = M
    · rw [decide_eq_true h, if_pos rfl]
      have ea : M = a := by lia
      have eb : M = b := by lia
      have ec : M = c := by lia
      refine .inl ⟨by show feq f0 f0 = true; decide +kernel, ?_, ?_, ?_⟩
      · rw [ea]; exact most_ok ha
      · rw [eb]; exact most_ok hb
      · rw [ec]; exact most_ok hc
    · rw [decide_eq_false h, if_neg (by decide)]
      obtain ⟨_, P, S, H, _⟩ := key (nz h)
      refine .inr ⟨?_, ?_⟩
      · unfold rangeF
        rw [mx_fq ha hb hc, mn_fq ha hb hc, eM, em]
        have lt := iclt (nz h)
        have Mp : (0 : Rat) < (M : Rat) := by grind
        have e := divm Mp ((M : Rat) - (m : Rat))
        have gap : (1 : Rat) ≤ (M : Rat) - (m : Rat) := by
          have := icle (show m + 1 ≤ M by lia)
          rw [Rat.intCast_add, show ((1 : Int) : Rat) = 1 from rfl] at this
          grind
        generalize ((M : Rat) - (m : Rat)) / (M : Rat) = σ at *
        have s0 : 0 ≤ σ := cancel Mp (by rw [e]; grind)
        have s1 : σ ≤ 1 := cancel Mp (by rw [e]; grind)
        have s2 : 1 ≤ σ * 1999 := by
          have := bmul M1 s0
          grind
        have os := Op.div (q := σ) fr fM (fun h0 => by rw [h0] at rM; grind) (by
          have : σ * (R (fq M) * 2048) = R (sub (fq M) (fq m)) * 2048 := by rw [rM, rr, Rat.mul_comm]; exact e
          grind) (by grind) (by grind)
        rw [feq_R os.fn f0_ok.1, f0_ok.2]
        exact decide_eq_false (fun z => by have := os.lo; grind)
      · unfold rangeF
        rw [mx_fq ha hb hc, mn_fq ha hb hc, eM, em]
        exact paint_ok S ha hb hc hM hm (nz h) ba.1 ba.2 bb.1 bb.2 bc.1 bc.2 H
end Mine.Q
end

theorem PySem.Challenge.cw_ty0052_01_holds : PySem.Challenge.rw_ty0052_01.Holds :=
  Mine.joined Mine.Q.flAll (fun l _ => Mine.law_all l)
