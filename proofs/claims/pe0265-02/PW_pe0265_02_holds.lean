import PyProof.Rows.All
import Wide.All
import OpenK.AllK
import Wide.FinOn
import Lean
import PySem.Challenge.RW_pe0265_02
set_option Elab.async false
set_option maxRecDepth 100000
set_option maxHeartbeats 4000000
set_option autoImplicit false
set_option linter.all false
namespace Mine
open PySem PySem.W PyProof.Rows
abbrev pwQ : Program := PySem.Challenge.rw_pe0265_02.row.prog
noncomputable def hS (s : String) (t : Nat) : Value := .str (Str.ofString s) t
noncomputable def hE (P : Params) (s : String) (t : Nat) (v : Value) : DictEntry := ⟨PyData.keyHash P (Str.ofString s), .str (Str.ofString s) t, v⟩
noncomputable def hN (P : Params) (c : Array Nat) (t : Nat) (v : Value) : DictEntry := ⟨PyData.keyHash P ⟨c⟩, .str ⟨c⟩ t, v⟩
noncomputable def stmtAt : List Stmt → Nat → Stmt
  | [], _ => .Pass ⟨0, 0, 0, 0⟩
  | s :: _, 0 => s
  | _ :: r, n + 1 => stmtAt r n
noncomputable def clsBody : Stmt → List Stmt
  | .ClassDef _ _ _ b .. => b
  | _ => []
noncomputable def hA (i : Nat) : Stmt := stmtAt pwQ.main.body i
noncomputable def hB (i j : Nat) : Stmt := stmtAt (clsBody (hA i)) j
noncomputable def hF (st : Stmt) (qual : String) (defaults kwdefaults doc pyModule : Value) (annotations : Option Addr) (code closureTuple : Value) (builtins : Addr) : FuncData := match st with
  | .FunctionDef name args body _ _ _ scope .. => ⟨name, Str.ofString qual, args, .stmts body, scope, 3, [], defaults, kwdefaults, doc, pyModule, annotations, code, closureTuple, builtins⟩
  | _ => default
noncomputable def K2 (P : Params) : Frag := [
  (2, ⟨.none, none, (.dict #[hN P #[105, 109, 112, 111, 114, 116, 46, 108, 111, 97, 100, 101, 100, 46, 95, 115, 114, 101] 183 (.bool true), hE P "class._frozen_importlib.BuiltinImporter" 185 (.ref 14), hN P #[119, 97, 116, 99, 104, 101, 100, 46, 105, 109, 112, 111, 114, 116] 206 (.ref 18), hE P "class._frozen_importlib.ModuleSpec" 216 (.ref 22), hE P "sys.modules.booked-epoch" 245 (.int 3 0), hN P #[105, 109, 112, 111, 114, 116, 46, 108, 97, 116, 101, 114, 45, 108, 97, 105, 100, 46, 95, 115, 114, 101] 270 (.bool true), hE P "watched.library" 272 (.ref 27), hE P "watched.library-objects" 0 (hS "\x0c" 0), hE P "watched.library-deep._sre" 273 (hS "\x04\x00\x00\x0b\x04\x00\x00\x0b\x04\x00\x00\x03\x04\x00\x00\x0b\x08\x04dict\x02" 0)] 9), #[]⟩),
  (3, ⟨(.type "dict"), none, (.dict #[hE P "__name__" 165 (hS "law_pe0265_02" 657), hE P "__doc__" 166 .none, hE P "__package__" 167 .none, hE P "__loader__" 168 (.builtin "__main__.__loader__#opaque"), hE P "__spec__" 169 .none, hE P "__annotations__" 170 (.ref 6), hE P "__builtins__" 171 (.ref 4), hE P "__file__" 173 (hS "/claim/cut.py" 172), hE P "__cached__" 174 .none, hE P "_sre" 275 (.ref 12), hE P "_wall" 288 (.ref 38), hE P "Whitespace" 390 (.ref 100), hE P "tspecials" 426 (.ref 109), hE P "_name_disallowed_re" 452 (.ref 114), hE P "_value_disallowed_re" 486 (.ref 119), hE P "_formatparam" 496 (.ref 127), hE P "Headers" 656 (.ref 250), hE P "_law_calls" 664 (.ref 259), hE P "_law_three" 672 (.ref 266), hE P "_law_told" 678 (.ref 271), hE P "_law_columns" 690 (.ref 278), hE P "_law_due" 696 (.ref 283), hE P "law" 704 (.ref 290)] 23), #[]⟩),
  (32, ⟨(.type "tuple"), none, (.seq #[] 0), #[]⟩),
  (34, ⟨(.type "tuple"), none, (.seq #[(hS "k" 285)] 0), #[]⟩),
  (35, ⟨(.type "tuple"), none, (.seq #[] 0), #[]⟩),
  (37, ⟨(.type "code"), none, (.fields #[(hS "_wall" 282), (hS "_wall" 283), (hS "/claim/cut.py" 284), (.int 2 0), (.int 1 0), (.int 0 0), (.int 0 0), (.int 3 0), (.ref 32), (.bool true), (.int 276 0), (.ref 33), .none, (.ref 34), (.ref 35), (.ref 36), (.int 286 0), (.int 2 0), (hS "/claim/cut.py" 287)]), #[]⟩),
  (38, ⟨(.type "function"), none, (.func (hF (hA 1) "_wall" .none .none .none (hS "__main__" 164) none (.ref 37) .none 0)), #[]⟩),
  (49, ⟨(.type "tuple"), none, (.seq #[] 0), #[]⟩),
  (51, ⟨(.type "tuple"), none, (.seq #[(hS "self" 311), (hS "ws" 312), (hS "S" 313), (hS "T" 314), (hS "count" 315), (hS "b" 316), (hS "n" 317), (hS "nt" 318), (hS "ch" 319)] 0), #[]⟩),
  (52, ⟨(.type "tuple"), none, (.seq #[] 0), #[]⟩),
  (54, ⟨(.type "code"), none, (.fields #[(hS "__init__" 308), (hS "Whitespace.__init__" 309), (hS "/claim/cut.py" 310), (.int 9 0), (.int 2 0), (.int 0 0), (.int 0 0), (.int 3 0), (.ref 49), (.bool true), (.int 276 0), (.ref 50), .none, (.ref 51), (.ref 52), (.ref 53), (.int 320 0), (.int 9 0), (hS "/claim/cut.py" 321)]), #[]⟩),
  (55, ⟨(.type "function"), none, (.func (hF (hB 3 1) "Whitespace.__init__" .none .none .none (hS "cpy313.tabnanny" 289) none (.ref 54) .none 0)), #[]⟩),
  (56, ⟨(.type "tuple"), none, (.seq #[] 0), #[]⟩),
  (58, ⟨(.type "tuple"), none, (.seq #[(hS "self" 326), (hS "count" 327), (hS "trailing" 328)] 0), #[]⟩),
  (59, ⟨(.type "tuple"), none, (.seq #[] 0), #[]⟩),
  (61, ⟨(.type "code"), none, (.fields #[(hS "longest_run_of_spaces" 323), (hS "Whitespace.longest_run_of_spaces" 324), (hS "/claim/cut.py" 325), (.int 32 0), (.int 1 0), (.int 0 0), (.int 0 0), (.int 3 0), (.ref 56), (.bool true), (.int 276 0), (.ref 57), .none, (.ref 58), (.ref 59), (.ref 60), (.int 329 0), (.int 32 0), (hS "/claim/cut.py" 330)]), #[]⟩),
  (62, ⟨(.type "function"), none, (.func (hF (hB 3 2) "Whitespace.longest_run_of_spaces" .none .none .none (hS "cpy313.tabnanny" 289) none (.ref 61) .none 0)), #[]⟩),
  (63, ⟨(.type "tuple"), none, (.seq #[] 0), #[]⟩),
  (65, ⟨(.type "tuple"), none, (.seq #[(hS "self" 335), (hS "tabsize" 336), (hS "count" 337), (hS "trailing" 338), (hS "il" 339), (hS "i" 340)] 0), #[]⟩),
  (66, ⟨(.type "tuple"), none, (.seq #[] 0), #[]⟩),
  (68, ⟨(.type "code"), none, (.fields #[(hS "indent_level" 332), (hS "Whitespace.indent_level" 333), (hS "/claim/cut.py" 334), (.int 36 0), (.int 2 0), (.int 0 0), (.int 0 0), (.int 3 0), (.ref 63), (.bool true), (.int 276 0), (.ref 64), .none, (.ref 65), (.ref 66), (.ref 67), (.int 341 0), (.int 36 0), (hS "/claim/cut.py" 342)]), #[]⟩),
  (69, ⟨(.type "function"), none, (.func (hF (hB 3 3) "Whitespace.indent_level" .none .none .none (hS "cpy313.tabnanny" 289) none (.ref 68) .none 0)), #[]⟩),
  (70, ⟨(.type "tuple"), none, (.seq #[] 0), #[]⟩),
  (72, ⟨(.type "tuple"), none, (.seq #[(hS "self" 347), (hS "other" 348)] 0), #[]⟩),
  (73, ⟨(.type "tuple"), none, (.seq #[] 0), #[]⟩),
  (75, ⟨(.type "code"), none, (.fields #[(hS "equal" 344), (hS "Whitespace.equal" 345), (hS "/claim/cut.py" 346), (.int 43 0), (.int 2 0), (.int 0 0), (.int 0 0), (.int 3 0), (.ref 70), (.bool true), (.int 276 0), (.ref 71), .none, (.ref 72), (.ref 73), (.ref 74), (.int 349 0), (.int 43 0), (hS "/claim/cut.py" 350)]), #[]⟩),
  (76, ⟨(.type "function"), none, (.func (hF (hB 3 4) "Whitespace.equal" .none .none .none (hS "cpy313.tabnanny" 289) none (.ref 75) .none 0)), #[]⟩),
  (77, ⟨(.type "tuple"), none, (.seq #[] 0), #[]⟩),
  (79, ⟨(.type "tuple"), none, (.seq #[(hS "self" 355), (hS "other" 356)] 0), #[]⟩),
  (80, ⟨(.type "tuple"), none, (.seq #[] 0), #[]⟩),
  (82, ⟨(.type "code"), none, (.fields #[(hS "not_equal_witness" 352), (hS "Whitespace.not_equal_witness" 353), (hS "/claim/cut.py" 354), (.int 46 0), (.int 2 0), (.int 0 0), (.int 0 0), (.int 3 0), (.ref 77), (.bool true), (.int 276 0), (.ref 78), .none, (.ref 79), (.ref 80), (.ref 81), (.int 357 0), (.int 46 0), (hS "/claim/cut.py" 358)]), #[]⟩),
  (83, ⟨(.type "function"), none, (.func (hF (hB 3 5) "Whitespace.not_equal_witness" .none .none .none (hS "cpy313.tabnanny" 289) none (.ref 82) .none 0)), #[]⟩),
  (84, ⟨(.type "tuple"), none, (.seq #[] 0), #[]⟩),
  (86, ⟨(.type "tuple"), none, (.seq #[(hS "self" 363), (hS "other" 364), (hS "n" 365), (hS "ts" 366)] 0), #[]⟩),
  (87, ⟨(.type "tuple"), none, (.seq #[] 0), #[]⟩),
  (89, ⟨(.type "code"), none, (.fields #[(hS "less" 360), (hS "Whitespace.less" 361), (hS "/claim/cut.py" 362), (.int 49 0), (.int 2 0), (.int 0 0), (.int 0 0), (.int 3 0), (.ref 84), (.bool true), (.int 276 0), (.ref 85), .none, (.ref 86), (.ref 87), (.ref 88), (.int 367 0), (.int 49 0), (hS "/claim/cut.py" 368)]), #[]⟩),
  (90, ⟨(.type "function"), none, (.func (hF (hB 3 6) "Whitespace.less" .none .none .none (hS "cpy313.tabnanny" 289) none (.ref 89) .none 0)), #[]⟩),
  (91, ⟨(.type "tuple"), none, (.seq #[] 0), #[]⟩),
  (93, ⟨(.type "tuple"), none, (.seq #[(hS "self" 373), (hS "other" 374)] 0), #[]⟩),
  (94, ⟨(.type "tuple"), none, (.seq #[] 0), #[]⟩),
  (96, ⟨(.type "code"), none, (.fields #[(hS "not_less_witness" 370), (hS "Whitespace.not_less_witness" 371), (hS "/claim/cut.py" 372), (.int 60 0), (.int 2 0), (.int 0 0), (.int 0 0), (.int 3 0), (.ref 91), (.bool true), (.int 276 0), (.ref 92), .none, (.ref 93), (.ref 94), (.ref 95), (.int 375 0), (.int 60 0), (hS "/claim/cut.py" 376)]), #[]⟩),
  (97, ⟨(.type "function"), none, (.func (hF (hB 3 7) "Whitespace.not_less_witness" .none .none .none (hS "cpy313.tabnanny" 289) none (.ref 96) .none 0)), #[]⟩),
  (98, ⟨(.type "tuple"), none, (.seq #[(hS "is_simple" 378), (hS "n" 379), (hS "norm" 380), (hS "nt" 381), (hS "raw" 382)] 0), #[]⟩),
  (99, ⟨(.type "dict"), none, (.dict #[hE P "__module__" 298 (hS "cpy313.tabnanny" 289), hE P "__firstlineno__" 302 (.int 6 301), hE P "S" 306 (hS " " 304), hE P "T" 307 (hS "\t" 305), hE P "__init__" 322 (.ref 55), hE P "longest_run_of_spaces" 331 (.ref 62), hE P "indent_level" 343 (.ref 69), hE P "equal" 351 (.ref 76), hE P "not_equal_witness" 359 (.ref 83), hE P "less" 369 (.ref 90), hE P "not_less_witness" 377 (.ref 97), hE P "__static_attributes__" 383 (.ref 98), hE P "__dict__" 385 (.ref 101), hE P "__weakref__" 387 (.ref 102), hE P "__doc__" 388 .none] 4), #[]⟩),
  (100, ⟨(.type "type"), none, (.cls { name := "Whitespace", bases := [(.type "object")], mro := [(.ref 100), (.type "object")], ns := 99, qualname := "Whitespace", hasDict := true, slotNames := [], subclasses := [], abstract := false, collection := none, hasDel := false }), #[none, none, (some (hS "Whitespace" 291)), (some (hS "Whitespace" 299)), (some (.builtin "object.__new__")), (some (.bool true))]⟩),
  (101, ⟨(.type "getset_descriptor"), none, (.fields #[(hS "__dict__" 384), (.ref 100), (.builtin "function.__dict__"), (.builtin "function.__dict__#set")]), #[]⟩),
  (102, ⟨(.type "getset_descriptor"), none, (.fields #[(hS "__weakref__" 386), (.ref 100), (.builtin "ExceptionGroup.__weakref__"), .none]), #[]⟩),
  (108, ⟨(.type "tuple"), none, (.seq #[(.int 14 0), (.int 14 0), (.int 4 0), (.int 1 0), (.int 1 0), (.int 9 0), (.int 0 0), (.int 4227896069 0), (.int 939524097 0), (.int 0 0), (.int 0 0), (.int 0 0), (.int 0 0), (.int 0 0), (.int 0 0), (.int 13 0), (.int 11 0), (.int 9 0), (.int 0 0), (.int 4227896069 0), (.int 939524097 0), (.int 0 0), (.int 0 0), (.int 0 0), (.int 0 0), (.int 0 0), (.int 0 0), (.int 1 0)] 0), #[]⟩),
  (109, ⟨(.type "re.Pattern"), none, (.fields #[(hS "[ \\(\\)<>@,;:\\\\\"/\\[\\]\\?=]" 394), (.int 32 425), (.int 0 0), .none, .none, (.ref 108), (.int 0 0)]), #[]⟩),
  (113, ⟨(.type "tuple"), none, (.seq #[(.int 14 0), (.int 10 0), (.int 4 0), (.int 1 0), (.int 1 0), (.int 22 0), (.int 0 0), (.int 31 0), (.int 16 0), (.int 127 0), (.int 0 0), (.int 13 0), (.int 7 0), (.int 22 0), (.int 0 0), (.int 31 0), (.int 16 0), (.int 127 0), (.int 0 0), (.int 1 0)] 0), #[]⟩),
  (114, ⟨(.type "re.Pattern"), none, (.fields #[(hS "[\\x00-\\x1F\\x7F]" 428), (.int 32 451), (.int 0 0), .none, .none, (.ref 113), (.int 0 0)]), #[]⟩),
  (118, ⟨(.type "tuple"), none, (.seq #[(.int 14 0), (.int 14 0), (.int 4 0), (.int 1 0), (.int 1 0), (.int 9 0), (.int 4294966783 0), (.int 0 0), (.int 0 0), (.int 2147483648 0), (.int 0 0), (.int 0 0), (.int 0 0), (.int 0 0), (.int 0 0), (.int 13 0), (.int 11 0), (.int 9 0), (.int 4294966783 0), (.int 0 0), (.int 0 0), (.int 2147483648 0), (.int 0 0), (.int 0 0), (.int 0 0), (.int 0 0), (.int 0 0), (.int 1 0)] 0), #[]⟩),
  (119, ⟨(.type "re.Pattern"), none, (.fields #[(hS "[\\x00-\\x08\\x0A-\\x1F\\x7F]" 454), (.int 32 485), (.int 0 0), .none, .none, (.ref 118), (.int 0 0)]), #[]⟩),
  (120, ⟨(.type "tuple"), none, (.seq #[.none, (.int 1 487)] 0), #[]⟩),
  (121, ⟨(.type "tuple"), none, (.seq #[] 0), #[]⟩),
  (123, ⟨(.type "tuple"), none, (.seq #[(hS "param" 491), (hS "value" 492), (hS "quote" 493)] 0), #[]⟩),
  (124, ⟨(.type "tuple"), none, (.seq #[] 0), #[]⟩),
  (126, ⟨(.type "code"), none, (.fields #[(hS "_formatparam" 488), (hS "_formatparam" 489), (hS "/claim/cut.py" 490), (.int 66 0), (.int 3 0), (.int 0 0), (.int 0 0), (.int 3 0), (.ref 121), (.bool true), (.int 276 0), (.ref 122), .none, (.ref 123), (.ref 124), (.ref 125), (.int 494 0), (.int 66 0), (hS "/claim/cut.py" 495)]), #[]⟩),
  (127, ⟨(.type "function"), none, (.func (hF (hA 8) "_formatparam" (.ref 120) .none .none (hS "cpy313.wsgiref.headers" 391) none (.ref 126) .none 0)), #[]⟩),
  (135, ⟨(.type "tuple"), none, (.seq #[.none] 0), #[]⟩),
  (136, ⟨(.type "tuple"), none, (.seq #[] 0), #[]⟩),
  (138, ⟨(.type "tuple"), none, (.seq #[(hS "self" 512), (hS "headers" 513), (hS "k" 514), (hS "v" 515)] 0), #[]⟩),
  (139, ⟨(.type "tuple"), none, (.seq #[] 0), #[]⟩),
  (141, ⟨(.type "code"), none, (.fields #[(hS "__init__" 509), (hS "Headers.__init__" 510), (hS "/claim/cut.py" 511), (.int 77 0), (.int 2 0), (.int 0 0), (.int 0 0), (.int 3 0), (.ref 136), (.bool true), (.int 276 0), (.ref 137), .none, (.ref 138), (.ref 139), (.ref 140), (.int 516 0), (.int 77 0), (hS "/claim/cut.py" 517)]), #[]⟩),
  (142, ⟨(.type "function"), none, (.func (hF (hB 9 0) "Headers.__init__" (.ref 135) .none .none (hS "cpy313.wsgiref.headers" 391) none (.ref 141) .none 0)), #[]⟩),
  (143, ⟨(.type "tuple"), none, (.seq #[] 0), #[]⟩),
  (145, ⟨(.type "tuple"), none, (.seq #[(hS "self" 522), (hS "value" 523), (hS "name" 524), (hS "regex" 525)] 0), #[]⟩),
  (146, ⟨(.type "tuple"), none, (.seq #[] 0), #[]⟩),
  (148, ⟨(.type "code"), none, (.fields #[(hS "_convert_string_type" 519), (hS "Headers._convert_string_type" 520), (hS "/claim/cut.py" 521), (.int 87 0), (.int 2 0), (.int 0 0), (.int 1 0), (.int 3 0), (.ref 143), (.bool true), (.int 276 0), (.ref 144), .none, (.ref 145), (.ref 146), (.ref 147), (.int 526 0), (.int 87 0), (hS "/claim/cut.py" 527)]), #[]⟩),
  (149, ⟨(.type "function"), none, (.func (hF (hB 9 1) "Headers._convert_string_type" .none .none .none (hS "cpy313.wsgiref.headers" 391) none (.ref 148) .none 0)), #[]⟩),
  (150, ⟨(.type "tuple"), none, (.seq #[] 0), #[]⟩),
  (152, ⟨(.type "tuple"), none, (.seq #[(hS "self" 532)] 0), #[]⟩),
  (153, ⟨(.type "tuple"), none, (.seq #[] 0), #[]⟩),
  (155, ⟨(.type "code"), none, (.fields #[(hS "__len__" 529), (hS "Headers.__len__" 530), (hS "/claim/cut.py" 531), (.int 95 0), (.int 1 0), (.int 0 0), (.int 0 0), (.int 3 0), (.ref 150), (.bool true), (.int 276 0), (.ref 151), .none, (.ref 152), (.ref 153), (.ref 154), (.int 533 0), (.int 95 0), (hS "/claim/cut.py" 534)]), #[]⟩),
  (156, ⟨(.type "function"), none, (.func (hF (hB 9 2) "Headers.__len__" .none .none .none (hS "cpy313.wsgiref.headers" 391) none (.ref 155) .none 0)), #[]⟩),
  (157, ⟨(.type "tuple"), none, (.seq #[] 0), #[]⟩),
  (159, ⟨(.type "tuple"), none, (.seq #[(hS "self" 539), (hS "name" 540), (hS "val" 541)] 0), #[]⟩),
  (160, ⟨(.type "tuple"), none, (.seq #[] 0), #[]⟩),
  (162, ⟨(.type "code"), none, (.fields #[(hS "__setitem__" 536), (hS "Headers.__setitem__" 537), (hS "/claim/cut.py" 538), (.int 98 0), (.int 3 0), (.int 0 0), (.int 0 0), (.int 3 0), (.ref 157), (.bool true), (.int 276 0), (.ref 158), .none, (.ref 159), (.ref 160), (.ref 161), (.int 542 0), (.int 98 0), (hS "/claim/cut.py" 543)]), #[]⟩),
  (163, ⟨(.type "function"), none, (.func (hF (hB 9 3) "Headers.__setitem__" .none .none .none (hS "cpy313.wsgiref.headers" 391) none (.ref 162) .none 0)), #[]⟩),
  (164, ⟨(.type "tuple"), none, (.seq #[] 0), #[]⟩),
  (167, ⟨(.type "code"), none, (.fields #[(hS "__delitem__" 545), (hS "Headers.__delitem__" 546), (hS "/claim/cut.py" 547), (.int 102 0), (.int 2 0), (.int 0 0), (.int 0 0), (.int 3 0), (.ref 164), (.bool true), (.int 276 0), (.ref 165), .none, .none, .none, (.ref 166), (.int 548 0), (.int 102 0), (hS "/claim/cut.py" 549)]), #[]⟩),
  (168, ⟨(.type "function"), none, (.func (hF (hB 9 4) "Headers.__delitem__" .none .none .none (hS "cpy313.wsgiref.headers" 391) none (.ref 167) .none 0)), #[]⟩),
  (169, ⟨(.type "tuple"), none, (.seq #[] 0), #[]⟩),
  (171, ⟨(.type "tuple"), none, (.seq #[(hS "self" 554), (hS "name" 555)] 0), #[]⟩),
  (172, ⟨(.type "tuple"), none, (.seq #[] 0), #[]⟩),
  (174, ⟨(.type "code"), none, (.fields #[(hS "__getitem__" 551), (hS "Headers.__getitem__" 552), (hS "/claim/cut.py" 553), (.int 106 0), (.int 2 0), (.int 0 0), (.int 0 0), (.int 3 0), (.ref 169), (.bool true), (.int 276 0), (.ref 170), .none, (.ref 171), (.ref 172), (.ref 173), (.int 556 0), (.int 106 0), (hS "/claim/cut.py" 557)]), #[]⟩),
  (175, ⟨(.type "function"), none, (.func (hF (hB 9 5) "Headers.__getitem__" .none .none .none (hS "cpy313.wsgiref.headers" 391) none (.ref 174) .none 0)), #[]⟩),
  (176, ⟨(.type "tuple"), none, (.seq #[] 0), #[]⟩),
  (178, ⟨(.type "tuple"), none, (.seq #[(hS "self" 562), (hS "name" 563)] 0), #[]⟩),
  (179, ⟨(.type "tuple"), none, (.seq #[] 0), #[]⟩),
  (181, ⟨(.type "code"), none, (.fields #[(hS "__contains__" 559), (hS "Headers.__contains__" 560), (hS "/claim/cut.py" 561), (.int 109 0), (.int 2 0), (.int 0 0), (.int 0 0), (.int 3 0), (.ref 176), (.bool true), (.int 276 0), (.ref 177), .none, (.ref 178), (.ref 179), (.ref 180), (.int 564 0), (.int 109 0), (hS "/claim/cut.py" 565)]), #[]⟩),
  (182, ⟨(.type "function"), none, (.func (hF (hB 9 6) "Headers.__contains__" .none .none .none (hS "cpy313.wsgiref.headers" 391) none (.ref 181) .none 0)), #[]⟩),
  (183, ⟨(.type "tuple"), none, (.seq #[] 0), #[]⟩),
  (185, ⟨(.type "tuple"), none, (.seq #[(hS "self" 570), (hS "name" 571)] 0), #[]⟩),
  (186, ⟨(.type "tuple"), none, (.seq #[] 0), #[]⟩),
  (188, ⟨(.type "code"), none, (.fields #[(hS "get_all" 567), (hS "Headers.get_all" 568), (hS "/claim/cut.py" 569), (.int 112 0), (.int 2 0), (.int 0 0), (.int 0 0), (.int 3 0), (.ref 183), (.bool true), (.int 276 0), (.ref 184), .none, (.ref 185), (.ref 186), (.ref 187), (.int 572 0), (.int 112 0), (hS "/claim/cut.py" 573)]), #[]⟩),
  (189, ⟨(.type "function"), none, (.func (hF (hB 9 7) "Headers.get_all" .none .none .none (hS "cpy313.wsgiref.headers" 391) none (.ref 188) .none 0)), #[]⟩),
  (190, ⟨(.type "tuple"), none, (.seq #[.none] 0), #[]⟩),
  (191, ⟨(.type "tuple"), none, (.seq #[] 0), #[]⟩),
  (193, ⟨(.type "tuple"), none, (.seq #[(hS "self" 578), (hS "name" 579), (hS "default" 580), (hS "k" 581), (hS "v" 582)] 0), #[]⟩),
  (194, ⟨(.type "tuple"), none, (.seq #[] 0), #[]⟩),
  (196, ⟨(.type "code"), none, (.fields #[(hS "get" 575), (hS "Headers.get" 576), (hS "/claim/cut.py" 577), (.int 115 0), (.int 3 0), (.int 0 0), (.int 0 0), (.int 3 0), (.ref 191), (.bool true), (.int 276 0), (.ref 192), .none, (.ref 193), (.ref 194), (.ref 195), (.int 583 0), (.int 115 0), (hS "/claim/cut.py" 584)]), #[]⟩),
  (197, ⟨(.type "function"), none, (.func (hF (hB 9 8) "Headers.get" (.ref 190) .none .none (hS "cpy313.wsgiref.headers" 391) none (.ref 196) .none 0)), #[]⟩),
  (198, ⟨(.type "tuple"), none, (.seq #[] 0), #[]⟩),
  (201, ⟨(.type "code"), none, (.fields #[(hS "keys" 586), (hS "Headers.keys" 587), (hS "/claim/cut.py" 588), (.int 122 0), (.int 1 0), (.int 0 0), (.int 0 0), (.int 3 0), (.ref 198), (.bool true), (.int 276 0), (.ref 199), .none, .none, .none, (.ref 200), (.int 589 0), (.int 122 0), (hS "/claim/cut.py" 590)]), #[]⟩),
  (202, ⟨(.type "function"), none, (.func (hF (hB 9 9) "Headers.keys" .none .none .none (hS "cpy313.wsgiref.headers" 391) none (.ref 201) .none 0)), #[]⟩),
  (203, ⟨(.type "tuple"), none, (.seq #[] 0), #[]⟩),
  (206, ⟨(.type "code"), none, (.fields #[(hS "values" 592), (hS "Headers.values" 593), (hS "/claim/cut.py" 594), (.int 125 0), (.int 1 0), (.int 0 0), (.int 0 0), (.int 3 0), (.ref 203), (.bool true), (.int 276 0), (.ref 204), .none, .none, .none, (.ref 205), (.int 595 0), (.int 125 0), (hS "/claim/cut.py" 596)]), #[]⟩),
  (207, ⟨(.type "function"), none, (.func (hF (hB 9 10) "Headers.values" .none .none .none (hS "cpy313.wsgiref.headers" 391) none (.ref 206) .none 0)), #[]⟩),
  (208, ⟨(.type "tuple"), none, (.seq #[] 0), #[]⟩),
  (210, ⟨(.type "tuple"), none, (.seq #[(hS "self" 601)] 0), #[]⟩),
  (211, ⟨(.type "tuple"), none, (.seq #[] 0), #[]⟩),
  (213, ⟨(.type "code"), none, (.fields #[(hS "items" 598), (hS "Headers.items" 599), (hS "/claim/cut.py" 600), (.int 128 0), (.int 1 0), (.int 0 0), (.int 0 0), (.int 3 0), (.ref 208), (.bool true), (.int 276 0), (.ref 209), .none, (.ref 210), (.ref 211), (.ref 212), (.int 602 0), (.int 128 0), (hS "/claim/cut.py" 603)]), #[]⟩),
  (214, ⟨(.type "function"), none, (.func (hF (hB 9 11) "Headers.items" .none .none .none (hS "cpy313.wsgiref.headers" 391) none (.ref 213) .none 0)), #[]⟩),
  (215, ⟨(.type "tuple"), none, (.seq #[] 0), #[]⟩),
  (217, ⟨(.type "tuple"), none, (.seq #[(hS "self" 608)] 0), #[]⟩),
  (218, ⟨(.type "tuple"), none, (.seq #[] 0), #[]⟩),
  (220, ⟨(.type "code"), none, (.fields #[(hS "__repr__" 605), (hS "Headers.__repr__" 606), (hS "/claim/cut.py" 607), (.int 131 0), (.int 1 0), (.int 0 0), (.int 0 0), (.int 3 0), (.ref 215), (.bool true), (.int 276 0), (.ref 216), .none, (.ref 217), (.ref 218), (.ref 219), (.int 609 0), (.int 131 0), (hS "/claim/cut.py" 610)]), #[]⟩),
  (221, ⟨(.type "function"), none, (.func (hF (hB 9 12) "Headers.__repr__" .none .none .none (hS "cpy313.wsgiref.headers" 391) none (.ref 220) .none 0)), #[]⟩),
  (222, ⟨(.type "tuple"), none, (.seq #[] 0), #[]⟩),
  (225, ⟨(.type "code"), none, (.fields #[(hS "__str__" 612), (hS "Headers.__str__" 613), (hS "/claim/cut.py" 614), (.int 134 0), (.int 1 0), (.int 0 0), (.int 0 0), (.int 3 0), (.ref 222), (.bool true), (.int 276 0), (.ref 223), .none, .none, .none, (.ref 224), (.int 615 0), (.int 134 0), (hS "/claim/cut.py" 616)]), #[]⟩),
  (226, ⟨(.type "function"), none, (.func (hF (hB 9 13) "Headers.__str__" .none .none .none (hS "cpy313.wsgiref.headers" 391) none (.ref 225) .none 0)), #[]⟩),
  (227, ⟨(.type "tuple"), none, (.seq #[] 0), #[]⟩),
  (229, ⟨(.type "tuple"), none, (.seq #[(hS "self" 621)] 0), #[]⟩),
  (230, ⟨(.type "tuple"), none, (.seq #[] 0), #[]⟩),
  (232, ⟨(.type "code"), none, (.fields #[(hS "__bytes__" 618), (hS "Headers.__bytes__" 619), (hS "/claim/cut.py" 620), (.int 137 0), (.int 1 0), (.int 0 0), (.int 0 0), (.int 3 0), (.ref 227), (.bool true), (.int 276 0), (.ref 228), .none, (.ref 229), (.ref 230), (.ref 231), (.int 622 0), (.int 137 0), (hS "/claim/cut.py" 623)]), #[]⟩),
  (233, ⟨(.type "function"), none, (.func (hF (hB 9 14) "Headers.__bytes__" .none .none .none (hS "cpy313.wsgiref.headers" 391) none (.ref 232) .none 0)), #[]⟩),
  (234, ⟨(.type "tuple"), none, (.seq #[] 0), #[]⟩),
  (236, ⟨(.type "tuple"), none, (.seq #[(hS "self" 628), (hS "name" 629), (hS "value" 630), (hS "result" 631)] 0), #[]⟩),
  (237, ⟨(.type "tuple"), none, (.seq #[] 0), #[]⟩),
  (239, ⟨(.type "code"), none, (.fields #[(hS "setdefault" 625), (hS "Headers.setdefault" 626), (hS "/claim/cut.py" 627), (.int 140 0), (.int 3 0), (.int 0 0), (.int 0 0), (.int 3 0), (.ref 234), (.bool true), (.int 276 0), (.ref 235), .none, (.ref 236), (.ref 237), (.ref 238), (.int 632 0), (.int 140 0), (hS "/claim/cut.py" 633)]), #[]⟩),
  (240, ⟨(.type "function"), none, (.func (hF (hB 9 15) "Headers.setdefault" .none .none .none (hS "cpy313.wsgiref.headers" 391) none (.ref 239) .none 0)), #[]⟩),
  (241, ⟨(.type "tuple"), none, (.seq #[] 0), #[]⟩),
  (243, ⟨(.type "tuple"), none, (.seq #[(hS "self" 638), (hS "_name" 639), (hS "_value" 640), (hS "_params" 641), (hS "parts" 642), (hS "k" 643), (hS "v" 644)] 0), #[]⟩),
  (244, ⟨(.type "tuple"), none, (.seq #[] 0), #[]⟩),
  (246, ⟨(.type "code"), none, (.fields #[(hS "add_header" 635), (hS "Headers.add_header" 636), (hS "/claim/cut.py" 637), (.int 148 0), (.int 3 0), (.int 0 0), (.int 0 0), (.int 11 0), (.ref 241), (.bool true), (.int 276 0), (.ref 242), .none, (.ref 243), (.ref 244), (.ref 245), (.int 645 0), (.int 148 0), (hS "/claim/cut.py" 646)]), #[]⟩),
  (247, ⟨(.type "function"), none, (.func (hF (hB 9 16) "Headers.add_header" .none .none .none (hS "cpy313.wsgiref.headers" 391) none (.ref 246) .none 0)), #[]⟩),
  (248, ⟨(.type "tuple"), none, (.seq #[(hS "_headers" 648)] 0), #[]⟩),
  (249, ⟨(.type "dict"), none, (.dict #[hE P "__module__" 504 (hS "cpy313.wsgiref.headers" 391), hE P "__firstlineno__" 508 (.int 75 507), hE P "__init__" 518 (.ref 142), hE P "_convert_string_type" 528 (.ref 149), hE P "__len__" 535 (.ref 156), hE P "__setitem__" 544 (.ref 163), hE P "__delitem__" 550 (.ref 168), hE P "__getitem__" 558 (.ref 175), hE P "__contains__" 566 (.ref 182), hE P "get_all" 574 (.ref 189), hE P "get" 585 (.ref 197), hE P "keys" 591 (.ref 202), hE P "values" 597 (.ref 207), hE P "items" 604 (.ref 214), hE P "__repr__" 611 (.ref 221), hE P "__str__" 617 (.ref 226), hE P "__bytes__" 624 (.ref 233), hE P "setdefault" 634 (.ref 240), hE P "add_header" 647 (.ref 247), hE P "__static_attributes__" 649 (.ref 248), hE P "__dict__" 651 (.ref 251), hE P "__weakref__" 653 (.ref 252), hE P "__doc__" 654 .none] 4), #[]⟩),
  (250, ⟨(.type "type"), none, (.cls { name := "Headers", bases := [(.type "object")], mro := [(.ref 250), (.type "object")], ns := 249, qualname := "Headers", hasDict := true, slotNames := [], subclasses := [], abstract := false, collection := none, hasDel := false }), #[none, none, (some (hS "Headers" 497)), (some (hS "Headers" 505)), (some (.builtin "object.__new__")), (some (.bool true))]⟩),
  (251, ⟨(.type "getset_descriptor"), none, (.fields #[(hS "__dict__" 650), (.ref 250), (.builtin "function.__dict__"), (.builtin "function.__dict__#set")]), #[]⟩),
  (252, ⟨(.type "getset_descriptor"), none, (.fields #[(hS "__weakref__" 652), (.ref 250), (.builtin "ExceptionGroup.__weakref__"), .none]), #[]⟩),
  (255, ⟨(.type "tuple"), none, (.seq #[] 0), #[]⟩),
  (258, ⟨(.type "code"), none, (.fields #[(hS "_law_calls" 659), (hS "_law_calls" 660), (hS "/claim/cut.py" 661), (.int 162 0), (.int 1 0), (.int 0 0), (.int 0 0), (.int 3 0), (.ref 255), (.bool true), (.int 276 0), (.ref 256), .none, .none, .none, (.ref 257), (.int 662 0), (.int 162 0), (hS "/claim/cut.py" 663)]), #[]⟩),
  (259, ⟨(.type "function"), none, (.func (hF (hA 11) "_law_calls" .none .none .none (hS "law_pe0265_02" 657) none (.ref 258) .none 0)), #[]⟩),
  (260, ⟨(.type "tuple"), none, (.seq #[] 0), #[]⟩),
  (262, ⟨(.type "tuple"), none, (.seq #[(hS "one" 668), (hS "other" 669)] 0), #[]⟩),
  (263, ⟨(.type "tuple"), none, (.seq #[] 0), #[]⟩),
  (265, ⟨(.type "code"), none, (.fields #[(hS "_law_three" 665), (hS "_law_three" 666), (hS "/claim/cut.py" 667), (.int 165 0), (.int 2 0), (.int 0 0), (.int 0 0), (.int 3 0), (.ref 260), (.bool true), (.int 276 0), (.ref 261), .none, (.ref 262), (.ref 263), (.ref 264), (.int 670 0), (.int 165 0), (hS "/claim/cut.py" 671)]), #[]⟩),
  (266, ⟨(.type "function"), none, (.func (hF (hA 12) "_law_three" .none .none .none (hS "law_pe0265_02" 657) none (.ref 265) .none 0)), #[]⟩),
  (267, ⟨(.type "tuple"), none, (.seq #[] 0), #[]⟩),
  (270, ⟨(.type "code"), none, (.fields #[(hS "_law_told" 673), (hS "_law_told" 674), (hS "/claim/cut.py" 675), (.int 167 0), (.int 1 0), (.int 0 0), (.int 0 0), (.int 3 0), (.ref 267), (.bool true), (.int 276 0), (.ref 268), .none, .none, .none, (.ref 269), (.int 676 0), (.int 167 0), (hS "/claim/cut.py" 677)]), #[]⟩),
  (271, ⟨(.type "function"), none, (.func (hF (hA 13) "_law_told" .none .none .none (hS "law_pe0265_02" 657) none (.ref 270) .none 0)), #[]⟩),
  (272, ⟨(.type "tuple"), none, (.seq #[] 0), #[]⟩),
  (274, ⟨(.type "tuple"), none, (.seq #[(hS "counts" 682), (hS "columns" 683), (hS "size" 684), (hS "column" 685), (hS "length" 686), (hS "turn" 687)] 0), #[]⟩),
  (275, ⟨(.type "tuple"), none, (.seq #[] 0), #[]⟩),
  (277, ⟨(.type "code"), none, (.fields #[(hS "_law_columns" 679), (hS "_law_columns" 680), (hS "/claim/cut.py" 681), (.int 189 0), (.int 1 0), (.int 0 0), (.int 0 0), (.int 3 0), (.ref 272), (.bool true), (.int 276 0), (.ref 273), .none, (.ref 274), (.ref 275), (.ref 276), (.int 688 0), (.int 189 0), (hS "/claim/cut.py" 689)]), #[]⟩),
  (278, ⟨(.type "function"), none, (.func (hF (hA 14) "_law_columns" .none .none .none (hS "law_pe0265_02" 657) none (.ref 277) .none 0)), #[]⟩),
  (279, ⟨(.type "tuple"), none, (.seq #[] 0), #[]⟩),
  (282, ⟨(.type "code"), none, (.fields #[(hS "_law_due" 691), (hS "_law_due" 692), (hS "/claim/cut.py" 693), (.int 199 0), (.int 1 0), (.int 0 0), (.int 0 0), (.int 3 0), (.ref 279), (.bool true), (.int 276 0), (.ref 280), .none, .none, .none, (.ref 281), (.int 694 0), (.int 199 0), (hS "/claim/cut.py" 695)]), #[]⟩),
  (283, ⟨(.type "function"), none, (.func (hF (hA 15) "_law_due" .none .none .none (hS "law_pe0265_02" 657) none (.ref 282) .none 0)), #[]⟩),
  (284, ⟨(.type "tuple"), none, (.seq #[] 0), #[]⟩),
  (286, ⟨(.type "tuple"), none, (.seq #[(hS "script" 700), (hS "calls" 701)] 0), #[]⟩),
  (287, ⟨(.type "tuple"), none, (.seq #[] 0), #[]⟩),
  (289, ⟨(.type "code"), none, (.fields #[(hS "law" 697), (hS "law" 698), (hS "/claim/cut.py" 699), (.int 215 0), (.int 1 0), (.int 0 0), (.int 0 0), (.int 3 0), (.ref 284), (.bool true), (.int 276 0), (.ref 285), .none, (.ref 286), (.ref 287), (.ref 288), (.int 702 0), (.int 215 0), (hS "/claim/cut.py" 703)]), #[]⟩),
  (290, ⟨(.type "function"), none, (.func (hF (hA 16) "law" .none .none .none (hS "law_pe0265_02" 657) none (.ref 289) .none 0)), #[]⟩)]
noncomputable def as2 : List Nat := [2, 3, 32, 34, 35, 37, 38, 49, 51, 52, 54, 55, 56, 58, 59, 61, 62, 63, 65, 66, 68, 69, 70, 72, 73, 75, 76, 77, 79, 80, 82, 83, 84, 86, 87, 89, 90, 91, 93, 94, 96, 97, 98, 99, 100, 101, 102, 108, 109, 113, 114, 118, 119, 120, 121, 123, 124, 126, 127, 135, 136, 138, 139, 141, 142, 143, 145, 146, 148, 149, 150, 152, 153, 155, 156, 157, 159, 160, 162, 163, 164, 167, 168, 169, 171, 172, 174, 175, 176, 178, 179, 181, 182, 183, 185, 186, 188, 189, 190, 191, 193, 194, 196, 197, 198, 201, 202, 203, 206, 207, 208, 210, 211, 213, 214, 215, 217, 218, 220, 221, 222, 225, 226, 227, 229, 230, 232, 233, 234, 236, 237, 239, 240, 241, 243, 244, 246, 247, 248, 249, 250, 251, 252, 255, 258, 259, 260, 262, 263, 265, 266, 267, 270, 271, 272, 274, 275, 277, 278, 279, 282, 283, 284, 286, 287, 289, 290]
noncomputable def view2 : Program := { pwQ with main := { pwQ.main with body := [0, 1, 3, 5, 6, 7, 9, 11, 12, 13, 14, 15, 16].map hA } }
noncomputable def loose2 : List Str := [Str.ofString "Whitespace", Str.ofString "tspecials", Str.ofString "_name_disallowed_re", Str.ofString "_value_disallowed_re", Str.ofString "_formatparam"]
end Mine
namespace Mine
open PySem PySem.W PyProof.Rows
noncomputable abbrev qTab : String → Option Builtin := Fast.tw14364793385576792824
theorem qTab_eq : qTab = treeTable := Fast.te14364793385576792824.symm
noncomputable def qStep (p : Program) (w : World) (s : SharedT) (t : Thread) : Option (SharedT × Thread) := Fast.tw10156331382660048174 (Fast.tw11892475500146522536 qTab) p w s t
theorem qStep_of {p : Program} {w : World} {s s' : SharedT} {t t' : Thread} (h : qStep p w s t = some (s', t')) : step (denote treeTable) p w s.abs t = .go s'.abs t' := by
  unfold qStep at h
  rw [← Fast.te10156331382660048174, ← Fast.te11892475500146522536, qTab_eq] at h
  exact stepT_spec h
noncomputable def qTop (p : Program) (w : World) (n₀ : Nat) (ann : Option Value) : Nat → SharedT → Thread → Option SharedT
  | 0, _, _ => none
  | n + 1, s, t => match through t with
    | true => some s
    | false => match Fast.tw6613529449190102663 n₀ ann t with
      | false => none
      | true => match qStep p w s t with
        | some r => qTop p w n₀ ann n r.1 r.2
        | none => none
theorem qTop_of {p : Program} {w : World} {n₀ : Nat} {ann : Option Value} : ∀ {n : Nat} {s s' : SharedT} {t : Thread}, qTop p w n₀ ann n s t = some s' → topRun treeTable p w n₀ ann n s.abs t = some s'.abs
  | 0, _, _, _, h => by cases h
  | n + 1, s, s', t, h => by
    unfold qTop at h
    unfold topRun
    rw [← Fast.te6613529449190102663] at h
    cases ht : through t with
    | true => rw [ht] at h; cases h; rfl
    | false =>
      rw [ht] at h
      cases hk : stepOk n₀ ann t with
      | false => rw [hk] at h; cases h
      | true =>
        rw [hk] at h
        cases hs : qStep p w s t with
        | none => rw [hs] at h; cases h
        | some r => obtain ⟨s₂, t₂⟩ := r; rw [hs] at h; dsimp only; rw [qStep_of hs]; exact qTop_of h
noncomputable def qImp (p : Program) (w : World) : Nat → SharedT → Thread → Option SharedT
  | 0, _, _ => none
  | n + 1, s, t => match Fast.tw3805553451399329143 t with
    | some l => (match l with | [] => some s | _ :: _ => none)
    | none => match qStep p w s t with
      | some r => qImp p w n r.1 r.2
      | none => none
theorem qImp_of {p : Program} {w : World} : ∀ {n : Nat} {s s' : SharedT} {t : Thread}, qImp p w n s t = some s' → importEnds treeTable p w n s.abs t = some s'.abs
  | 0, _, _, _, h => by cases h
  | n + 1, s, s', t, h => by
    unfold qImp at h
    unfold importEnds
    rw [← Fast.te3805553451399329143] at h
    cases he : t.atExitBegin with
    | some l =>
      rw [he] at h
      cases l with
      | nil => cases h; rfl
      | cons x r => cases h
    | none =>
      rw [he] at h
      cases hs : qStep p w s t with
      | none => rw [hs] at h; cases h
      | some r => obtain ⟨s₂, t₂⟩ := r; rw [hs] at h; dsimp only; rw [qStep_of hs]; exact qImp_of h
noncomputable def qGrow : List Obj → BT → Nat → Option (BT × Nat)
  | [], T, n => some (T, n)
  | o :: r, T, n => match ((T.ins n o).get n).isSome with
    | true => qGrow r (T.ins n o) (n + 1)
    | false => none
theorem qGrow_of (life : Life) : ∀ {l : List Obj} {T : BT} {n : Nat} {q : BT × Nat}, qGrow l T n = some q → absHeap q.1 q.2 life = ⟨((absHeap T n life).objs.toList ++ l).toArray, life⟩
  | [], T, n, q, h => by cases h; rw [List.append_nil]; rfl
  | o :: r, T, n, q, h => by
    unfold qGrow at h
    cases hs : ((T.ins n o).get n).isSome with
    | false => rw [hs] at h; cases h
    | true =>
      rw [hs] at h
      rw [qGrow_of life h, absHeap_ins hs]
      show Heap.mk _ _ = Heap.mk _ _
      refine congrArg (Heap.mk · life) (congrArg List.toArray ?_)
      show ((absHeap T n life).objs.push o).toList ++ r = _
      rw [Array.toList_push, List.append_assoc]
      rfl
noncomputable def qTree (s : Shared) : Option SharedT := (qGrow s.heap.objs.toList .nil 0).map fun q => ⟨q.1, q.2, s.heap.life, s.gens, s.drawn, s.toks, s.os⟩
theorem qTree_of {s : Shared} {t : SharedT} (h : qTree s = some t) : t.abs = s := by
  obtain ⟨q, e, rfl⟩ := Option.map_eq_some_iff.mp h
  show (⟨absHeap q.1 q.2 s.heap.life, s.gens, s.drawn, s.toks, s.os⟩ : Shared) = s
  rw [qGrow_of s.heap.life e]
  rfl
noncomputable def qEnds (p : Program) (w : World) (N : Nat) : Option Shared :=
  (qTree (Fast.tw1435165496053646825 (opening p)).1).bind fun s => (qImp (opening p) w N s (Fast.tw1435165496053646825 (opening p)).2).bind fun s₁ => (Fast.tw14289696077712309145 p s₁.abs).bind fun s₂ => (qTree s₂).bind fun s₃ =>
    match s₂.heap.isNs mainGlobals && s₂.gens.size == 0 with
    | true => (qTop p w s₂.heap.objs.size (s₂.heap.nsMap mainGlobals "__annotations__") N s₃ (topStub p)).bind fun s₄ => (match staticsOk (importedModules p.main.body) s₂.heap s₄.abs.heap && namesBound p s₄.abs.heap && gensDone s₄.abs && laidKept s₂.heap s₄.abs.heap with
      | true => some s₄.abs
      | false => none)
    | false => none
theorem qEnds_of {p : Program} {w : World} {N : Nat} {s : Shared} (h : qEnds p w N = some s) : openEnds treeTable p w N = some s := by
  unfold qEnds at h
  rw [← Fast.te1435165496053646825, ← Fast.te14289696077712309145] at h
  obtain ⟨s0, h0, h⟩ := Option.bind_eq_some_iff.mp h
  obtain ⟨s1, h1, h⟩ := Option.bind_eq_some_iff.mp h
  obtain ⟨s2, h2, h⟩ := Option.bind_eq_some_iff.mp h
  obtain ⟨s3, h3, h⟩ := Option.bind_eq_some_iff.mp h
  unfold openEnds fencedOpening
  have a1 := qImp_of h1
  rw [qTree_of h0] at a1
  rw [a1]
  show (fenceModules? p s1.abs).bind _ = _
  rw [h2]
  show topFrom treeTable p w N s2 = _
  unfold topFrom
  cases hb : (s2.heap.isNs mainGlobals && s2.gens.size == 0) with
  | false => rw [hb] at h; cases h
  | true =>
    rw [hb] at h
    dsimp only at h ⊢
    obtain ⟨s4, h4, h⟩ := Option.bind_eq_some_iff.mp h
    have a4 := qTop_of h4
    rw [qTree_of h3] at a4
    rw [a4]
    cases hc : (staticsOk (importedModules p.main.body) s2.heap s4.abs.heap && namesBound p s4.abs.heap && gensDone s4.abs && laidKept s2.heap s4.abs.heap) with
    | false => rw [hc] at h; cases h
    | true =>
      rw [hc] at h
      show (match staticsOk (importedModules p.main.body) s2.heap s4.abs.heap && namesBound p s4.abs.heap && gensDone s4.abs && laidKept s2.heap s4.abs.heap with | true => some s4.abs | false => none) = _
      rw [hc]
      exact h
theorem qLook {p : Program} {w : World} {N : Nat} {α : Type} {f : Shared → α} {v : α} (h : (qEnds p w N).map f = some v) : (openEnds treeTable p w N).map f = some v := by
  obtain ⟨s, e, r⟩ := Option.map_eq_some_iff.mp h
  rw [qEnds_of e]
  exact congrArg some r
end Mine
namespace Mine
open PySem PySem.W PyProof.Rows
abbrev rQ : OpenLaw := PySem.Challenge.rw_pe0265_02
theorem keys2 (P : Params) : as2 = (K2 P).map (·.1) := by kernel_rfl
noncomputable abbrev hook2 : Hook := kHook K2 as2 keys2
theorem said2 : rQ.wellSaid = true := by
  rw [Fast.te9446332074065402090]
  kernel_rfl
abbrev row2 : RowW := rQ.row.toRowW
noncomputable abbrev xt2 (s : Shared) : Bool := xlAt view2 [] s && recOk (RowW.records row2) s
noncomputable abbrev ends2 (w : World) : Prop := (qEnds pwQ w 3540).map (fun s => (Fast.tw4187177175401517315 view2 loose2 (importedModules pwQ.main.body) xt2 true s, Hook.obs hook2 s)) = some (openGood view2 loose2, Hook.val hook2 w)
theorem ends2_no (w : World) : ends2 (w.withFollow "special-get-raises" false) := by kernel_rfl
theorem ends2_yes (w : World) : ends2 (w.withFollow "special-get-raises" true) := by kernel_rfl
theorem left2 : LeftO pwQ view2 loose2 xt2 (Hook.obs hook2) (Hook.val hook2) 3540 := fun w => by
  have h : ends2 w := byRow2 "special-get-raises" (P := fun w => ends2 w) ends2_no ends2_yes w
  rw [ends2, ← Fast.te4187177175401517315] at h
  exact qLook h
noncomputable def fnDef : Stmt → DefRec
  | .FunctionDef name args body _ _ _ scope _ _ pos => ⟨name, args, body, scope, pos⟩
  | _ => ⟨default, default, [], default, default⟩
noncomputable def def2 : DefRec := fnDef (hA 16)
theorem head2 (call : WalkX view2 loose2 (XL view2 []) (Hook.obs hook2) (Hook.val hook2) row2 def2 [] fun f vs => PySem.call f vs) : rQ.Holds :=
  holds_law said2 fun said => holds_openX (q := view2) (loose := loose2) (Xt := xt2) (XP := XL view2 []) (Yf := Hook.obs hook2) (Ya := Hook.val hook2) (d := def2) (kwd := []) (N := 3540) left2
    (fun s e => xl_of s (Bool.and_eq_true_iff.mp e).1) XL.keeps (by kernel_rfl) (by kernel_rfl) (by kernel_rfl) (fun s e => recFacts_of (Bool.and_eq_true_iff.mp e).2) (by rfl) said (by decide +kernel) ⟨rfl, rfl, rfl, rfl, rfl, by decide +kernel⟩ (by w_witness2) call
end Mine
namespace Mine
open PySem PySem.Spec PySem.Calls PyProof.Rows PySem.W

inductive V where
  | none
  | bool (b : Bool)
  | int (i : Int)
  | str (s : Str)
  | g (v : Value)
  | tup (vs : List V)
  | lst (vs : List V)
  | obj (C : Addr) (vs : List V)
  | inst (C : Addr) (n : Nat)
  | ref (n : Nat)
  | rng (a b : Int)
  | edict
  deriving Inhabited

inductive SO where
  | lst (vs : List V)
  | dict (C : Addr) (vs : List V)
  | dead
  deriving Inhabited

noncomputable abbrev Hp := List SO
noncomputable abbrev Loc := List (Option V)

noncomputable def Free (F : Addr → Prop) (ρ : List Addr) (a : Addr) : Prop := ¬ F a ∧ a ∉ ρ

noncomputable def AttrMap (names : List Str) (xs : List Value) (m : Str → Option Value) : Prop := ∀ x, m x = (names.zip xs).lookup x

mutual
inductive VR (lay : Addr → List Str) (F : Addr → Prop) (ρ : List Addr) (h : Heap) : V → Value → Prop
  | none : VR lay F ρ h .none .none
  | bool {b} : VR lay F ρ h (.bool b) (.bool b)
  | int {i t} : VR lay F ρ h (.int i) (.int i t)
  | str {s t} : VR lay F ρ h (.str s) (.str s t)
  | g {v} : VR lay F ρ h (.g v) v
  | tup {vs a items} : Free F ρ a → h.IsTuple a items → VRs lay F ρ h vs items.toList → VR lay F ρ h (.tup vs) (.ref a)
  | lst {vs a items} : Free F ρ a → h.PlainList a items → VRs lay F ρ h vs items.toList → VR lay F ρ h (.lst vs) (.ref a)
  | obj {C vs a dx m xs} : Free F ρ a → Free F ρ dx → h.get? a = some (instObj C dx) → h.Ns1 dx m → AttrMap (lay C) xs m →
      VRs lay F ρ h vs xs → VR lay F ρ h (.obj C vs) (.ref a)
  | inst {C a dx} {n : Nat} : Free F ρ a → h.get? a = some (instObj C dx) → ρ[n]? = some dx → VR lay F ρ h (.inst C n) (.ref a)
  | ref {a} {n : Nat} : ρ[n]? = some a → VR lay F ρ h (.ref n) (.ref a)
  | rng {lo hi a t u v} : Free F ρ a → IsRange h a lo hi 1 t u v → VR lay F ρ h (.rng lo hi) (.ref a)
  | edict {a} : Free F ρ a → h.get? a = some emptyDict → (a == sysModules) = false → VR lay F ρ h .edict (.ref a)
inductive VRs (lay : Addr → List Str) (F : Addr → Prop) (ρ : List Addr) (h : Heap) : List V → List Value → Prop
  | nil : VRs lay F ρ h [] []
  | cons {v vs x xs} : VR lay F ρ h v x → VRs lay F ρ h vs xs → VRs lay F ρ h (v :: vs) (x :: xs)
end

structure Grow (F : Addr → Prop) (ρ : List Addr) (h : Heap) (F' : Addr → Prop) (ρ' : List Addr) (h' : Heap) : Prop where
  keep : ∀ b o, Free F ρ b → h.get? b = some o → h'.get? b = some o
  free : ∀ b o, Free F ρ b → h.get? b = some o → Free F' ρ' b
  slot : ∀ (n : Nat) a, ρ[n]? = some a → ρ'[n]? = some a

section
variable {lay : Addr → List Str} {F F' : Addr → Prop} {ρ ρ' : List Addr} {h h' : Heap}
theorem VR.grow (G : Grow F ρ h F' ρ' h') {v x} (r : VR lay F ρ h v x) : VR lay F' ρ' h' v x :=
  VR.rec (motive_1 := fun v x _ => VR lay F' ρ' h' v x) (motive_2 := fun vs xs _ => VRs lay F' ρ' h' vs xs) .none .bool .int .str .g
    (fun fr ht _ ih => ht.elim fun o q => .tup (G.free _ _ fr q.1) ⟨o, G.keep _ _ fr q.1, q.2⟩ ih)
    (fun fr ht _ ih => ht.elim fun n ho => .lst (G.free _ _ fr ho) ⟨n, G.keep _ _ fr ho⟩ ih)
    (fun fa fd ha hn k _ ih => hn.elim fun o q => q.elim fun es q => q.elim fun ep q => .obj (G.free _ _ fa ha) (G.free _ _ fd q.1) (G.keep _ _ fa ha) ⟨o, es, ep, G.keep _ _ fd q.1, q.2⟩ k ih)
    (fun fa ha hn => .inst (G.free _ _ fa ha) (G.keep _ _ fa ha) (G.slot _ _ hn))
    (fun hn => .ref (G.slot _ _ hn))
    (fun fa hr => .rng (G.free _ _ fa hr) (G.keep _ _ fa hr))
    (fun fa hr z => .edict (G.free _ _ fa hr) (G.keep _ _ fa hr) z)
    .nil (fun _ _ a b => .cons a b) r
theorem VRs.grow (G : Grow F ρ h F' ρ' h') {vs xs} (r : VRs lay F ρ h vs xs) : VRs lay F' ρ' h' vs xs := by
  induction xs generalizing vs with
  | nil => cases r; exact .nil
  | cons x xs ih => cases r with | cons a b => exact .cons (a.grow G) (ih b)
theorem VRs.length {vs : List V} {xs : List Value} (r : VRs lay F ρ h vs xs) : vs.length = xs.length := by
  induction xs generalizing vs with
  | nil => cases r; rfl
  | cons x xs ih => cases r with | cons a b => simp [ih b]
theorem VRs.get {vs : List V} {xs : List Value} (r : VRs lay F ρ h vs xs) (i : Nat) {v : V} (hv : vs[i]? = some v) : ∃ x, xs[i]? = some x ∧ VR lay F ρ h v x := by
  induction xs generalizing vs i with
  | nil => cases r; simp at hv
  | cons x xs ih =>
    cases r with
    | cons a b =>
      cases i with
      | zero => simp at hv; subst hv; exact ⟨x, rfl, a⟩
      | succ i => simpa using ih b i (by simpa using hv)
theorem VRs.append {vs ws : List V} {xs ys : List Value} (r : VRs lay F ρ h vs xs) (q : VRs lay F ρ h ws ys) : VRs lay F ρ h (vs ++ ws) (xs ++ ys) := by
  induction xs generalizing vs with
  | nil => cases r; exact q
  | cons x xs ih => cases r with | cons a b => exact .cons a (ih b)
theorem VRs.take {vs : List V} {xs : List Value} (r : VRs lay F ρ h vs xs) (n : Nat) : VRs lay F ρ h (vs.take n) (xs.take n) := by
  induction xs generalizing vs n with
  | nil => cases r; simp; exact .nil
  | cons x xs ih =>
    cases r with
    | cons a b => cases n with
      | zero => exact .nil
      | succ n => exact .cons a (ih b n)
theorem VRs.drop {vs : List V} {xs : List Value} (r : VRs lay F ρ h vs xs) (n : Nat) : VRs lay F ρ h (vs.drop n) (xs.drop n) := by
  induction xs generalizing vs n with
  | nil => cases r; simp; exact .nil
  | cons x xs ih =>
    cases r with
    | cons a b => cases n with
      | zero => exact .cons a b
      | succ n => exact ih b n
theorem VRs.set {vs : List V} {xs : List Value} {v : V} {x : Value} (r : VRs lay F ρ h vs xs) (n : Nat) (q : VR lay F ρ h v x) : VRs lay F ρ h (vs.set n v) (xs.set n x) := by
  induction xs generalizing vs n with
  | nil => cases r; simp; exact .nil
  | cons y xs ih =>
    cases r with
    | cons a b => cases n with
      | zero => exact .cons q b
      | succ n => exact .cons a (ih b n)
end

noncomputable def alive (σ : Hp) (n : Nat) : Prop := ∃ o, σ[n]? = some o ∧ o ≠ .dead
noncomputable def Live (ρ : List Addr) (σ : Hp) (b : Addr) : Prop := ∃ n : Nat, ρ[n]? = some b ∧ alive σ n
noncomputable def NoW : Addr → Prop := fun _ => False

noncomputable def OR (lay : Addr → List Str) (F : Addr → Prop) (ρ : List Addr) (h : Heap) : SO → Addr → Prop
  | .lst vs, a => ∃ items, h.PlainList a items ∧ VRs lay F ρ h vs items.toList
  | .dict C vs, a => ∃ m xs, h.Ns1 a m ∧ AttrMap (lay C) xs m ∧ VRs lay F ρ h vs xs
  | .dead, _ => True

structure HInv (lay : Addr → List Str) (F : Addr → Prop) (h₀ : Heap) (ρ : List Addr) (σ : Hp) (h : Heap) : Prop where
  len : σ.length = ρ.length
  nodup : ρ.Nodup
  own : ∀ a ∈ ρ, ¬ F a ∧ h₀.get? a = none ∧ ∃ o, h.get? a = some o
  fr : ∀ a, F a → h₀.get? a = none ∧ ∃ o, h.get? a = some o
  objs : ∀ (n : Nat) o a, σ[n]? = some o → ρ[n]? = some a → OR lay F ρ h o a
  base : ∀ b o, h₀.get? b = some o → h.get? b = some o

structure Adv (ρ : List Addr) (σ : Hp) (s : Shared) (ρ' : List Addr) (σ' : Hp) (s' : Shared) (W : Addr → Prop) : Prop where
  tl : ∃ tl, ρ' = ρ ++ tl ∧ ∀ a ∈ tl, s.heap.get? a = none
  live : ∀ n, n < σ.length → alive σ' n → alive σ n
  keep : ∀ b o, s.heap.get? b = some o → ¬ Live ρ σ b → ¬ W b → s'.heap.get? b = some o
  there : ∀ b o, s.heap.get? b = some o → ∃ o', s'.heap.get? b = some o'
  gens : s'.gens = s.gens
  drawn : s'.drawn = s.drawn
  os : s'.os = s.os

section
variable {lay : Addr → List Str} {F : Addr → Prop} {h₀ : Heap} {ρ ρ' ρ'' : List Addr} {σ σ' σ'' : Hp} {s s' s'' : Shared} {W : Addr → Prop}

theorem Live.mem {b : Addr} (l : Live ρ σ b) : b ∈ ρ := let ⟨_, e, _⟩ := l; List.mem_of_getElem? e

theorem Adv.refl : Adv ρ σ s ρ σ s W := ⟨⟨[], by simp, by simp⟩, fun _ _ x => x, fun _ _ e _ _ => e, fun _ o e => ⟨o, e⟩, rfl, rfl, rfl⟩

theorem Adv.trans (hl : σ.length = ρ.length) (x : Adv ρ σ s ρ' σ' s' W) (hl' : σ'.length = ρ'.length) (y : Adv ρ' σ' s' ρ'' σ'' s'' W) : Adv ρ σ s ρ'' σ'' s'' W := by
  obtain ⟨tl, rfl, ht⟩ := x.tl
  obtain ⟨tl', rfl, ht'⟩ := y.tl
  have lt : σ.length ≤ σ'.length := by rw [hl', hl, List.length_append]; omega
  refine ⟨⟨tl ++ tl', by simp, fun a ha => ?_⟩, fun n hn q => x.live n hn (y.live n (Nat.lt_of_lt_of_le hn lt) q), fun b o e nl nw => ?_, fun b o e => ?_, y.gens.trans x.gens, y.drawn.trans x.drawn, y.os.trans x.os⟩
  · rcases List.mem_append.mp ha with h | h
    · exact ht a h
    · cases e : s.heap.get? a with
      | none => rfl
      | some o => obtain ⟨o', e'⟩ := x.there a o e; rw [ht' a h] at e'; cases e'
  · refine y.keep b o (x.keep b o e nl nw) (fun ⟨n, en, al⟩ => ?_) nw
    by_cases hn : n < ρ.length
    · exact nl ⟨n, by rwa [List.getElem?_append_left hn] at en, x.live n (hl ▸ hn) al⟩
    · rw [List.getElem?_append_right (Nat.le_of_not_lt hn)] at en
      have := ht b (List.mem_of_getElem? en)
      rw [this] at e; cases e
  · obtain ⟨o', e'⟩ := x.there b o e
    exact y.there b o' e'

theorem Adv.mono {W' : Addr → Prop} (x : Adv ρ σ s ρ' σ' s' W) (hw : ∀ b, W b → W' b) : Adv ρ σ s ρ' σ' s' W' :=
  ⟨x.tl, x.live, fun b o e nl nw => x.keep b o e nl (fun h => nw (hw b h)), x.there, x.gens, x.drawn, x.os⟩

theorem Adv.grow (H0 : HInv lay F h₀ ρ σ s.heap) (x : Adv ρ σ s ρ' σ' s' W) (hw : ∀ b, W b → F b) : Grow F ρ s.heap F ρ' s'.heap := by
  obtain ⟨tl, rfl, ht⟩ := x.tl
  refine ⟨fun b o fr e => x.keep b o e (fun l => fr.2 l.mem) (fun q => fr.1 (hw b q)), fun b o fr e => ⟨fr.1, fun hm => ?_⟩, fun n a e => ?_⟩
  · rcases List.mem_append.mp hm with q | q
    · exact fr.2 q
    · rw [ht b q] at e; cases e
  · obtain ⟨hn, _⟩ := List.getElem?_eq_some_iff.mp e
    rw [List.getElem?_append_left hn]; exact e
theorem Adv.growE (H : HInv lay F h₀ ρ σ s.heap) (x : Adv ρ σ s ρ' σ' s' NoW) : Grow F ρ s.heap F ρ' s'.heap := x.grow H (fun _ q => q.elim)

theorem VR.adv (H : HInv lay F h₀ ρ σ s.heap) (x : Adv ρ σ s ρ' σ' s' NoW) {v y} (r : VR lay F ρ s.heap v y) : VR lay F ρ' s'.heap v y := r.grow (x.growE H)
theorem VRs.adv (H : HInv lay F h₀ ρ σ s.heap) (x : Adv ρ σ s ρ' σ' s' NoW) {v y} (r : VRs lay F ρ s.heap v y) : VRs lay F ρ' s'.heap v y := r.grow (x.growE H)

theorem OR.grow {h h' : Heap} (hk : ∀ b o, h.get? b = some o → h'.get? b = some o) (G : Grow F ρ h F ρ' h') {o : SO} {a : Addr} (r : OR lay F ρ h o a) : OR lay F ρ' h' o a := by
  cases o with
  | lst vs => obtain ⟨items, ⟨n, ho⟩, v⟩ := r; exact ⟨items, ⟨n, hk _ _ ho⟩, v.grow G⟩
  | dict C vs => obtain ⟨m, xs, ⟨o, es, ep, e, z⟩, q, v⟩ := r; exact ⟨m, xs, ⟨o, es, ep, hk _ _ e, z⟩, q, v.grow G⟩
  | dead => trivial

theorem HInv.ext {h h' : Heap} (H : HInv lay F h₀ ρ σ h) (hk : ∀ b o, h.get? b = some o → h'.get? b = some o) : HInv lay F h₀ ρ σ h' := by
  have G : Grow F ρ h F ρ h' := ⟨fun b o _ e => hk b o e, fun b o fr _ => fr, fun _ _ e => e⟩
  exact ⟨H.len, H.nodup, fun a ha => let ⟨x, y, o, e⟩ := H.own a ha; ⟨x, y, o, hk _ _ e⟩, fun a ha => let ⟨y, o, e⟩ := H.fr a ha; ⟨y, o, hk _ _ e⟩,
    fun n o a e q => (H.objs n o a e q).grow hk G, fun b o e => hk _ _ (H.base b o e)⟩
theorem HInv.sameF {h h' : Heap} (H : HInv lay F h₀ ρ σ h) (hk : ∀ b o, ¬ F b → h.get? b = some o → h'.get? b = some o) (ht : ∀ b o, F b → h.get? b = some o → ∃ o', h'.get? b = some o') : HInv lay F h₀ ρ σ h' := by
  have G : Grow F ρ h F ρ h' := ⟨fun b o fr e => hk b o fr.1 e, fun b o fr _ => fr, fun _ _ e => e⟩
  refine ⟨H.len, H.nodup, fun a ha => let ⟨x, y, o, e⟩ := H.own a ha; ⟨x, y, o, hk _ _ x e⟩, fun a ha => let ⟨y, o, e⟩ := H.fr a ha; ⟨y, ht a o ha e⟩, fun n o a e q => ?_, fun b o e => ?_⟩
  · have na := (H.own a (List.mem_of_getElem? q)).1
    have r := H.objs n o a e q
    cases o with
    | lst vs => obtain ⟨items, ⟨n, ho⟩, v⟩ := r; exact ⟨items, ⟨n, hk _ _ na ho⟩, v.grow G⟩
    | dict C vs => obtain ⟨m, xs, ⟨o, es, ep, e, z⟩, q, v⟩ := r; exact ⟨m, xs, ⟨o, es, ep, hk _ _ na e, z⟩, q, v.grow G⟩
    | dead => trivial
  · refine hk b o (fun fb => ?_) (H.base b o e)
    rw [(H.fr b fb).1] at e; cases e
theorem Adv.ext {h' : Heap} {tk : Nat} (hk : ∀ b o, s.heap.get? b = some o → h'.get? b = some o) : Adv ρ σ s ρ σ { s with heap := h', toks := tk } W :=
  ⟨⟨[], by simp, by simp⟩, fun _ _ x => x, fun b o e _ _ => hk b o e, fun b o e => ⟨o, hk b o e⟩, rfl, rfl, rfl⟩
theorem Adv.toks {tk : Nat} : Adv ρ σ s ρ σ { s with toks := tk } W := Adv.ext fun _ _ e => e
end

noncomputable def VarAt (env : Env) (h : Heap) (x : Str) (y : Value) : Prop :=
  (env.kindOf x = some .local ∧ ∃ m, h.Ns env.locals m ∧ m x = some y) ∨ (env.kindOf x = some .cell ∧ ∃ c, env.cells.lookup x = some c ∧ h.IsCell c (some y))

structure VarsOk (vars : List (Nat × Str)) : Prop where
  inj1 : ∀ i j x, (i, x) ∈ vars → (j, x) ∈ vars → i = j
  inj2 : ∀ i x y, (i, x) ∈ vars → (i, y) ∈ vars → x = y
noncomputable def varsOk (vars : List (Nat × Str)) : Bool := vars.all fun p => vars.all fun q => (p.1 == q.1) == (p.2 == q.2)
theorem VarsOk.of {vars : List (Nat × Str)} (h : varsOk vars = true) : VarsOk vars := by
  have key : ∀ p ∈ vars, ∀ q ∈ vars, (p.1 == q.1) = (p.2 == q.2) := fun p hp q hq => by
    have := List.all_eq_true.mp (List.all_eq_true.mp h p hp) q hq
    exact eq_of_beq this
  refine ⟨fun i j x h1 h2 => ?_, fun i x y h1 h2 => ?_⟩
  · have := key _ h1 _ h2
    simp at this; exact this
  · have := key _ h1 _ h2
    simp at this; exact this

structure FrI (lay : Addr → List Str) (vars : List (Nat × Str)) (F : Addr → Prop) (ρ : List Addr) (env : Env) (loc : Loc) (h : Heap) : Prop where
  vok : VarsOk vars
  kind : env.scope.kind = .function
  glob : env.globals = mainGlobals
  bi : env.builtins = builtinsNs
  ns : ∃ m, h.Ns env.locals m
  loF : F env.locals
  cellsF : ∀ x c, env.cells.lookup x = some c → F c ∧ c ≠ env.locals ∧ ∃ v, h.IsCell c v
  cellsNe : ∀ x y c, env.cells.lookup x = some c → env.cells.lookup y = some c → x = y
  kinds : ∀ i x, (i, x) ∈ vars → env.kindOf x = some .local ∨ (env.kindOf x = some .cell ∧ ∃ c, env.cells.lookup x = some c)
  vals : ∀ i x v, (i, x) ∈ vars → loc[i]? = some (some v) → ∃ y, VarAt env h x y ∧ VR lay F ρ h v y

noncomputable def OwnW (env : Env) (a : Addr) : Prop := a = env.locals ∨ ∃ x, env.cells.lookup x = some a

section
variable {lay : Addr → List Str} {F : Addr → Prop} {h₀ : Heap} {ρ ρ' ρ'' : List Addr} {σ σ' σ'' : Hp} {s s' s'' : Shared} {vars : List (Nat × Str)} {env : Env} {loc : Loc}
theorem FrI.ownF {h : Heap} (I : FrI lay vars F ρ env loc h) : ∀ b, OwnW env b → F b := fun b q => by
  rcases q with rfl | ⟨x, e⟩
  · exact I.loF
  · exact (I.cellsF x b e).1
theorem FrI.adv (I : FrI lay vars F ρ env loc s.heap) (H : HInv lay F h₀ ρ σ s.heap) (x : Adv ρ σ s ρ' σ' s' NoW) : FrI lay vars F ρ' env loc s'.heap := by
  have nl : ∀ b, F b → ¬ Live ρ σ b := fun b fb l => (H.own b l.mem).1 fb
  have kp : ∀ b o, F b → s.heap.get? b = some o → s'.heap.get? b = some o := fun b o fb e => x.keep b o e (nl b fb) id
  have kn : ∀ m, s.heap.Ns env.locals m → s'.heap.Ns env.locals m := fun m ⟨o, es, ep, e, r⟩ => ⟨o, es, ep, kp _ _ I.loF e, r⟩
  have kc : ∀ c v, F c → s.heap.IsCell c v → s'.heap.IsCell c v := fun c v fc ⟨o, e, r⟩ => ⟨o, kp _ _ fc e, r⟩
  refine ⟨I.vok, I.kind, I.glob, I.bi, let ⟨m, q⟩ := I.ns; ⟨m, kn m q⟩, I.loF, fun y c e => let ⟨a, b, v, d⟩ := I.cellsF y c e; ⟨a, b, v, kc c v a d⟩, I.cellsNe, I.kinds, fun i y v hi hl => ?_⟩
  obtain ⟨z, hz, hv⟩ := I.vals i y v hi hl
  refine ⟨z, ?_, hv.adv H x⟩
  rcases hz with ⟨k, m, a, b⟩ | ⟨k, c, a, b⟩
  · exact .inl ⟨k, m, kn m a, b⟩
  · exact .inr ⟨k, c, a, kc c _ (I.cellsF y c a).1 b⟩
end

structure Cx where
  prog : Program
  w : World
  K : Frag
  h₀ : Heap
  lay : Addr → List Str
  mg : Str → Option Value
  mb : Str → Option Value

structure Cx.Ok (c : Cx) : Prop where
  kin : c.K.In c.h₀
  g : c.h₀.Ns mainGlobals c.mg
  b : c.h₀.Ns builtinsNs c.mb
  builtins : ∀ x : Str, x ≠ "__name__" → c.mb x = bootBuiltins x
  nolimit : c.h₀.NoLimit

noncomputable def AOk (k : Nat) (A : Around) : Prop := A.handled = none ∧ A.depth + 4 * k < recursionLimit ∧ A.units + 40 * k < cLine ∧ A.guards = some []

noncomputable abbrev SE := Loc → Hp → Option (V × Hp)
inductive Fl where
  | next | brk | cont
  | ret (v : V)
noncomputable abbrev SS := Loc → Hp → Option (Fl × Loc × Hp)

inductive FlR (lay : Addr → List Str) (F : Addr → Prop) (ρ : List Addr) (h : Heap) : Fl → Flow → Prop
  | next : FlR lay F ρ h .next .next
  | brk : FlR lay F ρ h .brk .brk
  | cont : FlR lay F ρ h .cont .cont
  | ret {v x} : VR lay F ρ h v x → FlR lay F ρ h (.ret v) (.ret x)

noncomputable def DenE (c : Cx) (k : Nat) (vars : List (Nat × Str)) (sc : Scope) (e : Expr) (f : SE) : Prop :=
  ∀ (env : Env) (A : Around) (s : Shared) (F : Addr → Prop) (ρ : List Addr) (loc : Loc) (σ : Hp) (v : V) (σ' : Hp) (Q E : Value → Shared → Prop),
    env.scope = sc → AOk k A → HInv c.lay F c.h₀ ρ σ s.heap → FrI c.lay vars F ρ env loc s.heap → f loc σ = some (v, σ') →
    (∀ x s' ρ', HInv c.lay F c.h₀ ρ' σ' s'.heap → Adv ρ σ s ρ' σ' s' NoW → VR c.lay F ρ' s'.heap v x → Q x s') →
    wpAny (model c.prog c.w) A (eval e env) Q E s

noncomputable def DenS (c : Cx) (k : Nat) (vars : List (Nat × Str)) (sc : Scope) (st : Stmt) (f : SS) : Prop :=
  ∀ (env : Env) (A : Around) (s : Shared) (F : Addr → Prop) (ρ : List Addr) (loc : Loc) (σ : Hp) (fl : Fl) (loc' : Loc) (σ' : Hp) (Q : Flow → Shared → Prop) (E : Value → Shared → Prop),
    env.scope = sc → AOk k A → HInv c.lay F c.h₀ ρ σ s.heap → FrI c.lay vars F ρ env loc s.heap → f loc σ = some (fl, loc', σ') →
    (∀ x s' ρ', HInv c.lay F c.h₀ ρ' σ' s'.heap → FrI c.lay vars F ρ' env loc' s'.heap → Adv ρ σ s ρ' σ' s' (OwnW env) → FlR c.lay F ρ' s'.heap fl x → Q x s') →
    wpAny (model c.prog c.w) A (exec st env) Q E s

noncomputable def DenSs (c : Cx) (k : Nat) (vars : List (Nat × Str)) (sc : Scope) (sts : List Stmt) (f : SS) : Prop :=
  ∀ (env : Env) (A : Around) (s : Shared) (F : Addr → Prop) (ρ : List Addr) (loc : Loc) (σ : Hp) (fl : Fl) (loc' : Loc) (σ' : Hp) (Q : Flow → Shared → Prop) (E : Value → Shared → Prop),
    env.scope = sc → AOk k A → HInv c.lay F c.h₀ ρ σ s.heap → FrI c.lay vars F ρ env loc s.heap → f loc σ = some (fl, loc', σ') →
    (∀ x s' ρ', HInv c.lay F c.h₀ ρ' σ' s'.heap → FrI c.lay vars F ρ' env loc' s'.heap → Adv ρ σ s ρ' σ' s' (OwnW env) → FlR c.lay F ρ' s'.heap fl x → Q x s') →
    wpAny (model c.prog c.w) A (execs sts env) Q E s

noncomputable abbrev ST := Loc → Hp → Option (Bool × Hp)
noncomputable def DenT (c : Cx) (k : Nat) (vars : List (Nat × Str)) (sc : Scope) (e : Expr) (f : ST) : Prop :=
  ∀ (env : Env) (A : Around) (s : Shared) (F : Addr → Prop) (ρ : List Addr) (loc : Loc) (σ : Hp) (b : Bool) (σ' : Hp) (Q : Bool → Shared → Prop) (E : Value → Shared → Prop),
    env.scope = sc → AOk k A → HInv c.lay F c.h₀ ρ σ s.heap → FrI c.lay vars F ρ env loc s.heap → f loc σ = some (b, σ') →
    (∀ s' ρ', HInv c.lay F c.h₀ ρ' σ' s'.heap → Adv ρ σ s ρ' σ' s' NoW → Q b s') →
    wpAny (model c.prog c.w) A (isTrue e env (eval e env)) Q E s

end Mine
namespace Mine
open PySem PySem.Spec PySem.Calls PyProof.Rows PySem.W

noncomputable abbrev SF := List V → Hp → Option (V × Hp)

noncomputable def FnOk (c : Cx) (k : Nat) (t : List Value → Sem Value) (f : SF) : Prop :=
  ∀ (A : Around) (s : Shared) (F : Addr → Prop) (ρ : List Addr) (σ : Hp) (vs : List V) (xs : List Value) (v : V) (σ' : Hp) (Q E : Value → Shared → Prop),
    AOk k A → HInv c.lay F c.h₀ ρ σ s.heap → VRs c.lay F ρ s.heap vs xs → f vs σ = some (v, σ') →
    (∀ z s' ρ', HInv c.lay F c.h₀ ρ' σ' s'.heap → Adv ρ σ s ρ' σ' s' NoW → VR c.lay F ρ' s'.heap v z → Q z s') → wpAny (model c.prog c.w) A (t xs) Q E s

noncomputable def two (t : Value → Value → Sem Value) (xs : List Value) : Sem Value := t (xs.getD 0 .none) (xs.getD 1 .none)
noncomputable def one (t : Value → Sem Value) (xs : List Value) : Sem Value := t (xs.getD 0 .none)

noncomputable def kE (v : V) : SE := fun _ σ => some (v, σ)
noncomputable def nmE (i : Nat) : SE := fun loc σ => match loc[i]? with | some (some v) => some (v, σ) | _ => none
noncomputable def op2 (o : SF) (f g : SE) : SE := fun loc σ => match f loc σ with
  | some (a, σ₁) => (match g loc σ₁ with
    | some (b, σ₂) => o [a, b] σ₂
    | none => none)
  | none => none
noncomputable def op1 (o : SF) (f : SE) : SE := fun loc σ => match f loc σ with
  | some (a, σ₁) => o [a] σ₁
  | none => none
noncomputable def ifE (t : ST) (f g : SE) : SE := fun loc σ => match t loc σ with
  | some (true, σ₁) => f loc σ₁
  | some (false, σ₁) => g loc σ₁
  | none => none
noncomputable def notT (f : ST) : ST := fun loc σ => match f loc σ with
  | some (b, σ₁) => some (!b, σ₁)
  | none => none
noncomputable def argsE : List SE → Loc → Hp → Option (List V × Hp)
  | [], _, σ => some ([], σ)
  | f :: fs, loc, σ => match f loc σ with
    | some (a, σ₁) => (match argsE fs loc σ₁ with
      | some (as, σ₂) => some (a :: as, σ₂)
      | none => none)
    | none => none

noncomputable def nilS : SS := fun loc σ => some (.next, loc, σ)
noncomputable def seqS (f g : SS) : SS := fun loc σ => match f loc σ with
  | some (.next, loc₁, σ₁) => g loc₁ σ₁
  | r => r
noncomputable def ifS (t : ST) (f g : SS) : SS := fun loc σ => match t loc σ with
  | some (true, σ₁) => f loc σ₁
  | some (false, σ₁) => g loc σ₁
  | none => none
noncomputable def asgS (i : Nat) (f : SE) : SS := fun loc σ => match f loc σ with
  | some (v, σ₁) => if i < loc.length then some (.next, loc.set i (some v), σ₁) else none
  | none => none
noncomputable def retS (f : SE) : SS := fun loc σ => match f loc σ with
  | some (v, σ₁) => some (.ret v, loc, σ₁)
  | none => none
noncomputable def brkS : SS := fun loc σ => some (.brk, loc, σ)
noncomputable def exprS (f : SE) : SS := fun loc σ => match f loc σ with
  | some (_, σ₁) => some (.next, loc, σ₁)
  | none => none

section
variable {c : Cx} {k : Nat} {vars : List (Nat × Str)} {sc : Scope}

theorem Cx.Ok.atG (O : c.Ok) {F ρ σ} {h : Heap} (H : HInv c.lay F c.h₀ ρ σ h) : h.Ns mainGlobals c.mg := O.g.keeps H.base
theorem Cx.Ok.atB (O : c.Ok) {F ρ σ} {h : Heap} (H : HInv c.lay F c.h₀ ρ σ h) : h.Ns builtinsNs c.mb := O.b.keeps H.base
theorem Cx.Ok.atK (O : c.Ok) {F ρ σ} {h : Heap} (H : HInv c.lay F c.h₀ ρ σ h) : c.K.In h := O.kin.keeps H.base
theorem Cx.Ok.atL (O : c.Ok) {F ρ σ} {h : Heap} (H : HInv c.lay F c.h₀ ρ σ h) : h.NoLimit := O.nolimit.keeps H.base

theorem den_int {i : Int} {n pos} : DenE c k vars sc (.Constant (.int i) n pos) (kE (.int i)) := by
  intro env A s F ρ loc σ v σ' Q E _ _ H _ e q
  cases e
  exact wpAny_Constant_int (q _ _ ρ H .toks .int)
theorem den_str {x : Str} {n pos} : DenE c k vars sc (.Constant (.str x) n pos) (kE (.str x)) := by
  intro env A s F ρ loc σ v σ' Q E _ _ H _ e q
  cases e
  exact wpAny_Constant_str (q _ _ ρ H .toks .str)
theorem den_none {n pos} : DenE c k vars sc (.Constant .none n pos) (kE .none) := by
  intro env A s F ρ loc σ v σ' Q E _ _ H _ e q
  cases e
  exact wpAny_Constant_none (q _ _ ρ H .refl .none)
theorem den_bool {b : Bool} {n pos} : DenE c k vars sc (.Constant (.bool b) n pos) (kE (.bool b)) := by
  intro env A s F ρ loc σ v σ' Q E _ _ H _ e q
  cases e
  exact wpAny_Constant_bool (q _ _ ρ H .refl .bool)

theorem den_nm {i : Nat} {x : Str} {pos} (hm : (i, x) ∈ vars) (hd : (x == ("__debug__" : Str)) = false) : DenE c k vars sc (.Name x pos) (nmE i) := by
  intro env A s F ρ loc σ v σ' Q E _ _ H I e q
  unfold nmE at e
  split at e
  · rename_i v' hv
    cases e
    obtain ⟨y, hy, r⟩ := I.vals i x v hm hv
    refine wpAny_Name ?_ hd
    rcases hy with ⟨kd, m, hn, hx⟩ | ⟨kd, cl, hc, hx⟩
    · exact wpAny_loadName_local I.kind kd hn hx (q _ _ ρ H .refl r)
    · exact wpAny_loadName_cell I.kind kd hc hx (q _ _ ρ H .refl r)
  · cases e

theorem den_gl (O : c.Ok) {x : Str} {v₀ : Value} {pos} (hk : sc.names.lookup x = some .globalImplicit) (hv : nsIn c.K mainGlobals x = some (some v₀)) (hd : (x == ("__debug__" : Str)) = false) :
    DenE c k vars sc (.Name x pos) (kE (.g v₀)) := by
  intro env A s F ρ loc σ v σ' Q E hs _ H I e q
  cases e
  have hg := O.atG H
  rw [← I.glob] at hg
  refine Name_function_global I.kind (by rw [Env.kindOf, hs]; exact hk) (loadGlobal_global hg ?_ (q _ _ ρ H .refl .g)) hd
  exact mg_of O.kin O.g hv

theorem den_bi (O : c.Ok) {x : Str} {v₀ : Value} {pos} (hk : sc.names.lookup x = some .globalImplicit) (hv : nsIn c.K mainGlobals x = some none) (hb : bootBuiltins x = some v₀) (hn : x ≠ "__name__") (hd : (x == ("__debug__" : Str)) = false) :
    DenE c k vars sc (.Name x pos) (kE (.g v₀)) := by
  intro env A s F ρ loc σ v σ' Q E hs _ H I e q
  cases e
  have hg := O.atG H
  have hbi := O.atB H
  rw [← I.glob] at hg
  rw [← I.bi] at hbi
  refine Name_function_global I.kind (by rw [Env.kindOf, hs]; exact hk) (loadGlobal_builtin hg (mg_none_of O.kin O.g hv) hbi ((O.builtins x hn).trans hb) (q _ _ ρ H .refl .g)) hd

theorem den_bin {l r : Expr} {op : Operator} {pos} {f g : SE} {o : SF} (hl : DenE c k vars sc l f) (hr : DenE c k vars sc r g) (ho : FnOk c k (two (binaryOp op)) o) :
    DenE c k vars sc (.BinOp l op r pos) (op2 o f g) := by
  intro env A s F ρ loc σ v σ' Q E hs hA H I e q
  unfold op2 at e
  split at e
  · rename_i a σ₁ e1
    split at e
    · rename_i b σ₂ e2
      refine wpAny_BinOp (hl env A s F ρ loc σ a σ₁ _ _ hs hA H I e1 fun x s₁ ρ₁ H₁ A₁ r₁ => ?_)
      refine hr env A s₁ F ρ₁ loc σ₁ b σ₂ _ _ hs hA H₁ (I.adv H A₁) e2 fun y s₂ ρ₂ H₂ A₂ r₂ => ?_
      have := ho A s₂ F ρ₂ σ₂ [a, b] [x, y] v σ' Q E hA H₂ (.cons (r₁.adv H₁ A₂) (.cons r₂ .nil)) e fun z s₃ ρ₃ H₃ A₃ r₃ => q z s₃ ρ₃ H₃ ((A₁.trans H.len H₁.len A₂).trans H.len H₂.len A₃) r₃
      exact this
    · cases e
  · cases e

theorem den_cmp {l r : Expr} {op : CmpOp} {pos} {f g : SE} {o : SF} (hl : DenE c k vars sc l f) (hr : DenE c k vars sc r g) (ho : FnOk c k (two (compareOp op)) o) (hm : behindInMarks op r = false) :
    DenE c k vars sc (.Compare l [op] [r] pos) (op2 o f g) := by
  intro env A s F ρ loc σ v σ' Q E hs hA H I e q
  unfold op2 at e
  split at e
  · rename_i a σ₁ e1
    split at e
    · rename_i b σ₂ e2
      refine wpAny_Compare1 (hl env A s F ρ loc σ a σ₁ _ _ hs hA H I e1 fun x s₁ ρ₁ H₁ A₁ r₁ => ?_) hm
      refine hr env A s₁ F ρ₁ loc σ₁ b σ₂ _ _ hs hA H₁ (I.adv H A₁) e2 fun y s₂ ρ₂ H₂ A₂ r₂ => ?_
      exact ho A s₂ F ρ₂ σ₂ [a, b] [x, y] v σ' Q E hA H₂ (.cons (r₁.adv H₁ A₂) (.cons r₂ .nil)) e fun z s₃ ρ₃ H₃ A₃ r₃ => q z s₃ ρ₃ H₃ ((A₁.trans H.len H₁.len A₂).trans H.len H₂.len A₃) r₃
    · cases e
  · cases e

theorem den_ifE {t a b : Expr} {pos} {ft : ST} {f g : SE} (ht : DenT c k vars sc t ft) (ha : DenE c k vars sc a f) (hb : DenE c k vars sc b g) : DenE c k vars sc (.IfExp t a b pos) (ifE ft f g) := by
  intro env A s F ρ loc σ v σ' Q E hs hA H I e q
  unfold ifE at e
  refine wpAny_IfExp ?_
  split at e
  · rename_i σ₁ e1
    refine ht env A s F ρ loc σ true σ₁ _ _ hs hA H I e1 fun s₁ ρ₁ H₁ A₁ => ?_
    simp only [if_true]
    exact ha env A s₁ F ρ₁ loc σ₁ v σ' _ _ hs hA H₁ (I.adv H A₁) e fun x s₂ ρ₂ H₂ A₂ r => q x s₂ ρ₂ H₂ (A₁.trans H.len H₁.len A₂) r
  · rename_i σ₁ e1
    refine ht env A s F ρ loc σ false σ₁ _ _ hs hA H I e1 fun s₁ ρ₁ H₁ A₁ => ?_
    simp only [Bool.false_eq_true, if_false]
    exact hb env A s₁ F ρ₁ loc σ₁ v σ' _ _ hs hA H₁ (I.adv H A₁) e fun x s₂ ρ₂ H₂ A₂ r => q x s₂ ρ₂ H₂ (A₁.trans H.len H₁.len A₂) r
  · cases e
end
end Mine
namespace Mine
open PySem PySem.Spec PySem.Calls PyProof.Rows PySem.W

theorem ns_uniq {h : Heap} {a : Addr} {m m' : Str → Option Value} (x : h.Ns a m) (y : h.Ns a m') : m = m' := by
  obtain ⟨o, es, ep, e, d, _, f⟩ := x
  obtain ⟨o', es', ep', e', d', _, f'⟩ := y
  rw [e] at e'; cases e'
  rw [d] at d'; cases d'
  funext n
  rw [← f n, ← f' n]

noncomputable abbrev SA := V → Loc → Hp → Option (Loc × Hp)
noncomputable def LocW (env : Env) (a : Addr) : Prop := a = env.locals
noncomputable def DenAW (W : Env → Addr → Prop) (c : Cx) (k : Nat) (vars : List (Nat × Str)) (sc : Scope) (t : Expr) (f : SA) : Prop :=
  ∀ (env : Env) (A : Around) (s : Shared) (F : Addr → Prop) (ρ : List Addr) (loc : Loc) (σ : Hp) (v : V) (x : Value) (loc' : Loc) (σ' : Hp) (Q : Unit → Shared → Prop) (E : Value → Shared → Prop),
    env.scope = sc → AOk k A → HInv c.lay F c.h₀ ρ σ s.heap → FrI c.lay vars F ρ env loc s.heap → VR c.lay F ρ s.heap v x → f v loc σ = some (loc', σ') →
    (∀ s' ρ', HInv c.lay F c.h₀ ρ' σ' s'.heap → FrI c.lay vars F ρ' env loc' s'.heap → Adv ρ σ s ρ' σ' s' (W env) → Q () s') →
    wpAny (model c.prog c.w) A (assign t env x) Q E s
noncomputable abbrev DenA := DenAW OwnW
noncomputable abbrev DenAL := DenAW LocW

noncomputable def nmA (i : Nat) : SA := fun v loc σ => if i < loc.length then some (loc.set i (some v), σ) else none

section
variable {lay : Addr → List Str} {F : Addr → Prop} {h₀ : Heap} {ρ : List Addr} {σ : Hp} {s : Shared} {vars : List (Nat × Str)} {env : Env} {loc : Loc}

theorem own_change {W : Addr → Prop} (H : HInv lay F h₀ ρ σ s.heap) (I0 : FrI lay vars F ρ env loc s.heap) {a : Addr} (ha : W a) (hF : F a) {h' : Heap} {o' : Obj} (hs : Heap.SameBut a s.heap h') (he : h'.get? a = some o') {tk : Nat} :
    HInv lay F h₀ ρ σ h' ∧ Adv ρ σ s ρ σ { s with heap := h', toks := tk } W ∧ Grow F ρ s.heap F ρ h' := by
  have kp : ∀ b o, ¬ F b → s.heap.get? b = some o → h'.get? b = some o := fun b o nf e => (hs.2 b (fun q => nf (q ▸ hF))).trans e
  have th : ∀ b o, s.heap.get? b = some o → ∃ o', h'.get? b = some o' := fun b o e => by
    by_cases q : b = a
    · exact ⟨o', q ▸ he⟩
    · exact ⟨o, (hs.2 b q).trans e⟩
  refine ⟨H.sameF kp fun b o _ e => th b o e, ⟨⟨[], by simp, by simp⟩, fun _ _ x => x, fun b o e _ nw => ?_, th, rfl, rfl, rfl⟩, ⟨fun b o fr e => kp b o fr.1 e, fun b o fr _ => fr, fun _ _ e => e⟩⟩
  exact (hs.2 b (fun q => nw (q ▸ ha))).trans e

theorem store_varW {W : Addr → Prop} {M : Model} {A : Around} {E : Value → Shared → Prop} {Q : Unit → Shared → Prop} (H : HInv lay F h₀ ρ σ s.heap) (I : FrI lay vars F ρ env loc s.heap) {i : Nat} {x : Str} {v : V} {y : Value} (hm : (i, x) ∈ vars) (hi : i < loc.length) (r : VR lay F ρ s.heap v y)
    (w1 : env.kindOf x = some .local → W env.locals) (w2 : ∀ a, env.kindOf x = some .cell → env.cells.lookup x = some a → W a)
    (q : ∀ s' : Shared, HInv lay F h₀ ρ σ s'.heap → FrI lay vars F ρ env (loc.set i (some v)) s'.heap → Adv ρ σ s ρ σ s' W → Q () s') : wpAny M A (storeName env x y) Q E s := by
  have hp : (env.scope.kind == .class || (env.scope.kind == .module && env.locals != env.globals)) = false := by rw [I.kind]; rfl
  have new : ∀ {j : Nat} {z : Str} {u : V}, (j, z) ∈ vars → (loc.set i (some v))[j]? = some (some u) → (j = i ∧ z = x ∧ u = v) ∨ (z ≠ x ∧ loc[j]? = some (some u)) := by
    intro j z u hj e
    by_cases ji : j = i
    · subst ji
      rw [List.getElem?_set_self hi] at e
      cases e
      exact .inl ⟨rfl, I.vok.inj2 _ _ _ hj hm, rfl⟩
    · rw [List.getElem?_set_ne (Ne.symm ji)] at e
      exact .inr ⟨fun zx => ji (I.vok.inj1 _ _ _ hj (zx ▸ hm)), e⟩
  rcases I.kinds i x hm with kd | ⟨kd, cl, hc⟩
  · obtain ⟨m, hn⟩ := I.ns
    refine wpAny_storeName_local kd hn (fun h' hn' hs' => ?_) hp
    obtain ⟨oL, _, _, eL, _⟩ := id hn'
    obtain ⟨H', A', G'⟩ := own_change (W := W) (tk := s.toks + 1) H I (w1 kd) I.loF hs' eL
    refine q _ H' ⟨I.vok, I.kind, I.glob, I.bi, ⟨_, hn'⟩, I.loF, fun z d e => ?_, I.cellsNe, I.kinds, fun j z u hj e => ?_⟩ A'
    · obtain ⟨a, b, w, d'⟩ := I.cellsF z d e
      exact ⟨a, b, w, d'.sameBut hs' b⟩
    · rcases new hj e with ⟨rfl, rfl, rfl⟩ | ⟨zx, e'⟩
      · exact ⟨y, .inl ⟨kd, _, hn', if_pos rfl⟩, r.grow G'⟩
      · obtain ⟨y', hy, r'⟩ := I.vals j z u hj e'
        refine ⟨y', ?_, r'.grow G'⟩
        rcases hy with ⟨k', m', a, b⟩ | ⟨k', c', a, b⟩
        · cases ns_uniq hn a
          exact .inl ⟨k', _, hn', by show (if z = x then _ else _) = _; rw [if_neg zx]; exact b⟩
        · exact .inr ⟨k', c', a, b.sameBut hs' (I.cellsF z c' a).2.1⟩
  · obtain ⟨fc, nc, w, hw⟩ := I.cellsF x cl hc
    refine wpAny_storeName_cell I.kind kd hc hw fun h' hc' hs' => ?_
    obtain ⟨oC, eC, _⟩ := id hc'
    obtain ⟨H', A', G'⟩ := own_change (W := W) (tk := s.toks) H I (w2 cl kd hc) fc hs' eC
    have kn : ∀ m, s.heap.Ns env.locals m → h'.Ns env.locals m := fun m hn => hn.sameBut hs' (Ne.symm nc)
    refine q _ H' ⟨I.vok, I.kind, I.glob, I.bi, let ⟨m, hn⟩ := I.ns; ⟨m, kn m hn⟩, I.loF, fun z d e => ?_, I.cellsNe, I.kinds, fun j z u hj e => ?_⟩ A'
    · obtain ⟨a, b, w', d'⟩ := I.cellsF z d e
      by_cases dc : d = cl
      · subst dc; exact ⟨a, b, _, hc'⟩
      · exact ⟨a, b, w', d'.sameBut hs' dc⟩
    · rcases new hj e with ⟨rfl, rfl, rfl⟩ | ⟨zx, e'⟩
      · exact ⟨y, .inr ⟨kd, cl, hc, hc'⟩, r.grow G'⟩
      · obtain ⟨y', hy, r'⟩ := I.vals j z u hj e'
        refine ⟨y', ?_, r'.grow G'⟩
        rcases hy with ⟨k', m', a, b⟩ | ⟨k', c', a, b⟩
        · exact .inl ⟨k', m', kn _ a, b⟩
        · refine .inr ⟨k', c', a, b.sameBut hs' fun q => zx ?_⟩
          subst q; exact I.cellsNe _ _ _ a hc
theorem store_var {M : Model} {A : Around} {E : Value → Shared → Prop} {Q : Unit → Shared → Prop} (H : HInv lay F h₀ ρ σ s.heap) (I : FrI lay vars F ρ env loc s.heap) {i : Nat} {x : Str} {v : V} {y : Value} (hm : (i, x) ∈ vars) (hi : i < loc.length) (r : VR lay F ρ s.heap v y)
    (q : ∀ s' : Shared, HInv lay F h₀ ρ σ s'.heap → FrI lay vars F ρ env (loc.set i (some v)) s'.heap → Adv ρ σ s ρ σ s' (OwnW env) → Q () s') : wpAny M A (storeName env x y) Q E s :=
  store_varW H I hm hi r (fun _ => .inl rfl) (fun a _ h => .inr ⟨x, h⟩) q
end

section
variable {c : Cx} {k : Nat} {vars : List (Nat × Str)} {sc : Scope}

theorem den_nmAL {i : Nat} {x : Str} {pos} (hm : (i, x) ∈ vars) (hl : sc.names.lookup x = some .local) : DenAL c k vars sc (.Name x pos) (nmA i) := by
  intro env A s F ρ loc σ v y loc' σ' Q E hs _ H I r e q
  unfold nmA at e
  split at e
  · rename_i hi
    cases e
    refine wpAny_assign_Name (store_varW (W := LocW env) H I hm hi r (fun _ => rfl) (fun a h _ => ?_) fun s' H' I' A' => q s' ρ H' I' A')
    rw [Env.kindOf, hs, hl] at h; cases h
  · cases e
theorem den_nmA {i : Nat} {x : Str} {pos} (hm : (i, x) ∈ vars) : DenA c k vars sc (.Name x pos) (nmA i) := by
  intro env A s F ρ loc σ v y loc' σ' Q E _ _ H I r e q
  unfold nmA at e
  split at e
  · rename_i hi
    cases e
    exact wpAny_assign_Name (store_var H I hm hi r fun s' H' I' A' => q s' ρ H' I' A')
  · cases e

theorem Adv.ofE {ρ ρ' : List Addr} {σ σ' : Hp} {s s' : Shared} {W : Addr → Prop} (x : Adv ρ σ s ρ' σ' s' NoW) : Adv ρ σ s ρ' σ' s' W := x.mono fun _ q => q.elim

theorem den_nil : DenSs c k vars sc [] nilS := by
  intro env A s F ρ loc σ fl loc' σ' Q E _ _ H I e q
  cases e
  exact wpAny_execs_nil (q _ _ ρ H I .refl .next)
theorem den_cons {st : Stmt} {rest : List Stmt} {f g : SS} (hf : DenS c k vars sc st f) (hg : DenSs c k vars sc rest g) : DenSs c k vars sc (st :: rest) (seqS f g) := by
  intro env A s F ρ loc σ fl loc' σ' Q E hs hA H I e q
  refine wpAny_execs_cons ?_
  unfold seqS at e
  split at e
  · rename_i loc₁ σ₁ e1
    refine hf env A s F ρ loc σ .next loc₁ σ₁ _ _ hs hA H I e1 fun x s₁ ρ₁ H₁ I₁ A₁ r => ?_
    cases r
    exact hg env A s₁ F ρ₁ loc₁ σ₁ fl loc' σ' _ _ hs hA H₁ I₁ e fun x s₂ ρ₂ H₂ I₂ A₂ r => q x s₂ ρ₂ H₂ I₂ (A₁.trans H.len H₁.len A₂) r
  · rename_i hne
    have nn : fl ≠ .next := fun z => hne loc' σ' (by rw [e, z])
    refine hf env A s F ρ loc σ fl loc' σ' _ _ hs hA H I e fun x s₁ ρ₁ H₁ I₁ A₁ r => ?_
    have z := q x s₁ ρ₁ H₁ I₁ A₁ r
    cases r with
    | next => exact absurd rfl nn
    | brk => exact z
    | cont => exact z
    | ret _ => exact z

theorem den_if {t : Expr} {a b : List Stmt} {pos} {ft : ST} {f g : SS} (ht : DenT c k vars sc t ft) (ha : DenSs c k vars sc a f) (hb : DenSs c k vars sc b g) : DenS c k vars sc (.If t a b pos) (ifS ft f g) := by
  intro env A s F ρ loc σ fl loc' σ' Q E hs hA H I e q
  unfold ifS at e
  refine wpAny_If ?_
  split at e
  · rename_i σ₁ e1
    refine ht env A s F ρ loc σ true σ₁ _ _ hs hA H I e1 fun s₁ ρ₁ H₁ A₁ => ?_
    simp only [if_true]
    exact ha env A s₁ F ρ₁ loc σ₁ fl loc' σ' _ _ hs hA H₁ (I.adv H A₁) e fun x s₂ ρ₂ H₂ I₂ A₂ r => q x s₂ ρ₂ H₂ I₂ (A₁.ofE.trans H.len H₁.len A₂) r
  · rename_i σ₁ e1
    refine ht env A s F ρ loc σ false σ₁ _ _ hs hA H I e1 fun s₁ ρ₁ H₁ A₁ => ?_
    simp only [Bool.false_eq_true, if_false]
    exact hb env A s₁ F ρ₁ loc σ₁ fl loc' σ' _ _ hs hA H₁ (I.adv H A₁) e fun x s₂ ρ₂ H₂ I₂ A₂ r => q x s₂ ρ₂ H₂ I₂ (A₁.ofE.trans H.len H₁.len A₂) r
  · cases e

theorem den_asg {i : Nat} {x : Str} {px pos} {value : Expr} {f : SE} (hv : DenE c k vars sc value f) (hm : (i, x) ∈ vars)
    (hs : ∀ env : Env, env.scope = sc → swapsWith value (some (.Name x px)) pos.line env = pure false) : DenS c k vars sc (.Assign [.Name x px] value pos) (asgS i f) := by
  intro env A s F ρ loc σ fl loc' σ' Q E hsc hA H I e q
  unfold asgS at e
  split at e
  · rename_i v σ₁ e1
    split at e
    · rename_i hi
      cases e
      refine wpAny_Assign_Name (hv env A s F ρ loc σ v σ' _ _ hsc hA H I e1 fun y s₁ ρ₁ H₁ A₁ r => ?_) (hs env hsc)
      exact store_var H₁ (I.adv H A₁) hm hi r fun s' H' I' A' => q .next s' ρ₁ H' I' (A₁.ofE.trans H.len H₁.len A') .next
    · cases e
  · cases e

theorem den_ret {e₀ : Expr} {pos} {f : SE} (hv : DenE c k vars sc e₀ f) : DenS c k vars sc (.Return (some e₀) pos) (retS f) := by
  intro env A s F ρ loc σ fl loc' σ' Q E hsc hA H I e q
  unfold retS at e
  split at e
  · rename_i v σ₁ e1
    cases e
    exact wpAny_Return_some (hv env A s F ρ loc σ v σ' _ _ hsc hA H I e1 fun y s₁ ρ₁ H₁ A₁ r => q _ s₁ ρ₁ H₁ (I.adv H A₁) A₁.ofE (.ret r))
  · cases e
theorem den_brk {pos} : DenS c k vars sc (.Break pos) brkS := by
  intro env A s F ρ loc σ fl loc' σ' Q E hsc hA H I e q
  cases e
  exact wpAny_Break (q _ _ ρ H I .refl .brk)
end
end Mine
namespace Mine
open PySem PySem.Spec PySem.Calls PyProof.Rows PySem.W

noncomputable def trV : V → Option Bool
  | .bool b => some b
  | .none => some false
  | _ => none
noncomputable def cmT (f : SE) : ST := fun loc σ => match f loc σ with
  | some (a, σ₁) => (match trV a with | some b => some (b, σ₁) | none => none)
  | none => none
noncomputable def allT (op : BoolOp) : List ST → ST
  | [] => fun _ σ => some (op == .And, σ)
  | f :: fs => fun loc σ => match f loc σ with
    | some (b, σ₁) => (match op, b with
      | .And, false => some (false, σ₁)
      | .Or, true => some (true, σ₁)
      | _, _ => allT op fs loc σ₁)
    | none => none

section
variable {c : Cx} {k : Nat} {vars : List (Nat × Str)} {sc : Scope}

theorem truthy_V {M : Model} {A : Around} {E : Value → Shared → Prop} {Q : Bool → Shared → Prop} {s : Shared} {lay F ρ h} {v : V} {x : Value} {b : Bool} (r : VR lay F ρ h v x) (e : trV v = some b) (q : Q b s) : wpAny M A (truthy x) Q E s := by
  cases r with
  | none => cases e; exact fun _ _ _ => q
  | bool => cases e; exact wpAny_truthy_bool q
  | _ => cases e

theorem den_valT {e₀ : Expr} {f : SE} (hv : DenE c k vars sc e₀ f) (he : ∀ (env : Env) (whole : Sem Value), isTrue e₀ env whole = (do let v ← whole; standAt e₀.pos; holding [v] (truthy v))) : DenT c k vars sc e₀ (cmT f) := by
  intro env A s F ρ loc σ b σ' Q E hs hA H I e q
  unfold cmT at e
  split at e
  · rename_i a σ₁ e1
    split at e
    · rename_i b' e2
      cases e
      exact wpAny_isTrue_value (hv env A s F ρ loc σ a σ' _ _ hs hA H I e1 fun x s₁ ρ₁ H₁ A₁ r => truthy_V r e2 (q s₁ ρ₁ H₁ A₁)) (he env _)
    · cases e
  · cases e
theorem den_cmpT {l r : Expr} {op : CmpOp} {pos} {f g : SE} {o : SF} (hl : DenE c k vars sc l f) (hr : DenE c k vars sc r g) (ho : FnOk c k (two (compareOp op)) o) (hm : behindInMarks op r = false) :
    DenT c k vars sc (.Compare l [op] [r] pos) (cmT (op2 o f g)) := by
  intro env A s F ρ loc σ b σ' Q E hs hA H I e q
  unfold cmT at e
  split at e
  · rename_i v σ₃ e0
    split at e
    · rename_i b' eb
      cases e
      unfold op2 at e0
      split at e0
      · rename_i a σ₁ e1
        split at e0
        · rename_i b₂ σ₂ e2
          refine wpAny_isTrue_Compare1 (hl env A s F ρ loc σ a σ₁ _ _ hs hA H I e1 fun x s₁ ρ₁ H₁ A₁ r₁ => ?_) hm
          refine hr env A s₁ F ρ₁ loc σ₁ b₂ σ₂ _ _ hs hA H₁ (I.adv H A₁) e2 fun y s₂ ρ₂ H₂ A₂ r₂ => ?_
          exact ho A s₂ F ρ₂ σ₂ [a, b₂] [x, y] v σ' _ E hA H₂ (.cons (r₁.adv H₁ A₂) (.cons r₂ .nil)) e0 fun z s₃ ρ₃ H₃ A₃ r₃ => truthy_V r₃ eb (q s₃ ρ₃ H₃ ((A₁.trans H.len H₁.len A₂).trans H.len H₂.len A₃))
        · cases e0
      · cases e0
    · cases e
  · cases e
noncomputable def DenTs (c : Cx) (k : Nat) (vars : List (Nat × Str)) (sc : Scope) (op : BoolOp) (es : List Expr) (f : ST) : Prop :=
  ∀ (env : Env) (A : Around) (s : Shared) (F : Addr → Prop) (ρ : List Addr) (loc : Loc) (σ : Hp) (b : Bool) (σ' : Hp) (Q : Bool → Shared → Prop) (E : Value → Shared → Prop),
    env.scope = sc → AOk k A → HInv c.lay F c.h₀ ρ σ s.heap → FrI c.lay vars F ρ env loc s.heap → f loc σ = some (b, σ') →
    (∀ s' ρ', HInv c.lay F c.h₀ ρ' σ' s'.heap → Adv ρ σ s ρ' σ' s' NoW → Q b s') →
    wpAny (model c.prog c.w) A (allTrue op es env) Q E s
theorem den_allNil {op : BoolOp} : DenTs c k vars sc op [] (allT op []) := by
  intro env A s F ρ loc σ b σ' Q E hs hA H I e q
  cases e
  cases op with
  | And => exact wpAny_allTrue_And_nil (q s ρ H .refl)
  | Or => exact wpAny_allTrue_Or_nil (q s ρ H .refl)
theorem den_allCons {op : BoolOp} {x : Expr} {rest : List Expr} {f : ST} {fs : List ST} (hx : DenT c k vars sc x f) (hr : DenTs c k vars sc op rest (allT op fs)) : DenTs c k vars sc op (x :: rest) (allT op (f :: fs)) := by
  intro env A s F ρ loc σ b σ' Q E hs hA H I e q
  simp only [allT] at e
  split at e
  · rename_i b₁ σ₁ e1
    cases op with
    | And =>
      refine wpAny_allTrue_And_cons (hx env A s F ρ loc σ b₁ σ₁ _ _ hs hA H I e1 fun s₁ ρ₁ H₁ A₁ => ?_)
      cases b₁ with
      | false => cases e; exact q s₁ ρ₁ H₁ A₁
      | true => exact hr env A s₁ F ρ₁ loc σ₁ b σ' _ _ hs hA H₁ (I.adv H A₁) e fun s₂ ρ₂ H₂ A₂ => q s₂ ρ₂ H₂ (A₁.trans H.len H₁.len A₂)
    | Or =>
      refine wpAny_allTrue_Or_cons (hx env A s F ρ loc σ b₁ σ₁ _ _ hs hA H I e1 fun s₁ ρ₁ H₁ A₁ => ?_)
      cases b₁ with
      | true => cases e; exact q s₁ ρ₁ H₁ A₁
      | false => exact hr env A s₁ F ρ₁ loc σ₁ b σ' _ _ hs hA H₁ (I.adv H A₁) e fun s₂ ρ₂ H₂ A₂ => q s₂ ρ₂ H₂ (A₁.trans H.len H₁.len A₂)
  · cases e
theorem den_boolT {op : BoolOp} {es : List Expr} {pos} {f : ST} (h : DenTs c k vars sc op es f) : DenT c k vars sc (.BoolOp op es pos) f := by
  intro env A s F ρ loc σ b σ' Q E hs hA H I e q
  exact wpAny_isTrue_BoolOp (h env A s F ρ loc σ b σ' Q E hs hA H I e q)
end

noncomputable def DenArgs (c : Cx) (k : Nat) (vars : List (Nat × Str)) (sc : Scope) (es : List Expr) (f : Loc → Hp → Option (List V × Hp)) : Prop :=
  ∀ (env : Env) (A : Around) (s : Shared) (F : Addr → Prop) (ρ : List Addr) (loc : Loc) (σ : Hp) (vs : List V) (σ' : Hp) (pos : Pos) (Q : List Value → Shared → Prop) (E : Value → Shared → Prop),
    env.scope = sc → AOk k A → HInv c.lay F c.h₀ ρ σ s.heap → FrI c.lay vars F ρ env loc s.heap → f loc σ = some (vs, σ') →
    (∀ xs s' ρ', HInv c.lay F c.h₀ ρ' σ' s'.heap → Adv ρ σ s ρ' σ' s' NoW → VRs c.lay F ρ' s'.heap vs xs → Q xs s') →
    wpAny (model c.prog c.w) A (spliced (backTo pos (starEach es env))) Q E s

section
variable {lay : Addr → List Str} {F : Addr → Prop} {h₀ : Heap} {ρ : List Addr} {σ : Hp} {h : Heap}
theorem get_size_none (h : Heap) : h.get? h.objs.size = none := by
  cases e : h.get? h.objs.size with
  | none => rfl
  | some o => exact absurd (Heap.lt_size e) (Nat.lt_irrefl _)
theorem HInv.freeNew (H : HInv lay F h₀ ρ σ h) {a : Addr} (hn : h.get? a = none) : Free F ρ a :=
  ⟨fun f => (by obtain ⟨_, o, e⟩ := H.fr a f; rw [hn] at e; cases e), fun m => (by obtain ⟨_, _, o, e⟩ := H.own a m; rw [hn] at e; cases e)⟩
theorem HInv.new0 (H : HInv lay F h₀ ρ σ h) {a : Addr} (hn : h.get? a = none) : h₀.get? a = none := by
  cases e : h₀.get? a with
  | none => rfl
  | some o => have := H.base a o e; rw [hn] at this; cases this
theorem HInv.slot (H : HInv lay F h₀ ρ σ h) {h' : Heap} {a : Addr} {so : SO} (hk : ∀ b o, h.get? b = some o → h'.get? b = some o) (hn : h.get? a = none) (he : ∃ o, h'.get? a = some o) (hr : OR lay F (ρ ++ [a]) h' so a) : HInv lay F h₀ (ρ ++ [a]) (σ ++ [so]) h' := by
  have fr := H.freeNew hn
  have G : Grow F ρ h F (ρ ++ [a]) h' := ⟨fun b o _ e => hk b o e, fun b o q e => ⟨q.1, fun m => (by
      rcases List.mem_append.mp m with m | m
      · exact q.2 m
      · rw [List.mem_singleton.mp m, hn] at e; cases e)⟩, fun n b e => (by
      obtain ⟨hl, _⟩ := List.getElem?_eq_some_iff.mp e
      rw [List.getElem?_append_left hl]; exact e)⟩
  refine ⟨by simp [H.len], ?_, fun b hb => ?_, fun b fb => let ⟨x, o, e⟩ := H.fr b fb; ⟨x, o, hk _ _ e⟩, fun n o b e q => ?_, fun b o e => hk _ _ (H.base b o e)⟩
  · refine List.nodup_append.mpr ⟨H.nodup, by simp, fun x hx y hy => ?_⟩
    rw [List.mem_singleton.mp hy]; rintro rfl; exact fr.2 hx
  · rcases List.mem_append.mp hb with hb | hb
    · obtain ⟨x, y, o, e⟩ := H.own b hb; exact ⟨x, y, o, hk _ _ e⟩
    · rw [List.mem_singleton.mp hb]; exact ⟨fr.1, H.new0 hn, he⟩
  · by_cases hl : n < σ.length
    · rw [List.getElem?_append_left hl] at e
      rw [List.getElem?_append_left (H.len ▸ hl)] at q
      exact (H.objs n o b e q).grow hk G
    · have hl' : σ.length ≤ n := Nat.le_of_not_lt hl
      rw [List.getElem?_append_right hl'] at e
      rw [List.getElem?_append_right (H.len ▸ hl')] at q
      have z : n - σ.length = 0 := by
        obtain ⟨hz, _⟩ := List.getElem?_eq_some_iff.mp e
        simpa using hz
      rw [z] at e
      rw [← H.len, z] at q
      simp at e q
      subst e q
      exact hr
theorem Adv.slot {s : Shared} {h' : Heap} {tk : Nat} {a : Addr} {so : SO} {W : Addr → Prop} (hk : ∀ b o, s.heap.get? b = some o → h'.get? b = some o) (hn : s.heap.get? a = none) :
    Adv ρ σ s (ρ ++ [a]) (σ ++ [so]) { s with heap := h', toks := tk } W :=
  ⟨⟨[a], rfl, fun b hb => by rw [List.mem_singleton.mp hb]; exact hn⟩, fun n hl ⟨o, e, d⟩ => ⟨o, by rwa [List.getElem?_append_left hl] at e, d⟩, fun b o e _ _ => hk b o e, fun b o e => ⟨o, hk b o e⟩, rfl, rfl, rfl⟩
theorem push_keep (h : Heap) (o : Obj) : ∀ b o', h.get? b = some o' → (h.push o).get? b = some o' := fun _ _ e => Heap.get?_push_of_some o e
end

noncomputable def tupE (fs : List SE) : SE := fun loc σ => match argsE fs loc σ with
  | some (vs, σ₁) => some (.tup vs, σ₁)
  | none => none
noncomputable def lstE (fs : List SE) : SE := fun loc σ => match argsE fs loc σ with
  | some (vs, σ₁) => some (.lst vs, σ₁)
  | none => none
noncomputable def mlstE (fs : List SE) : SE := fun loc σ => match argsE fs loc σ with
  | some (vs, σ₁) => some (.ref σ₁.length, σ₁ ++ [.lst vs])
  | none => none

theorem argsE_length : ∀ (fs : List SE) (loc : Loc) (σ : Hp) (vs : List V) (σ' : Hp), argsE fs loc σ = some (vs, σ') → vs.length = fs.length
  | [], _, _, _, _, e => by cases e; rfl
  | f :: fs, loc, σ, vs, σ', e => by
    simp only [argsE] at e
    split at e
    · split at e
      · rename_i as σ₂ e2
        cases e
        simp [argsE_length fs _ _ _ _ e2]
      · cases e
    · cases e

section
variable {c : Cx} {k : Nat} {vars : List (Nat × Str)} {sc : Scope}
theorem den_argNil : DenArgs c k vars sc [] (argsE []) := by
  intro env A s F ρ loc σ vs σ' pos Q E hs hA H I e q
  cases e
  exact wpAny_items_nil (q [] s ρ H .refl .nil)
theorem den_argCons {e₀ : Expr} {rest : List Expr} {f : SE} {fs : List SE} (he : DenE c k vars sc e₀ f) (hr : DenArgs c k vars sc rest (argsE fs)) (hst : ∀ env : Env, starEach (e₀ :: rest) env = (false, eval e₀ env) :: starEach rest env) : DenArgs c k vars sc (e₀ :: rest) (argsE (f :: fs)) := by
  intro env A s F ρ loc σ vs σ' pos Q E hs hA H I e q
  simp only [argsE] at e
  split at e
  · rename_i a σ₁ e1
    split at e
    · rename_i as σ₂ e2
      cases e
      refine wpAny_items_cons (he env A s F ρ loc σ a σ₁ _ _ hs hA H I e1 fun x s₁ ρ₁ H₁ A₁ r₁ => ?_) (hst env)
      exact hr env A s₁ F ρ₁ loc σ₁ as σ' pos _ _ hs hA H₁ (I.adv H A₁) e2 fun xs s₂ ρ₂ H₂ A₂ r₂ => q (x :: xs) s₂ ρ₂ H₂ (A₁.trans H.len H₁.len A₂) (.cons (r₁.adv H₁ A₂) r₂)
    · cases e
  · cases e

theorem den_tup {es : List Expr} {n pos} {fs : List SE} (hr : DenArgs c k vars sc es (argsE fs)) (hz : fs.length ≤ 1000) : DenE c k vars sc (.Tuple es n pos) (tupE fs) := by
  intro env A s F ρ loc σ v σ' Q E hs hA H I e q
  unfold tupE at e
  split at e
  · rename_i vs σ₁ e1
    cases e
    refine wpAny_Tuple (hr env A s F ρ loc σ vs σ' pos _ _ hs hA H I e1 fun xs s₁ ρ₁ H₁ A₁ r₁ => ⟨?_, ?_⟩)
    · rw [← r₁.length, argsE_length _ _ _ _ _ e1, sizeLine_eq]; omega
    · have hk := push_keep s₁.heap { cls := .type "tuple", data := .seq xs.toArray }
      have fr := H₁.freeNew (get_size_none s₁.heap)
      have A₂ : Adv ρ₁ σ' s₁ ρ₁ σ' { s₁ with heap := s₁.heap.push { cls := .type "tuple", data := .seq xs.toArray } } NoW := Adv.ext hk
      exact q _ _ ρ₁ (H₁.ext hk) (A₁.trans H.len H₁.len A₂) (.tup fr ⟨_, Heap.get?_push_size _ rfl, rfl, _, rfl⟩ (by simpa using r₁.adv H₁ A₂))
  · cases e
theorem den_lst {es : List Expr} {pos} {fs : List SE} (hr : DenArgs c k vars sc es (argsE fs)) (hz : fs.length ≤ 1000) : DenE c k vars sc (.List es pos) (lstE fs) := by
  intro env A s F ρ loc σ v σ' Q E hs hA H I e q
  unfold lstE at e
  split at e
  · rename_i vs σ₁ e1
    cases e
    refine wpAny_List (hr env A s F ρ loc σ vs σ' pos _ _ hs hA H I e1 fun xs s₁ ρ₁ H₁ A₁ r₁ => ⟨?_, ?_⟩)
    · rw [← r₁.length, argsE_length _ _ _ _ _ e1, sizeLine_eq]; omega
    · have hk := push_keep s₁.heap { cls := .type "list", data := .seq xs.toArray }
      have fr := H₁.freeNew (get_size_none s₁.heap)
      have A₂ : Adv ρ₁ σ' s₁ ρ₁ σ' { s₁ with heap := s₁.heap.push { cls := .type "list", data := .seq xs.toArray } } NoW := Adv.ext hk
      exact q _ _ ρ₁ (H₁.ext hk) (A₁.trans H.len H₁.len A₂) (.lst fr ⟨_, Heap.get?_push_size _ rfl⟩ (by simpa using r₁.adv H₁ A₂))
  · cases e
theorem den_mlst {es : List Expr} {pos} {fs : List SE} (hr : DenArgs c k vars sc es (argsE fs)) (hz : fs.length ≤ 1000) : DenE c k vars sc (.List es pos) (mlstE fs) := by
  intro env A s F ρ loc σ v σ' Q E hs hA H I e q
  unfold mlstE at e
  split at e
  · rename_i vs σ₁ e1
    cases e
    refine wpAny_List (hr env A s F ρ loc σ vs σ₁ pos _ _ hs hA H I e1 fun xs s₁ ρ₁ H₁ A₁ r₁ => ⟨?_, ?_⟩)
    · rw [← r₁.length, argsE_length _ _ _ _ _ e1, sizeLine_eq]; omega
    · have hk := push_keep s₁.heap { cls := .type "list", data := .seq xs.toArray }
      have hn := get_size_none s₁.heap
      have A₂ : Adv ρ₁ σ₁ s₁ (ρ₁ ++ [s₁.heap.objs.size]) (σ₁ ++ [.lst vs]) { s₁ with heap := s₁.heap.push { cls := .type "list", data := .seq xs.toArray } } NoW := Adv.slot hk hn
      have H₂ : HInv c.lay F c.h₀ (ρ₁ ++ [s₁.heap.objs.size]) (σ₁ ++ [.lst vs]) (s₁.heap.push { cls := .type "list", data := .seq xs.toArray }) :=
        H₁.slot hk hn ⟨_, Heap.get?_push_size _ rfl⟩ ⟨xs.toArray, ⟨_, Heap.get?_push_size _ rfl⟩, by simpa using r₁.adv H₁ A₂⟩
      exact q _ _ _ H₂ (A₁.trans H.len H₁.len A₂) (.ref (by rw [H₁.len]; simp))
  · cases e
end
end Mine
namespace Mine
open PySem PySem.Spec PySem.Calls PyProof.Rows PySem.W

section
variable {lay : Addr → List Str} {F : Addr → Prop} {h₀ : Heap} {ρ : List Addr} {σ : Hp} {h h' : Heap} {n : Nat} {a : Addr}
theorem Grow.upd (hn : ρ[n]? = some a) (hs : Heap.SameBut a h h') : Grow F ρ h F ρ h' :=
  ⟨fun b _ fr e => (hs.2 b (fun q => fr.2 (q ▸ List.mem_of_getElem? hn))).trans e, fun _ _ fr _ => fr, fun _ _ e => e⟩
theorem nodup_get {l : List Addr} (nd : l.Nodup) {i j : Nat} {b : Addr} (hi : l[i]? = some b) (hj : l[j]? = some b) : i = j := by
  obtain ⟨li, ei⟩ := List.getElem?_eq_some_iff.mp hi
  obtain ⟨lj, ej⟩ := List.getElem?_eq_some_iff.mp hj
  rcases Nat.lt_trichotomy i j with q | q | q
  · exact absurd (ei.trans ej.symm) (List.pairwise_iff_getElem.mp nd i j li lj q)
  · exact q
  · exact absurd (ej.trans ei.symm) (List.pairwise_iff_getElem.mp nd j i lj li q)
theorem HInv.upd (H : HInv lay F h₀ ρ σ h) {so : SO} (hn : ρ[n]? = some a) (hs : Heap.SameBut a h h') (he : ∃ o, h'.get? a = some o) (hr : OR lay F ρ h' so a) : HInv lay F h₀ ρ (σ.set n so) h' := by
  have G : Grow F ρ h F ρ h' := Grow.upd hn hs
  have ma := List.mem_of_getElem? hn
  have kp : ∀ b o, b ≠ a → h.get? b = some o → h'.get? b = some o := fun b o q e => (hs.2 b q).trans e
  have th : ∀ b o, h.get? b = some o → ∃ o', h'.get? b = some o' := fun b o e => by
    by_cases q : b = a
    · exact q ▸ he
    · exact ⟨o, kp b o q e⟩
  refine ⟨by rw [List.length_set]; exact H.len, H.nodup, fun b hb => let ⟨x, y, o, e⟩ := H.own b hb; ⟨x, y, th b o e⟩, fun b fb => let ⟨y, o, e⟩ := H.fr b fb; ⟨y, th b o e⟩, fun m o b e q => ?_, fun b o e => ?_⟩
  · by_cases mn : m = n
    · subst mn
      rw [hn] at q
      have hl : m < σ.length := by rw [H.len]; exact (List.getElem?_eq_some_iff.mp hn).1
      rw [List.getElem?_set_self hl] at e
      cases e; cases q
      exact hr
    · rw [List.getElem?_set_ne (Ne.symm mn)] at e
      have ba : b ≠ a := fun z => mn (nodup_get H.nodup q (z ▸ hn))
      have r := H.objs m o b e q
      cases o with
      | lst vs => obtain ⟨items, ⟨n, ho⟩, v⟩ := r; exact ⟨items, ⟨n, kp _ _ ba ho⟩, v.grow G⟩
      | dict C vs => obtain ⟨mm, xs, ⟨o, es, ep, e, z⟩, q, v⟩ := r; exact ⟨mm, xs, ⟨o, es, ep, kp _ _ ba e, z⟩, q, v.grow G⟩
      | dead => trivial
  · refine kp b o (fun z => ?_) (H.base b o e)
    rw [z, (H.own a ma).2.1] at e; cases e
theorem Adv.upd {s : Shared} {so : SO} {tk : Nat} {W : Addr → Prop} (hn : ρ[n]? = some a) (hal : alive σ n) (hs : Heap.SameBut a s.heap h') (he : ∃ o, h'.get? a = some o) : Adv ρ σ s ρ (σ.set n so) { s with heap := h', toks := tk } W := by
  refine ⟨⟨[], by simp, by simp⟩, fun m hm ⟨o, e, d⟩ => ?_, fun b o e nl _ => (hs.2 b (fun q => nl ⟨n, q ▸ hn, hal⟩)).trans e, fun b o e => ?_, rfl, rfl, rfl⟩
  · by_cases mn : m = n
    · subst mn; exact hal
    · rw [List.getElem?_set_ne (Ne.symm mn)] at e; exact ⟨o, e, d⟩
  · by_cases q : b = a
    · exact q ▸ he
    · exact ⟨o, (hs.2 b q).trans e⟩
end

noncomputable def attrs? (σ : Hp) : V → Option (Addr × List V)
  | .obj C vs => some (C, vs)
  | .inst C n => match σ[n]? with
    | some (.dict C' vs) => if Nat.beq C' C then some (C, vs) else none
    | _ => none
  | _ => none
noncomputable def V.notG : V → Bool
  | .g _ => false
  | _ => true

theorem handed_of {lay F ρ h} {v : V} {x : Value} (r : VR lay F ρ h v x) (e : v.notG = true) : handedIn x = true := by
  cases r <;> first | rfl | cases e

theorem inst_at {lay : Addr → List Str} {F : Addr → Prop} {h₀ : Heap} {ρ : List Addr} {σ : Hp} {h : Heap} (H : HInv lay F h₀ ρ σ h) {v : V} {x : Value} (r : VR lay F ρ h v x) {C : Addr} {vs : List V} (e : attrs? σ v = some (C, vs)) :
    ∃ a dx m xs, x = .ref a ∧ h.get? a = some (instObj C dx) ∧ h.Ns1 dx m ∧ AttrMap (lay C) xs m ∧ VRs lay F ρ h vs xs := by
  cases r with
  | obj fa fd ha hd k rs => cases e; exact ⟨_, _, _, _, rfl, ha, hd, k, rs⟩
  | inst fa ha hn =>
    simp only [attrs?] at e
    split at e
    · rename_i C' vs' es
      split at e
      · rename_i hc
        have := Nat.eq_of_beq_eq_true hc
        subst this
        cases e
        obtain ⟨m, xs, a1, a2, a3⟩ := H.objs _ _ _ es hn
        exact ⟨_, _, m, xs, rfl, ha, a1, a2, a3⟩
      · cases e
    · cases e
  | _ => cases e

theorem lookIn_ns {h : Heap} {dx : Addr} {m : Str → Option Value} (hn : h.Ns dx m) : ∃ od, h.get? dx = some od ∧ ∀ name, lookIn name od = some (m name) := by
  obtain ⟨o, es, ep, ho, hd, hk, hm⟩ := hn
  refine ⟨o, ho, fun name => ?_⟩
  unfold lookIn
  rw [hd]
  dsimp only
  have hany : es.toList.any (·.refKey) = false := by
    rw [List.any_eq_false]; intro e he
    obtain ⟨n, t, q⟩ := hk e (Array.mem_toList_iff.mp he)
    simp [DictEntry.refKey, q]
  rw [← hm name]
  unfold nsFind findBy
  rw [← Array.find?_toList]
  split
  · rename_i e he; rw [he]; rfl
  · rename_i he; rw [he, hany]; rfl

theorem InstAt.ofNs {h : Heap} {a dx C : Addr} {od : Obj} (ha : h.get? a = some (instObj C dx)) (hd : h.get? dx = some od) : PySem.W.InstAt h a (instObj C dx) C (some od) := ⟨ha, rfl, rfl, hd⟩

theorem zip_lookup_at {names : List Str} {xs : List Value} {i : Nat} {x : Str} {y : Value} (nd : names.Nodup) (hx : names[i]? = some x) (hy : xs[i]? = some y) : (names.zip xs).lookup x = some y := by
  induction names generalizing xs i with
  | nil => simp at hx
  | cons n ns ih =>
    cases xs with
    | nil => simp at hy
    | cons z zs =>
      cases i with
      | zero => simp at hx hy; subst hx hy; simp
      | succ i =>
        have hx' : ns[i]? = some x := by simpa using hx
        have : x ≠ n := fun q => (List.nodup_cons.mp nd).1 (q ▸ List.mem_of_getElem? hx')
        rw [List.zip_cons_cons, List.lookup_cons]
        have hb : (x == n) = false := beq_eq_false_iff_ne.mpr this
        rw [hb]
        exact ih (List.nodup_cons.mp nd).2 hx' (by simpa using hy)
theorem zip_lookup_none {names : List Str} {xs : List Value} {x : Str} (hx : x ∉ names) : (names.zip xs).lookup x = none := by
  induction names generalizing xs with
  | nil => simp
  | cons n ns ih =>
    cases xs with
    | nil => simp
    | cons z zs =>
      rw [List.zip_cons_cons, List.lookup_cons]
      have hb : (x == n) = false := beq_eq_false_iff_ne.mpr fun q => hx (q ▸ List.mem_cons_self)
      rw [hb]
      exact ih fun q => hx (List.mem_cons_of_mem _ q)
theorem attrMap_within {names : List Str} {xs : List Value} {m : Str → Option Value} (hm : AttrMap names xs m) : Within m names := fun y hy => by
  apply Classical.byContradiction
  intro hn
  exact hy ((hm y).trans (zip_lookup_none hn))
theorem attrMap_put {names : List Str} {xs : List Value} {m : Str → Option Value} {x : Str} {y : Value} (nd : names.Nodup) (hx : names[xs.length]? = some x) (hm : AttrMap names xs m) : AttrMap names (xs ++ [y]) (fun z => if z = x then some y else m z) := by
  intro z
  have key : ∀ (names : List Str) (xs : List Value), names.Nodup → names[xs.length]? = some x → (names.zip (xs ++ [y])).lookup z = if z = x then some y else (names.zip xs).lookup z := by
    intro names
    induction names with
    | nil => intro xs _ e; simp at e
    | cons n ns ih =>
      intro xs nd e
      cases xs with
      | nil =>
        simp at e
        subst e
        show ((n, y) :: (ns.zip ([] : List Value))).lookup z = _
        rw [List.zip_nil_right, List.lookup_cons, List.lookup_nil]
        by_cases q : z = n
        · subst q; simp
        · have hb : (z == n) = false := beq_eq_false_iff_ne.mpr q
          rw [hb, if_neg q]; rfl
      | cons w ws =>
        have e' : ns[ws.length]? = some x := by simpa using e
        show ((n, w) :: (ns.zip (ws ++ [y]))).lookup z = if z = x then some y else ((n, w) :: (ns.zip ws)).lookup z
        rw [List.lookup_cons, List.lookup_cons, ih ws (List.nodup_cons.mp nd).2 e']
        by_cases q : z = n
        · subst q
          have : z ≠ x := fun r => (List.nodup_cons.mp nd).1 (by rw [r]; exact List.mem_of_getElem? e')
          simp [this]
        · have hb : (z == n) = false := beq_eq_false_iff_ne.mpr q
          rw [hb]
  rw [key names xs nd hx]
  show (if z = x then some y else m z) = _
  rw [hm z]

noncomputable def atF (C : Addr) (i : Nat) : SF := fun vs σ => match vs with
  | [v] => (match attrs? σ v with
    | some (C', ws) => if Nat.beq C' C then (match ws[i]? with | some w => if w.notG then some (w, σ) else none | none => none) else none
    | none => none)
  | _ => none

section
variable {c : Cx} {k : Nat} {vars : List (Nat × Str)} {sc : Scope}

theorem get_attr (O : c.Ok) {C : Addr} {i : Nat} {name : Str} (hg : plainGet c.K C name = true) (hh : hasDictIn c.K C = true) (ha : findIn c.K (.ref C) name = some none) (hl : (c.lay C)[i]? = some name) (nd : (c.lay C).Nodup) :
    FnOk c k (one fun x => getAttr x name true) (atF C i) := by
  intro A s F ρ σ vs xs v σ' Q E hA H r e q
  unfold atF at e
  split at e
  · rename_i v₀
    split at e
    · rename_i C' ws ea
      split at e
      · rename_i hc
        have := Nat.eq_of_beq_eq_true hc
        subst this
        split at e
        · rename_i w hw
          split at e
          · rename_i hnw
            cases e
            cases r with
            | cons r0 _ =>
              obtain ⟨a, dx, m, ys, rfl, hia, hns, hm, rs⟩ := inst_at H r0 ea
              obtain ⟨y, hy, ry⟩ := rs.get i hw
              obtain ⟨od, hod, hlk⟩ := lookIn_ns (Heap.Ns1.ns hns)
              have hv : m name = some y := (hm name).trans (zip_lookup_at nd hl hy)
              show wpAny _ _ (getAttr (.ref a) name true) _ _ _
              refine get_value (O.atK H) (InstAt.ofNs hia hod) (plainGet_of hg).1 (findObj_own hh ha rfl (by rw [hlk, hv])) (handed_of ry hnw) (q _ _ ρ H .toks ry)
          · cases e
        · cases e
      · cases e
    · cases e
  · cases e

theorem den_op1 {t : Value → Sem Value} {o : Expr} {e₁ : Expr} {f : SE} {F₁ : SF} (ho : DenE c k vars sc o f) (hF : FnOk c k (one t) F₁)
    (he : ∀ (env : Env) (A : Around) (s : Shared) (Q E : Value → Shared → Prop), env.scope = sc → wpAny (model c.prog c.w) A (eval o env) (fun x s₁ => wpAny (model c.prog c.w) A (t x) Q E s₁) E s → wpAny (model c.prog c.w) A (eval e₁ env) Q E s) : DenE c k vars sc e₁ (op1 F₁ f) := by
  intro env A s F ρ loc σ v σ' Q E hs hA H I e q
  unfold op1 at e
  split at e
  · rename_i a σ₁ e1
    refine he env A s Q E hs (ho env A s F ρ loc σ a σ₁ _ _ hs hA H I e1 fun x s₁ ρ₁ H₁ A₁ r₁ => ?_)
    exact hF A s₁ F ρ₁ σ₁ [a] [x] v σ' Q E hA H₁ (.cons r₁ .nil) e fun z s₃ ρ₃ H₃ A₃ r₃ => q z s₃ ρ₃ H₃ (A₁.trans H.len H₁.len A₃) r₃
  · cases e
theorem den_at {value : Expr} {attr : Str} {pos : Pos} {f : SE} {F₁ : SF} (ho : DenE c k vars sc value f) (hF : FnOk c k (one fun x => getAttr x attr true) F₁)
    (he : ∀ env : Env, eval (.Attribute value attr pos) env = (do let o ← eval value env; standAt pos.atName; let r ← holding [o] (getAttr o attr true); letTemporaryGo value o r; pure r)) : DenE c k vars sc (.Attribute value attr pos) (op1 F₁ f) :=
  den_op1 ho hF fun env _ _ _ _ _ h => Attribute_any_ h (he env)

noncomputable def clsF (C : Addr) (v : V) : SF := fun vs σ => match vs with
  | [.g (.ref a)] => if Nat.beq a C then some (v, σ) else none
  | _ => none
theorem get_clsattr (O : c.Ok) {C : Addr} {name : Str} {mc x : Value} {v : V} (hr : readsIn c.K C mc = true) (e₀ : findCls c.K (.ref C) mc name = some (.val x)) (hh : handedIn x = true) (hv : ∀ F ρ h, VR c.lay F ρ h v x) :
    FnOk c k (one fun x => getAttr x name true) (clsF C v) := by
  intro A s F ρ σ vs xs v' σ' Q E hA H r e q
  unfold clsF at e
  split at e
  · rename_i a
    split at e
    · rename_i hc
      have := Nat.eq_of_beq_eq_true hc
      subst this
      cases e
      cases r with
      | cons r0 _ => cases r0; exact cls_value (O.atK H) hr e₀ hh (q _ _ ρ H .toks (hv _ _ _))
    · cases e
  · cases e

noncomputable def stA (C : Addr) (i : Nat) (f : SE) : SA := fun v loc σ => match f loc σ with
  | some (.inst C' n, σ₁) => if Nat.beq C' C then (match σ₁[n]? with
    | some (.dict C'' ws) => if Nat.beq C'' C && Nat.beq ws.length i then some (loc, σ₁.set n (.dict C (ws ++ [v]))) else none
    | _ => none) else none
  | _ => none
theorem set_attr (O : c.Ok) {C : Addr} {name : Str} {A : Around} {s : Shared} {F : Addr → Prop} {ρ : List Addr} {σ : Hp} {n : Nat} {ws : List V} {v : V} {x y : Value} {Q : Unit → Shared → Prop} {E : Value → Shared → Prop}
    (hs : findIn c.K (.ref C) "__setattr__" = some (some (.builtin "object.__setattr__"))) (hp : plainOver c.K C = true) (ht : takerIn c.K C name = some none) (hh : hasDictIn c.K C = true) (nd : (c.lay C).Nodup) (hl : (c.lay C)[ws.length]? = some name) (hz : (c.lay C).length ≤ 1000)
    (H : HInv c.lay F c.h₀ ρ σ s.heap) (rx : VR c.lay F ρ s.heap (.inst C n) x) (hn : σ[n]? = some (.dict C ws)) (ry : VR c.lay F ρ s.heap v y)
    (q : ∀ s', HInv c.lay F c.h₀ ρ (σ.set n (.dict C (ws ++ [v]))) s'.heap → Adv ρ σ s ρ (σ.set n (.dict C (ws ++ [v]))) s' NoW → Q () s') : wpAny (model c.prog c.w) A (setAttr x name y) Q E s := by
  cases rx with
  | @inst _ a dx _ fa ha hρ =>
    obtain ⟨m, xs, hns, hm, rs⟩ := H.objs _ _ _ hn hρ
    obtain ⟨od, hod, hlk⟩ := lookIn_ns (Heap.Ns1.ns hns)
    have I := InstAt.ofNs ha hod
    refine set_plain (O.atK H) I hs ?_
    refine osa_open (s := { s with toks := s.toks + 1 }) (O.atK H) I hp ht fun b => ?_
    obtain ⟨cd, hc, hd'⟩ := any_some hh
    refine wpAny_bind (wpAny_pure (wpAny_bind (wpAny_bind (wpAny_loadPart ha (wpAny_bind (looks_clsIn (O.atK H) hc _ _ _ _ (fun _ _ e => e) ?_))))))
    rw [hd']
    refine wpAny_pure (a := some dx) (wpAny_bind (wpAny_pure ?_))
    have hpast : ∀ {h' : Heap} {m' : Str → Option Value}, h'.Ns1 dx m' → Within m' (c.lay C) → (c.lay C).length ≤ 1000 → ∃ o', h'.get? dx = some o' ∧ o'.data.pastItsLine = none := fun x w z => by
      obtain ⟨o', es, ep, e, d, l⟩ := x.count w
      exact ⟨o', e, by rw [d]; exact pastItsLine_dict (by rw [sizeLine_eq]; omega)⟩
    refine wpAny_bind (wpAny_nsSet1 hns fun h' hns' hsb => ?_)
    have hm' := attrMap_put (y := y) nd (rs.length ▸ hl) hm
    obtain ⟨o', ho', hpl⟩ := hpast hns' (attrMap_within hm') hz
    refine wpAny_bind (wpAny_lookBehind ho' hpl (wpAny_pure ?_))
    refine q _ (H.upd hρ hsb ⟨o', ho'⟩ ⟨_, xs ++ [y], hns', hm', ?_⟩) (Adv.upd hρ ⟨_, hn, by simp⟩ hsb ⟨o', ho'⟩)
    exact (rs.grow (Grow.upd hρ hsb)).append (.cons (ry.grow (Grow.upd hρ hsb)) .nil)
theorem den_atA (O : c.Ok) {C : Addr} {i : Nat} {o : Expr} {name : Str} {pos} {f : SE} (ho : DenE c k vars sc o f)
    (hs : findIn c.K (.ref C) "__setattr__" = some (some (.builtin "object.__setattr__"))) (hp : plainOver c.K C = true) (ht : takerIn c.K C name = some none) (hh : hasDictIn c.K C = true) (nd : (c.lay C).Nodup) (hl : (c.lay C)[i]? = some name) (hz : (c.lay C).length ≤ 1000) :
    DenA c k vars sc (.Attribute o name pos) (stA C i f) := by
  intro env A s F ρ loc σ v x loc' σ' Q E hsc hA H I r e q
  unfold stA at e
  split at e
  · rename_i C' n σ₁ e1
    split at e
    · rename_i hc
      have := Nat.eq_of_beq_eq_true hc
      subst this
      split at e
      · rename_i C'' ws es
        split at e
        · rename_i hb
          obtain ⟨b1, b2⟩ := Bool.and_eq_true_iff.mp hb
          have := Nat.eq_of_beq_eq_true b1
          subst this
          have := Nat.eq_of_beq_eq_true b2
          subst this
          cases e
          show wpAny _ _ (do let ov ← holding [x] (eval o env); standAt pos.atName; holding [x, ov] (setAttr ov name x); release [x, ov] []) _ _ _
          refine wpAny_bind (wpAny_holding (ho env A s F ρ loc σ _ σ₁ _ _ hsc hA H I e1 fun y s₁ ρ₁ H₁ A₁ r₁ => wpAny_bind (wpAny_standAt (wpAny_bind (wpAny_holding ?_)))))
          refine set_attr O hs hp ht hh nd hl hz H₁ r₁ es (r.adv H A₁) fun s₂ H₂ A₂ => ?_
          have I₁ := I.adv H A₁
          exact fun Γ p _ => (Sem.wp_release _ _ _ _ _ _ _ _).mpr (q s₂ ρ₁ H₂ (I₁.adv H₁ A₂) (A₁.ofE.trans H.len H₁.len A₂.ofE))
        · cases e
      · cases e
    · cases e
  · cases e
end
end Mine
namespace Mine
open PySem PySem.Spec PySem.Calls PyProof.Rows PySem.W

theorem AOk.deeper {k : Nat} {A : Around} (h : AOk (k + 1) A) (env : Env) : AOk k (A.deeper env) := by
  obtain ⟨a, b, u, g⟩ := h
  refine ⟨a, ?_, ?_, g⟩
  · show A.depth + 1 + 4 * k < _; omega
  · show A.units + 3 + 40 * k < _; omega
theorem AOk.in1 {k : Nat} {A : Around} (h : AOk (k + 1) A) : AOk k A.in1 := by
  obtain ⟨a, b, u, g⟩ := h
  refine ⟨a, ?_, ?_, g⟩
  · show A.depth + 4 * k < _; omega
  · show A.units + 1 + 40 * k < _; omega
theorem AOk.le {k j : Nat} {A : Around} (h : AOk k A) (hj : j ≤ k) : AOk j A := by
  obtain ⟨a, b, u, g⟩ := h
  have h1 : 4 * j ≤ 4 * k := Nat.mul_le_mul_left 4 hj
  have h2 : 40 * j ≤ 40 * k := Nat.mul_le_mul_left 40 hj
  exact ⟨a, by omega, by omega, g⟩
theorem AOk.room {k : Nat} {A : Around} (h : AOk k A) : A.depth < recursionLimit := by have := h.2.1; omega
theorem AOk.units {k : Nat} {A : Around} (h : AOk k A) : A.units < cLine := by have := h.2.2.1; omega
theorem AOk.make {k : Nat} {A : Around} (h : AOk (k + 1) A) (C : Addr) (vals : List Value) : AOk k (A.under (.builtin "type.__call__" ⟨.ref C :: vals, []⟩)) := by
  obtain ⟨a, b, u, g⟩ := h
  refine ⟨a, ?_, ?_, ?_⟩
  · rw [depth_under_make]; omega
  · rw [units_under_make]; omega
  · have e1 : (A.under (.builtin "type.__call__" ⟨.ref C :: vals, []⟩)).guards = pushGuards (Code.guards (.builtin "type.__call__" ⟨.ref C :: vals, []⟩)) A.guards := rfl
    have e2 : Code.guards (.builtin "type.__call__" ⟨.ref C :: vals, []⟩) = [] := by simp [Code.guards, Code.isGuard, guardIds]
    rw [e1, e2]; exact g

noncomputable def CodeOk (c : Cx) (k : Nat) (cd : List Value → Code) (f : SF) : Prop :=
  ∀ (A : Around) (s : Shared) (F : Addr → Prop) (ρ : List Addr) (σ : Hp) (vs : List V) (xs : List Value) (v : V) (σ' : Hp) (R : Result → Shared → Prop),
    AOk k A → HInv c.lay F c.h₀ ρ σ s.heap → VRs c.lay F ρ s.heap vs xs → f vs σ = some (v, σ') →
    (∀ z s' ρ', HInv c.lay F c.h₀ ρ' σ' s'.heap → Adv ρ σ s ρ' σ' s' NoW → VR c.lay F ρ' s'.heap v z → R (.ok (.ret z)) s') → codeAny (model c.prog c.w) A (cd xs) R s
theorem CodeOk.fn {c : Cx} {k : Nat} {f : Value} {F₀ : SF} (h : CodeOk c k (fun xs => .call f ⟨xs, []⟩) F₀) : FnOk c k (fun xs => call f xs) F₀ := by
  intro A s F ρ σ vs xs v σ' Q E hA H r e q
  exact wpAny_call (h A s F ρ σ vs xs v σ' _ hA H r e fun z s' ρ' H' A' r' => q z s' ρ' H' A' r')
noncomputable def kw1 (f : Value) (n : Str) (xs : List Value) : Sem Value := call f xs.dropLast [(n, xs.getLastD .none)]
theorem CodeOk.kw {c : Cx} {k : Nat} {f : Value} {n : Str} {F₀ : SF} (h : CodeOk c k (fun xs => .call f ⟨xs.dropLast, [(n, xs.getLastD .none)]⟩) F₀) : FnOk c k (kw1 f n) F₀ := by
  intro A s F ρ σ vs xs v σ' Q E hA H r e q
  exact wpAny_call (h A s F ρ σ vs xs v σ' _ hA H r e fun z s' ρ' H' A' r' => q z s' ρ' H' A' r')
theorem FnOk.le {c : Cx} {k j : Nat} {t : List Value → Sem Value} {f : SF} (h : FnOk c k t f) (hj : k ≤ j) : FnOk c j t f := fun A s F ρ σ vs xs v σ' Q E hA => h A s F ρ σ vs xs v σ' Q E (hA.le hj)
theorem CodeOk.le {c : Cx} {k j : Nat} {t : List Value → Code} {f : SF} (h : CodeOk c k t f) (hj : k ≤ j) : CodeOk c j t f := fun A s F ρ σ vs xs v σ' R hA => h A s F ρ σ vs xs v σ' R (hA.le hj)

theorem bindL_skip {kd : Str → Option NameKind} {x : Str} : ∀ (l : List (Str × Value)) (m : Str → Option Value), (∀ p ∈ l, p.1 ≠ x) → bindL kd l m x = m x
  | [], _, _ => rfl
  | (n, v) :: r, m, h => by
    unfold bindL
    rw [bindL_skip r _ fun p hp => h p (List.mem_cons_of_mem _ hp)]
    have : x ≠ n := fun e => h (n, v) List.mem_cons_self e.symm
    split <;> simp [this]
theorem bindC_skip {kd : Str → Option NameKind} {x : Str} : ∀ (l : List (Str × Value)) (m : Str → Option Value), (∀ p ∈ l, p.1 ≠ x) → bindC kd l m x = m x
  | [], _, _ => rfl
  | (n, v) :: r, m, h => by
    unfold bindC
    rw [bindC_skip r _ fun p hp => h p (List.mem_cons_of_mem _ hp)]
    have : x ≠ n := fun e => h (n, v) List.mem_cons_self e.symm
    split <;> simp [this]
theorem zip_fst_mem {names : List Str} {xs : List Value} {p : Str × Value} (h : p ∈ names.zip xs) : p.1 ∈ names := (List.of_mem_zip h).1
theorem bindL_at {kd : Str → Option NameKind} : ∀ (names : List Str) (xs : List Value) (m : Str → Option Value) {i : Nat} {x : Str} {y : Value}, names.Nodup → names[i]? = some x → xs[i]? = some y → kd x = some .local → bindL kd (names.zip xs) m x = some y
  | [], _, _, _, _, _, _, h, _, _ => by simp at h
  | _ :: _, [], _, _, _, _, _, _, h, _ => by simp at h
  | n :: ns, z :: zs, m, i, x, y, nd, hx, hy, hk => by
    obtain ⟨n1, n2⟩ := List.nodup_cons.mp nd
    rw [List.zip_cons_cons]
    unfold bindL
    cases i with
    | zero =>
      simp at hx hy
      subst hx hy
      rw [bindL_skip _ _ fun p hp (e : p.1 = _) => n1 (by rw [← e]; exact zip_fst_mem hp), if_pos hk]; simp
    | succ i => exact bindL_at ns zs _ n2 (by simpa using hx) (by simpa using hy) hk
theorem bindC_at {kd : Str → Option NameKind} : ∀ (names : List Str) (xs : List Value) (m : Str → Option Value) {i : Nat} {x : Str} {y : Value}, names.Nodup → names[i]? = some x → xs[i]? = some y → kd x ≠ some .local → bindC kd (names.zip xs) m x = some y
  | [], _, _, _, _, _, _, h, _, _ => by simp at h
  | _ :: _, [], _, _, _, _, _, _, h, _ => by simp at h
  | n :: ns, z :: zs, m, i, x, y, nd, hx, hy, hk => by
    obtain ⟨n1, n2⟩ := List.nodup_cons.mp nd
    rw [List.zip_cons_cons]
    unfold bindC
    cases i with
    | zero =>
      simp at hx hy
      subst hx hy
      rw [bindC_skip _ _ fun p hp (e : p.1 = _) => n1 (by rw [← e]; exact zip_fst_mem hp), if_neg hk]; simp
    | succ i => exact bindC_at ns zs _ n2 (by simpa using hx) (by simpa using hy) hk

theorem Grow.lessF {F F' : Addr → Prop} {ρ : List Addr} {h : Heap} (hF : ∀ a, F a → F' a) : Grow F' ρ h F ρ h := ⟨fun _ _ _ e => e, fun _ _ fr _ => ⟨fun f => fr.1 (hF _ f), fr.2⟩, fun _ _ e => e⟩
theorem HInv.lessF {lay : Addr → List Str} {F F' : Addr → Prop} {h₀ : Heap} {ρ : List Addr} {σ : Hp} {h : Heap} (H : HInv lay F' h₀ ρ σ h) (hF : ∀ a, F a → F' a) : HInv lay F h₀ ρ σ h := by
  have G : Grow F' ρ h F ρ h := Grow.lessF hF
  refine ⟨H.len, H.nodup, fun a ha => let ⟨x, y⟩ := H.own a ha; ⟨fun f => x (hF a f), y⟩, fun a ha => H.fr a (hF a ha), fun n o a e q => ?_, H.base⟩
  have r := H.objs n o a e q
  cases o with
  | lst vs => obtain ⟨items, z, v⟩ := r; exact ⟨items, z, v.grow G⟩
  | dict C vs => obtain ⟨m, xs, z, q, v⟩ := r; exact ⟨m, xs, z, q, v.grow G⟩
  | dead => trivial

structure FnShape (c : Cx) (f : Addr) (fd : FuncData) (body : List Stmt) (names : List Str) (vars : List (Nat × Str)) (nloc : Nat) : Prop where
  look : ∃ oc od osl, c.K.lookup f = some ⟨oc, od, .func fd, osl⟩
  code : codeIn c.K fd.code fd.qualname = true
  stmts : fd.body = .stmts body
  closure : fd.closure = []
  globals : fd.globals = mainGlobals
  builtins : fd.builtins = builtinsNs
  co : fd.scope.isCoroutine = false
  gen : fd.scope.isGenerator = false
  kind : fd.scope.kind = .function
  nodup : names.Nodup
  vok : VarsOk vars
  kinds : ∀ p ∈ vars, fd.scope.names.lookup p.2 = some .local ∨ fd.scope.names.lookup p.2 = some .cell
  pars : ∀ i x, names[i]? = some x → (i, x) ∈ vars
  size : names.length ≤ nloc

noncomputable def Binds (K : Frag) (fd : FuncData) (mk : List Value → Args) (names : List Str) (extra : Bool) : Prop :=
  ∀ (M : Model) (A : Around) (s : Shared) (Q : List (Str × Value) → Shared → Prop) (E : Value → Shared → Prop) (xs : List Value), K.In s.heap → xs.length + (if extra then 1 else 0) = names.length →
    (if extra then Q (names.zip (xs ++ [.ref s.heap.objs.size])) { s with heap := s.heap.push emptyDict } else Q (names.zip xs) s) → wpAny M A (bindArgs fd (mk xs)) Q E s

noncomputable def locOf (vs : List V) (nloc : Nat) : Loc := vs.map some ++ List.replicate (nloc - vs.length) none
noncomputable def fnF (n nloc : Nat) (extra : Bool) (fb : SS) : SF := fun vs σ =>
  if Nat.beq vs.length n then
    match fb (locOf (if extra then vs ++ [.edict] else vs) nloc) σ with
    | some (.ret v, _, σ') => some (v, σ')
    | some (.next, _, σ') => some (.none, σ')
    | _ => none
  else none

theorem locOf_get {vs : List V} {nloc i : Nat} {v : V} (h : (locOf vs nloc)[i]? = some (some v)) : vs[i]? = some v := by
  unfold locOf at h
  by_cases hl : i < vs.length
  · rw [List.getElem?_append_left (by simpa using hl)] at h
    simpa using h
  · rw [List.getElem?_append_right (by simpa using Nat.le_of_not_lt hl)] at h
    obtain ⟨h1, h2⟩ := List.getElem?_eq_some_iff.mp h
    simp at h2

theorem OR.mono0 {lay : Addr → List Str} {F F' : Addr → Prop} {ρ : List Addr} {h h' : Heap} {o : SO} {a : Addr} (r : OR lay F ρ h o a) (hk : ∀ b o, h.get? b = some o → h'.get? b = some o) (G : Grow F ρ h F' ρ h') : OR lay F' ρ h' o a := by
  cases o with
  | lst vs => obtain ⟨items, ⟨n, ho⟩, v⟩ := r; exact ⟨items, ⟨n, hk _ _ ho⟩, v.grow G⟩
  | dict C vs => obtain ⟨m, xs, ⟨o, es, ep, e, z⟩, q, v⟩ := r; exact ⟨m, xs, ⟨o, es, ep, hk _ _ e, z⟩, q, v.grow G⟩
  | dead => trivial

theorem code_run {c : Cx} {k : Nat} (O : c.Ok) {f : Addr} {fd : FuncData} {body : List Stmt} {names : List Str} {vars : List (Nat × Str)} {nloc : Nat} {fb : SS} (S : FnShape c f fd body names vars nloc) (hb : DenSs c k vars fd.scope body fb)
    {A : Around} {s : Shared} {F : Addr → Prop} {ρ : List Addr} {σ : Hp} {vs : List V} {xs : List Value} {fl : Fl} {loc' : Loc} {σ' : Hp} {R : Result → Shared → Prop}
    (hA : AOk (k + 1) A) (H : HInv c.lay F c.h₀ ρ σ s.heap) (r : VRs c.lay F ρ s.heap vs xs) (hn : xs.length = names.length) (e : fb (locOf vs nloc) σ = some (fl, loc', σ'))
    (q : ∀ z s' ρ', HInv c.lay F c.h₀ ρ' σ' s'.heap → Adv ρ σ s ρ' σ' s' NoW → FlR c.lay F ρ' s'.heap fl z → R (.ok (.ret (match z with | .ret v => v | _ => .none))) s') :
    wpAny (model c.prog c.w) A.in1 (newFunctionEnv fd.scope fd.globals fd.closure (names.zip xs) (fd.qualname ++ ".<locals>.") (some f) fd.code none fd.builtins)
        (fun env s₂ => s₂.heap.NoLimit ∧ codeAny (model c.prog c.w) A (.func body env) R s₂) (fun e s' => R (.error e) s') s := by
  rw [S.closure]
  have kindOf : ∀ x, (fd.scope.names.lookup x = some .local ∨ fd.scope.names.lookup x = some .cell) → fd.scope.names.lookup x = some .local ∨ (fd.scope.names.lookup x = some .cell ∧ ((cellsFrom (s.heap.objs.size + 1) fd.scope.names []).lookup x).isSome = true) :=
    fun x h => h.imp id fun h => ⟨h, cellsFrom_some _ _ _ (.inl h)⟩
  refine wpAny_newFunctionEnv_cells S.kind (fun p hp => ?_) fun env henv s' IC => ?_
  · obtain ⟨i, hi, he⟩ := List.getElem_of_mem (zip_fst_mem hp)
    exact kindOf _ (S.kinds _ (S.pars i p.1 (by rw [← he]; exact List.getElem?_eq_getElem hi)))
  have eL : env.locals = s.heap.objs.size := by rw [henv]; rfl
  have eS : env.scope = fd.scope := by rw [henv]; rfl
  have eC : env.cells = cellsFrom (s.heap.objs.size + 1) fd.scope.names [] := by rw [henv]; rfl
  have eK : ∀ x, env.kindOf x = fd.scope.names.lookup x := fun x => by rw [Env.kindOf, eS]
  have newOwn : ∀ a, OwnW env a → s.heap.objs.size ≤ a := fun a w => by
    rcases w with rfl | ⟨x, hx⟩
    · rw [eL]; exact Nat.le_refl _
    · exact Nat.le_of_lt (eL ▸ IC.above x a (mem_of_lookup hx))
  have notOwn : ∀ b o, s.heap.get? b = some o → ¬ OwnW env b := fun b o e w => Nat.lt_irrefl _ (Nat.lt_of_lt_of_le (Heap.lt_size e) (newOwn b w))
  have hk := IC.toInCall.keep
  obtain ⟨h', tk, rfl⟩ := IC.toInCall.same
  dsimp only at hk
  have G : Grow F ρ s.heap (fun a => F a ∨ OwnW env a) ρ h' := ⟨fun b o _ e => hk b o e, fun b o fr e => ⟨fun w => w.elim fr.1 (notOwn b o e), fr.2⟩, fun _ _ e => e⟩
  have ownThere : ∀ a, OwnW env a → ∃ o, h'.get? a = some o := fun a w => by
    rcases w with rfl | ⟨x, hx⟩
    · obtain ⟨o, _, _, ho, _⟩ := IC.toInCall.ns; exact ⟨o, ho⟩
    · obtain ⟨o, ho, _⟩ := IC.cell x a hx; exact ⟨o, ho⟩
  have H' : HInv c.lay (fun a => F a ∨ OwnW env a) c.h₀ ρ σ h' := by
    refine ⟨H.len, H.nodup, fun a ha => ?_, fun a w => ?_, fun n o a e z => OR.mono0 (H.objs n o a e z) hk G, fun b o e => hk _ _ (H.base b o e)⟩
    · obtain ⟨x, y, o, e⟩ := H.own a ha
      exact ⟨fun w => w.elim x (notOwn a o e), y, o, hk _ _ e⟩
    · rcases w with w | w
      · obtain ⟨y, o, e⟩ := H.fr a w; exact ⟨y, o, hk _ _ e⟩
      · refine ⟨?_, ownThere a w⟩
        cases e : c.h₀.get? a with
        | none => rfl
        | some o => exact absurd w (notOwn a o (H.base a o e))
  have I' : FrI c.lay vars (fun a => F a ∨ OwnW env a) ρ env (locOf vs nloc) h' := by
    refine ⟨S.vok, by rw [eS]; exact S.kind, by rw [henv]; exact S.globals, by rw [henv]; exact S.builtins, ⟨_, IC.toInCall.ns⟩, .inr (.inl rfl), fun x a hx => ⟨.inr (.inr ⟨x, hx⟩), Nat.ne_of_gt (IC.above x a (mem_of_lookup hx)), _, IC.cell x a hx⟩,
      fun x y a hx hy => name_of_addr IC.apart (mem_of_lookup hx) (mem_of_lookup hy), fun i x hx => ?_, fun i x v hx hv => ?_⟩
    · rw [eK]
      refine (kindOf x (S.kinds _ hx)).imp id fun ⟨a, b⟩ => ⟨a, ?_⟩
      rw [eC]; exact Option.isSome_iff_exists.mp b
    · have hv' := locOf_get hv
      obtain ⟨y, hy, ry⟩ := r.get i hv'
      obtain ⟨il, _⟩ := List.getElem?_eq_some_iff.mp hy
      obtain ⟨x', hx'⟩ : ∃ x', names[i]? = some x' := ⟨names[i]'(hn ▸ il), List.getElem?_eq_getElem _⟩
      have : x = x' := S.vok.inj2 i x x' hx (S.pars i x' hx')
      subst this
      refine ⟨y, ?_, ry.grow G⟩
      rcases kindOf x (S.kinds _ hx) with hk1 | ⟨hk1, hk2⟩
      · exact .inl ⟨(eK x).trans hk1, _, IC.toInCall.ns, bindL_at names xs _ S.nodup hx' hy ((eK x).trans hk1)⟩
      · obtain ⟨a, ha⟩ := Option.isSome_iff_exists.mp hk2
        have ha' : env.cells.lookup x = some a := by rw [eC]; exact ha
        refine .inr ⟨(eK x).trans hk1, a, ha', ?_⟩
        have z := IC.cell x a ha'
        rwa [bindC_at names xs _ S.nodup hx' hy (by rw [eK, hk1]; decide)] at z
  refine ⟨(O.atL H').keeps fun _ _ e => e, codeAny_func ?_⟩
  refine hb env (A.deeper env) _ (fun a => F a ∨ OwnW env a) ρ (locOf vs nloc) σ fl loc' σ' _ _ eS (hA.deeper env) H' I' e fun z s₂ ρ₂ H₂ I₂ A₂ r₂ => ?_
  have rz : FlR c.lay F ρ₂ s₂.heap fl z := by
    cases r₂ with
    | next => exact .next
    | brk => exact .brk
    | cont => exact .cont
    | ret r => exact .ret (r.grow (Grow.lessF fun a f => .inl f))
  refine q z s₂ ρ₂ (H₂.lessF fun a f => .inl f) ?_ rz
  obtain ⟨tl, rfl, ht⟩ := A₂.tl
  refine ⟨⟨tl, rfl, fun a ha => ?_⟩, A₂.live, fun b o e nl _ => A₂.keep b o (hk b o e) nl (notOwn b o e), fun b o e => A₂.there b o (hk b o e), A₂.gens, A₂.drawn, A₂.os⟩
  cases e : s.heap.get? a with
  | none => rfl
  | some o => have z := hk a o e; rw [show h'.get? a = none from ht a ha] at z; cases z
end Mine
namespace Mine
open PySem PySem.Spec PySem.Calls PyProof.Rows PySem.W

theorem code_fn {c : Cx} {k : Nat} (O : c.Ok) {f : Addr} {fd : FuncData} {body : List Stmt} {names : List Str} {vars : List (Nat × Str)} {nloc n : Nat} {fb : SS} {mk : List Value → Args} (S : FnShape c f fd body names vars nloc) (hb : DenSs c k vars fd.scope body fb)
    (B : Binds c.K fd mk names false) (hn : n = names.length) : CodeOk c (k + 1) (fun xs => .call (.ref f) (mk xs)) (fnF n nloc false fb) := by
  intro A s F ρ σ vs xs v σ' R hA H r e q
  unfold fnF at e
  split at e
  · rename_i hl
    have hl := Nat.eq_of_beq_eq_true hl
    obtain ⟨oc, od, osl, look⟩ := S.look
    refine codeAny_call_function hA.room ((O.atK H) _ _ look) rfl S.co S.gen S.stmts (codeRec_of (O.atK H) S.code) ?_
    have hx : xs.length = names.length := by rw [← r.length, hl, hn]
    refine B _ _ _ _ _ xs (O.atK H) (by simpa using hx) ?_
    simp only [Bool.false_eq_true, if_false] at e ⊢
    split at e
    · rename_i v' loc' σ₁ e1
      cases e
      exact code_run O S hb hA H r hx e1 fun z s' ρ' H' A' r' => by cases r' with | ret r' => exact q _ s' ρ' H' A' r'
    · rename_i loc' σ₁ e1
      cases e
      exact code_run O S hb hA H r hx e1 fun z s' ρ' H' A' r' => by cases r'; exact q _ s' ρ' H' A' .none
    · cases e
  · cases e

theorem code_fnX {c : Cx} {k : Nat} (O : c.Ok) {f : Addr} {fd : FuncData} {body : List Stmt} {names : List Str} {vars : List (Nat × Str)} {nloc n : Nat} {fb : SS} {mk : List Value → Args} (S : FnShape c f fd body names vars nloc) (hb : DenSs c k vars fd.scope body fb)
    (B : Binds c.K fd mk names true) (hn : n + 1 = names.length) : CodeOk c (k + 1) (fun xs => .call (.ref f) (mk xs)) (fnF n nloc true fb) := by
  intro A s F ρ σ vs xs v σ' R hA H r e q
  unfold fnF at e
  split at e
  · rename_i hl
    have hl := Nat.eq_of_beq_eq_true hl
    obtain ⟨oc, od, osl, look⟩ := S.look
    refine codeAny_call_function hA.room ((O.atK H) _ _ look) rfl S.co S.gen S.stmts (codeRec_of (O.atK H) S.code) ?_
    have hx : xs.length + 1 = names.length := by rw [← r.length, hl, hn]
    refine B _ _ _ _ _ xs (O.atK H) (by simpa using hx) ?_
    simp only [if_true] at e ⊢
    have hk := push_keep s.heap emptyDict
    have fr := H.freeNew (get_size_none s.heap)
    have nsys : (s.heap.objs.size == sysModules) = false := by
      obtain ⟨o, _, _, ho, _⟩ := O.atG H
      have h3 : (3 : Nat) < s.heap.objs.size := Heap.lt_size ho
      exact beq_eq_false_iff_ne.mpr fun z => by have : s.heap.objs.size = 1 := z; omega
    have A₁ : Adv ρ σ s ρ σ { s with heap := s.heap.push emptyDict } NoW := Adv.ext hk
    have H₁ : HInv c.lay F c.h₀ ρ σ (s.heap.push emptyDict) := H.ext hk
    have r₁ : VRs c.lay F ρ (s.heap.push emptyDict) (vs ++ [.edict]) (xs ++ [.ref s.heap.objs.size]) := (r.adv H A₁).append (.cons (.edict fr (Heap.get?_push_size _ rfl) nsys) .nil)
    have hx' : (xs ++ [Value.ref s.heap.objs.size]).length = names.length := by simpa using hx
    split at e
    · rename_i v' loc' σ₁ e1
      cases e
      exact code_run (s := { s with heap := s.heap.push emptyDict }) O S hb hA H₁ r₁ hx' e1 fun z s' ρ' H' A' r' => by cases r' with | ret r' => exact q _ s' ρ' H' (A₁.trans H.len H₁.len A') r'
    · rename_i loc' σ₁ e1
      cases e
      exact code_run (s := { s with heap := s.heap.push emptyDict }) O S hb hA H₁ r₁ hx' e1 fun z s' ρ' H' A' r' => by cases r'; exact q _ s' ρ' H' (A₁.trans H.len H₁.len A') .none
    · cases e
  · cases e

mutual
noncomputable def V.lowB (n : Nat) : V → Bool
  | .ref m => Nat.blt m n
  | .inst _ m => Nat.blt m n
  | .tup vs => V.lowBs n vs
  | .lst vs => V.lowBs n vs
  | .obj _ vs => V.lowBs n vs
  | _ => true
noncomputable def V.lowBs (n : Nat) : List V → Bool
  | [] => true
  | v :: vs => V.lowB n v && V.lowBs n vs
end
noncomputable def SO.lowB (n : Nat) : SO → Bool
  | .lst vs => V.lowBs n vs
  | .dict _ vs => V.lowBs n vs
  | .dead => true
noncomputable def V.frz (n : Nat) (σ : Hp) : V → V
  | .ref m => if Nat.blt m n then .ref m else match σ[m]? with
    | some (.lst ws) => .lst ws
    | _ => .ref m
  | .inst C m => if Nat.blt m n then .inst C m else match σ[m]? with
    | some (.dict C' ws) => if Nat.beq C' C then .obj C ws else .inst C m
    | _ => .inst C m
  | v => v
noncomputable def trunc (n : Nat) (v : V) (σ : Hp) : Option (V × Hp) :=
  if (V.frz n σ v).lowB n && (σ.take n).all (SO.lowB n) then some (V.frz n σ v, σ.take n) else none
noncomputable def trF (f : SF) : SF := fun vs σ => match f vs σ with
  | some (v, σ') => trunc σ.length v σ'
  | none => none

section
variable {lay : Addr → List Str} {F : Addr → Prop} {ρ tl : List Addr} {h : Heap}
theorem Free.left {a : Addr} (fr : Free F (ρ ++ tl) a) : Free F ρ a := ⟨fr.1, fun m => fr.2 (List.mem_append_left _ m)⟩
theorem slot_left {n : Nat} {a : Addr} (hl : Nat.blt n ρ.length = true) (e : (ρ ++ tl)[n]? = some a) : ρ[n]? = some a := by
  rwa [List.getElem?_append_left (Nat.le_of_ble_eq_true hl)] at e
theorem VR.shrink {v : V} {x : Value} (hv : v.lowB ρ.length = true) (r : VR lay F (ρ ++ tl) h v x) : VR lay F ρ h v x :=
  VR.rec (motive_1 := fun v x _ => v.lowB ρ.length = true → VR lay F ρ h v x) (motive_2 := fun vs xs _ => V.lowBs ρ.length vs = true → VRs lay F ρ h vs xs) (fun _ => .none) (fun _ => .bool) (fun _ => .int) (fun _ => .str) (fun _ => .g)
    (fun fr ht _ ih b => .tup fr.left ht (ih b))
    (fun fr ht _ ih b => .lst fr.left ht (ih b))
    (fun fa fd ha hd k _ ih b => .obj fa.left fd.left ha hd k (ih b))
    (fun fa ha hn b => .inst fa.left ha (slot_left b hn))
    (fun hn b => .ref (slot_left b hn))
    (fun fa hr _ => .rng fa.left hr)
    (fun fa hr z _ => .edict fa.left hr z)
    (fun _ => .nil) (fun _ _ a b q => .cons (a (Bool.and_eq_true_iff.mp q).1) (b (Bool.and_eq_true_iff.mp q).2)) r hv
theorem VRs.shrink {vs : List V} {xs : List Value} (hv : V.lowBs ρ.length vs = true) (r : VRs lay F (ρ ++ tl) h vs xs) : VRs lay F ρ h vs xs := by
  induction xs generalizing vs with
  | nil => cases r; exact .nil
  | cons x xs ih => cases r with | cons a b => exact .cons (a.shrink (Bool.and_eq_true_iff.mp hv).1) (ih (Bool.and_eq_true_iff.mp hv).2 b)
theorem HInv.shrink {h₀ : Heap} {σ : Hp} (H : HInv lay F h₀ (ρ ++ tl) σ h) (hb : (σ.take ρ.length).all (SO.lowB ρ.length) = true) : HInv lay F h₀ ρ (σ.take ρ.length) h := by
  have hle : ρ.length ≤ σ.length := by rw [H.len, List.length_append]; omega
  refine ⟨by rw [List.length_take]; omega, (List.nodup_append.mp H.nodup).1, fun a ha => H.own a (List.mem_append_left _ ha), H.fr, fun n o a e q => ?_, H.base⟩
  obtain ⟨hn, _⟩ := List.getElem?_eq_some_iff.mp q
  have hbo := List.all_eq_true.mp hb o (List.mem_of_getElem? e)
  rw [List.getElem?_take_of_lt hn] at e
  have r := H.objs n o a e (by rw [List.getElem?_append_left hn]; exact q)
  cases o with
  | lst vs => obtain ⟨items, z, v⟩ := r; exact ⟨items, z, v.shrink hbo⟩
  | dict C vs => obtain ⟨m, xs, z, q, v⟩ := r; exact ⟨m, xs, z, q, v.shrink hbo⟩
  | dead => trivial
theorem out_left {n : Nat} {a : Addr} (nd : (ρ ++ tl).Nodup) (hl : Nat.blt n ρ.length = false) (e : (ρ ++ tl)[n]? = some a) : a ∉ ρ := by
  have hge : ρ.length ≤ n := by
    apply Nat.le_of_not_lt; intro q
    rw [show Nat.blt n ρ.length = true from Nat.ble_eq_true_of_le q] at hl; cases hl
  rw [List.getElem?_append_right hge] at e
  exact fun m => (List.nodup_append.mp nd).2.2 a m a (List.mem_of_getElem? e) rfl
theorem VR.frz {h₀ : Heap} {σ : Hp} (H : HInv lay F h₀ (ρ ++ tl) σ h) {v : V} {x : Value} (hb : (V.frz ρ.length σ v).lowB ρ.length = true) (r : VR lay F (ρ ++ tl) h v x) : VR lay F ρ h (V.frz ρ.length σ v) x := by
  have r0 := r
  cases r with
  | @ref a m e =>
    simp only [V.frz] at hb ⊢
    cases hm : Nat.blt m ρ.length with
    | true => rw [hm] at hb; simp only [if_true] at hb ⊢; exact .ref (slot_left hm e)
    | false =>
      rw [hm] at hb
      simp only [Bool.false_eq_true, if_false] at hb ⊢
      split at hb
      · rename_i ws es
        obtain ⟨items, hi, rs⟩ := H.objs _ _ _ es e
        exact .lst ⟨(H.own a (List.mem_of_getElem? e)).1, out_left H.nodup hm e⟩ hi (rs.shrink hb)
      · simp only [V.lowB] at hb; rw [hm] at hb; cases hb
  | @inst C a dx m fa ha e =>
    simp only [V.frz] at hb ⊢
    cases hm : Nat.blt m ρ.length with
    | true => rw [hm] at hb; simp only [if_true] at hb ⊢; exact .inst fa.left ha (slot_left hm e)
    | false =>
      rw [hm] at hb
      simp only [Bool.false_eq_true, if_false] at hb ⊢
      split at hb
      · rename_i C' ws es
        split at hb
        · rename_i hc
          have := Nat.eq_of_beq_eq_true hc
          subst this
          try rw [if_pos hc]
          obtain ⟨mm, xs, hi, hmm, rs⟩ := H.objs _ _ _ es e
          exact .obj fa.left ⟨(H.own dx (List.mem_of_getElem? e)).1, out_left H.nodup hm e⟩ ha hi hmm (rs.shrink hb)
        · simp only [V.lowB] at hb; rw [hm] at hb; cases hb
      · simp only [V.lowB] at hb; rw [hm] at hb; cases hb
  | _ => exact VR.shrink hb r0
end

section
variable {c : Cx} {k : Nat}
theorem trunc_ok {lay : Addr → List Str} {F : Addr → Prop} {h₀ : Heap} {ρ ρ' : List Addr} {σ σ' σ'' : Hp} {s s' : Shared} {v w : V} {z : Value} (H : HInv lay F h₀ ρ σ s.heap) (H' : HInv lay F h₀ ρ' σ' s'.heap) (A' : Adv ρ σ s ρ' σ' s' NoW) (r' : VR lay F ρ' s'.heap v z)
    (e : trunc σ.length v σ' = some (w, σ'')) : HInv lay F h₀ ρ σ'' s'.heap ∧ Adv ρ σ s ρ σ'' s' NoW ∧ VR lay F ρ s'.heap w z := by
  unfold trunc at e
  rw [H.len] at e
  split at e
  · rename_i hb
    obtain ⟨b1, b2⟩ := Bool.and_eq_true_iff.mp hb
    cases e
    obtain ⟨tl, rfl, ht⟩ := A'.tl
    refine ⟨H'.shrink b2, ⟨⟨[], by simp, by simp⟩, fun n hn ⟨o, eo, d⟩ => A'.live n hn ⟨o, ?_, d⟩, A'.keep, A'.there, A'.gens, A'.drawn, A'.os⟩, r'.frz H' b1⟩
    rwa [List.getElem?_take_of_lt (H.len ▸ hn)] at eo
  · cases e
theorem CodeOk.tr {cd : List Value → Code} {f : SF} (h : CodeOk c k cd f) : CodeOk c k cd (trF f) := by
  intro A s F ρ σ vs xs v σ' R hA H r e q
  unfold trF at e
  split at e
  · rename_i v₁ σ₁ e1
    refine h A s F ρ σ vs xs v₁ σ₁ R hA H r e1 fun z s' ρ' H' A' r' => ?_
    obtain ⟨a, b, d⟩ := trunc_ok H H' A' r' e
    exact q z s' ρ a b d
  · cases e

noncomputable def clsC (C : Addr) (fi : SF) : SF := fun vs σ => match fi (.inst C σ.length :: vs) (σ ++ [.dict C []]) with
  | some (.none, σ') => some (.inst C σ.length, σ')
  | _ => none
theorem code_cls (O : c.Ok) {C fI : Addr} {fi : SF} (hi : CodeOk c k (fun xs => .call (.ref fI) ⟨xs, []⟩) fi) (hm : makesIn c.K C = true) (hf : findIn c.K (.ref C) "__init__" = some (some (.ref fI))) (ht : isFn c.K (.ref fI) = true) :
    CodeOk c (k + 1) (fun xs => .call (.ref C) ⟨xs, []⟩) (clsC C fi) := by
  intro A s F ρ σ vs xs v σ' R hA H r e q
  unfold clsC at e
  split at e
  · rename_i σ₁ e1
    cases e
    have X := O.atK H
    obtain ⟨h, g, d, t, os⟩ := s
    dsimp only at H r q X
    refine make_core (init := .ref fI) (makes_of X hm) (looks_findIn X hf) (fun self => bind_fn X self (beq_iff_eq.mp ht)) (.inl (by rfl)) ?_
    have hk1 := push_keep h emptyDict
    have hn1 := get_size_none h
    have hk2 := push_keep (h.push emptyDict) (instObj C h.objs.size)
    have hk : ∀ b o, h.get? b = some o → ((h.push emptyDict).push (instObj C h.objs.size)).get? b = some o := fun b o e => hk2 b o (hk1 b o e)
    have hd : ((h.push emptyDict).push (instObj C h.objs.size)).get? h.objs.size = some emptyDict := hk2 _ _ (Heap.get?_push_size _ rfl)
    have sz : (h.push emptyDict).objs.size = h.objs.size + 1 := Heap.size_push ..
    have hx : ((h.push emptyDict).push (instObj C h.objs.size)).get? (h.objs.size + 1) = some (instObj C h.objs.size) := by
      rw [← sz]; exact Heap.get?_push_size _ rfl
    have hn2 : h.get? (h.objs.size + 1) = none := by
      cases e : h.get? (h.objs.size + 1) with
      | none => rfl
      | some o => exact absurd (Heap.lt_size e) (Nat.not_lt.mpr (Nat.le_succ _))
    have A₁ : Adv ρ σ ⟨h, g, d, t, os⟩ (ρ ++ [h.objs.size]) (σ ++ [.dict C []]) ⟨(h.push emptyDict).push (instObj C h.objs.size), g, d, t, os⟩ NoW := Adv.slot (s := ⟨h, g, d, t, os⟩) hk hn1
    have N1 : ((h.push emptyDict).push (instObj C h.objs.size)).Ns1 h.objs.size fun _ => none := Heap.Ns1.of_empty ⟨_, #[], 0, hd, rfl, fun _ he => by simp at he, fun _ => rfl⟩
    have H₁ : HInv c.lay F c.h₀ (ρ ++ [h.objs.size]) (σ ++ [.dict C []]) ((h.push emptyDict).push (instObj C h.objs.size)) :=
      H.slot hk hn1 ⟨_, hd⟩ ⟨fun _ => none, [], N1, fun x => by simp, .nil⟩
    have rI : VR c.lay F (ρ ++ [h.objs.size]) ((h.push emptyDict).push (instObj C h.objs.size)) (.inst C σ.length) (.ref (h.objs.size + 1)) := by
      refine .inst ⟨(H.freeNew hn2).1, fun m => ?_⟩ hx (by rw [H.len]; simp)
      rcases List.mem_append.mp m with m | m
      · exact (H.freeNew hn2).2 m
      · exact absurd (List.mem_singleton.mp m) (Nat.succ_ne_self _)
    refine hi (A.under (.builtin "type.__call__" ⟨.ref C :: xs, []⟩)) _ F _ _ (.inst C σ.length :: vs) _ .none σ' _ (hA.make C xs) H₁ (.cons rI (r.adv H A₁)) e1 fun z s' ρ' H' A' r' => ?_
    cases r'
    refine ⟨rfl, q _ s' ρ' H' (A₁.trans H.len H₁.len A') (rI.adv H₁ A')⟩
  · cases e
end

section
variable {c : Cx} {k : Nat} {vars : List (Nat × Str)} {sc : Scope}
noncomputable def callE (f : SF) (fs : List SE) : SE := fun loc σ => match argsE fs loc σ with
  | some (vs, σ₁) => f vs σ₁
  | none => none
noncomputable def Keep (c : Cx) (f : Value) : Prop := ∀ (M : Model) (h : Heap), c.K.In h → ∃ kk, (kk = Keeper.frame ∨ kk = Keeper.machine ∨ kk = Keeper.boundFrame) ∧ Looks M h (keeperOf f) kk
theorem Keep.K {f : Value} (e : keepIn c.K f = true) : Keep c f := fun _ h X => keeps_K e h X
theorem Keep.builtin {i : String} : Keep c (.builtin i) := fun _ _ _ => ⟨.machine, .inr (.inl rfl), Looks.of_pure rfl⟩
theorem Keep.type {i : String} : Keep c (.type i) := fun _ _ _ => ⟨.machine, .inr (.inl rfl), Looks.of_pure rfl⟩

theorem wpAny_of_spl_nil {M : Model} {A : Around} {E : Value → Shared → Prop} {s : Shared} {f : Value} {pos : Pos} {Q : Args → Shared → Prop} (h : wpAny M A (spliced (backTo pos [])) (fun vs s' => Q ⟨vs, []⟩ s') E s) : wpAny M A (evalArgs f true (backTo pos []) []) Q E s := by
  unfold evalArgs
  show wpAny M A (spliced (backTo pos []) >>= _) Q E s
  refine wpAny_bind (wpAny_mono h (fun vs s' h' => ?_) fun _ _ x => x)
  refine wpAny_bind (wpAny_pure (wpAny_holding ?_))
  exact wpAny_bind (wpAny_pure (wpAny_bind (wpAny_pure (wpAny_pure h'))))
theorem evalArgs_any {M : Model} {A : Around} {E : Value → Shared → Prop} {s : Shared} {f : Value} {pos : Pos} {es : List Expr} {env : Env} {Q : Args → Shared → Prop} (hst : ∀ p ∈ starEach es env, p.1 = false)
    (h : wpAny M A (spliced (backTo pos (starEach es env))) (fun vs s' => Q ⟨vs, []⟩ s') E s) : wpAny M A (evalArgs f true (backTo pos (starEach es env)) []) Q E s := by
  cases hs : starEach es env with
  | nil =>
    rw [hs] at h
    exact wpAny_of_spl_nil h
  | cons p r =>
    obtain ⟨b, t⟩ := p
    have hb : b = false := hst (b, t) (by rw [hs]; exact List.mem_cons_self)
    subst hb
    rw [hs] at h
    exact evalArgs_plain h
end
end Mine
namespace Mine
open PySem PySem.Spec PySem.Calls PyProof.Rows PySem.W

noncomputable def starFree : List Expr → Bool
  | [] => true
  | .Starred .. :: _ => false
  | _ :: r => starFree r
theorem starEach_free {env : Env} : ∀ {es : List Expr}, starFree es = true → ∀ q ∈ starEach es env, q.1 = false
  | [], _, q, hq => by cases hq
  | e :: r, h, q, hq => by
    cases e <;> first
      | (rcases List.mem_cons.mp hq with rfl | hq
         · rfl
         · exact starEach_free (es := r) h q hq)
      | cases h
theorem starFree_cons {e : Expr} {r : List Expr} (h : starFree (e :: r) = true) (env : Env) : starEach (e :: r) env = (false, eval e env) :: starEach r env := by
  cases e <;> first | rfl | cases h

section
variable {c : Cx} {k : Nat} {vars : List (Nat × Str)} {sc : Scope}
theorem den_argC {e₀ : Expr} {rest : List Expr} {f : SE} {fs : List SE} (he : DenE c k vars sc e₀ f) (hr : DenArgs c k vars sc rest (argsE fs)) (hst : starFree [e₀] = true) : DenArgs c k vars sc (e₀ :: rest) (argsE (f :: fs)) :=
  den_argCons he hr fun env => by cases e₀ <;> first | rfl | cases hst

theorem any_free {es : List Expr} {env : Env} {pos : Pos} (h : starFree es = true) : (backTo pos (starEach es env)).any (·.1) = false := by
  rw [List.any_eq_false]
  intro q hq
  obtain ⟨p, hp, rfl⟩ := List.mem_map.mp hq
  simp [starEach_free h p hp]

theorem callWith_go {f : Value} {F₁ : SF} {args : List Expr} {fs : List SE} (O : c.Ok) (hk : Keep c f) (ha : DenArgs c k vars sc args (argsE fs)) (hst : starFree args = true)
    {env : Env} {A : Around} {s : Shared} {F : Addr → Prop} {ρ : List Addr} {loc : Loc} {σ : Hp} {first : List Value} {firstV : List V} {v : V} {σ' : Hp} {pos : Pos} {Q E : Value → Shared → Prop}
    (hs : env.scope = sc) (hA : AOk k A) (H : HInv c.lay F c.h₀ ρ σ s.heap) (I : FrI c.lay vars F ρ env loc s.heap) (hF : FnOk c k (fun xs => call f xs) F₁) (rf : VRs c.lay F ρ s.heap firstV first)
    (e : (match argsE fs loc σ with | some (vs, σ₁) => F₁ (firstV ++ vs) σ₁ | none => none) = some (v, σ'))
    (q : ∀ z s' ρ', HInv c.lay F c.h₀ ρ' σ' s'.heap → Adv ρ σ s ρ' σ' s' NoW → VR c.lay F ρ' s'.heap v z → Q z s') :
    wpAny (model c.prog c.w) A (callWith pos f first (backTo pos (starEach args env)) []) Q E s := by
  split at e
  · rename_i vs σ₁ e1
    refine callWith_of (P := fun h => c.K.In h) (by rw [any_free hst]; rfl) (fun h X => hk _ h X) (evalArgs_any (starEach_free hst) ?_)
    refine ha env A s F ρ loc σ vs σ₁ pos _ _ hs hA H I e1 fun xs s₁ ρ₁ H₁ A₁ r₁ => ⟨O.atK H₁, ?_⟩
    exact hF A s₁ F ρ₁ σ₁ (firstV ++ vs) (first ++ xs) v σ' Q E hA H₁ ((rf.adv H A₁).append r₁) e fun z s₂ ρ₂ H₂ A₂ r₂ => q z s₂ ρ₂ H₂ (A₁.trans H.len H₁.len A₂) r₂
  · cases e

theorem den_call (O : c.Ok) {id : Str} {p pos : Pos} {f : Value} {F₁ : SF} {args : List Expr} {fs : List SE} (hf : DenE c k vars sc (.Name id p) (kE (.g f))) (hk : Keep c f) (hF : FnOk c k (fun xs => call f xs) F₁) (ha : DenArgs c k vars sc args (argsE fs)) (hst : starFree args = true) :
    DenE c k vars sc (.Call (.Name id p) args [] pos) (callE F₁ fs) := by
  intro env A s F ρ loc σ v σ' Q E hs hA H I e q
  refine wpAny_Call_Name_kw (hf env A s F ρ loc σ (.g f) σ _ _ hs hA H I rfl fun x s₁ ρ₁ H₁ A₁ r₁ => ?_)
  cases r₁
  exact callWith_go O hk ha hst hs hA H₁ (I.adv H A₁) hF (first := []) (firstV := []) .nil e fun z s₂ ρ₂ H₂ A₂ r₂ => q z s₂ ρ₂ H₂ (A₁.trans H.len H₁.len A₂) r₂

noncomputable def MethAt (c : Cx) (name : Str) (f : Value) (chk : Hp → V → Bool) : Prop :=
  ∀ (A : Around) (s : Shared) (F : Addr → Prop) (ρ : List Addr) (σ : Hp) (v : V) (x : Value) (pl : Sem Bool) (Q : Value × List Value → Shared → Prop) (E : Value → Shared → Prop),
    HInv c.lay F c.h₀ ρ σ s.heap → VR c.lay F ρ s.heap v x → chk σ v = true → Q (f, [x]) s → wpAny (model c.prog c.w) A (getMethod x name pl) Q E s
noncomputable def chkI (C : Addr) (σ : Hp) (v : V) : Bool := match attrs? σ v with
  | some (C', _) => Nat.beq C' C
  | none => false
noncomputable def chkStr (_ : Hp) (v : V) : Bool := match v with | .str _ => true | _ => false
noncomputable def chkRef (σ : Hp) (v : V) : Bool := match v with
  | .ref n => (match σ[n]? with | some (.lst _) => true | _ => false)
  | _ => false
theorem meth_inst (O : c.Ok) {C f : Addr} {name : Str} (hg : plainGet c.K C name = true) (hf : findIn c.K (.ref C) name = some (some (.ref f))) (ht : isFn c.K (.ref f) = true) (hn : name ∉ c.lay C) : MethAt c name (.ref f) (chkI C) := by
  intro A s F ρ σ v x pl Q E H r hc q
  unfold chkI at hc
  split at hc
  · rename_i C' vs ea
    have := Nat.eq_of_beq_eq_true hc
    subst this
    obtain ⟨a, dx, m, xs, rfl, hia, hns, hm, rs⟩ := inst_at H r ea
    obtain ⟨od, hod, hlk⟩ := lookIn_ns (Heap.Ns1.ns hns)
    refine method_fn (O.atK H) (InstAt.ofNs hia hod) (plainGet_of hg).1 (plainGet_of hg).2 hf (beq_iff_eq.mp ht) ?_ q
    show (lookIn name od).map _ = _
    rw [hlk, hm name, zip_lookup_none hn]; rfl
  · cases hc
theorem meth_str {name : Str} {id : String} (h : ∀ {M : Model} {A : Around} {s : Shared} {x : Str} {t : Tok} {pl : Sem Bool} {Q : Value × List Value → Shared → Prop} {E : Value → Shared → Prop}, Q (.builtin id, [.str x t]) s → wpAny M A (getMethod (.str x t) name pl) Q E s) : MethAt c name (.builtin id) chkStr := by
  intro A s F ρ σ v x pl Q E H r hc q
  cases r with
  | str => exact h q
  | _ => cases hc
theorem meth_append : MethAt c "append" (.builtin "list.append") chkRef := by
  intro A s F ρ σ v x pl Q E H r hc q
  cases r with
  | @ref a n hn =>
    simp only [chkRef] at hc
    split at hc
    · rename_i vs es
      obtain ⟨items, ⟨m, ho⟩, rs⟩ := H.objs _ _ _ es hn
      exact getMethod_list_append ho rfl rfl q
    · cases hc
  | _ => cases hc

noncomputable def methE (chk : Hp → V → Bool) (F₁ : SF) (fo : SE) (fs : List SE) : SE := fun loc σ => match fo loc σ with
  | some (a, σ₁) => if chk σ₁ a then (match argsE fs loc σ₁ with
    | some (vs, σ₂) => F₁ ([a] ++ vs) σ₂
    | none => none) else none
  | none => none
noncomputable def MethForm (o : Expr) (name : Str) (apos : Pos) (args : List Expr) (kws : List Keyword) (pos : Pos) (sc : Scope) : Prop :=
  ∀ env : Env, env.scope = sc → ∃ pl : Sem Bool, eval (.Call (.Attribute o name apos) args kws pos) env = (do
    let ov ← eval o env
    standAt apos.atName
    let (f, first) ← holding [ov] (getMethod ov name pl)
    callWith pos f first (backTo pos (starEach args env)) (backToKw pos (keywordEach kws env)))

theorem den_meth (O : c.Ok) {o : Expr} {name : Str} {apos pos : Pos} {f : Value} {F₁ : SF} {args : List Expr} {fo : SE} {fs : List SE} {chk : Hp → V → Bool} (ho : DenE c k vars sc o fo) (hm : MethAt c name f chk) (hk : Keep c f) (hF : FnOk c k (fun xs => call f xs) F₁) (ha : DenArgs c k vars sc args (argsE fs)) (hst : starFree args = true)
    (hev : MethForm o name apos args [] pos sc) : DenE c k vars sc (.Call (.Attribute o name apos) args [] pos) (methE chk F₁ fo fs) := by
  intro env A s F ρ loc σ v σ' Q E hs hA H I e q
  obtain ⟨pl, he⟩ := hev env hs
  refine methodCall_KW (pl := pl) ?_ he
  unfold methE at e
  split at e
  · rename_i a σ₁ e1
    split at e
    · rename_i hc
      refine ho env A s F ρ loc σ a σ₁ _ _ hs hA H I e1 fun x s₁ ρ₁ H₁ A₁ r₁ => ?_
      refine hm A s₁ F ρ₁ σ₁ a x pl _ _ H₁ r₁ hc ?_
      exact callWith_go O hk ha hst hs hA H₁ (I.adv H A₁) hF (first := [x]) (firstV := [a]) (.cons r₁ .nil) e fun z s₂ ρ₂ H₂ A₂ r₂ => q z s₂ ρ₂ H₂ (A₁.trans H.len H₁.len A₂) r₂
    · cases e
  · cases e

noncomputable def methKwE (chk : Hp → V → Bool) (F₁ : SF) (fo : SE) (fs : List SE) (b : Bool) : SE := fun loc σ => match fo loc σ with
  | some (a, σ₁) => if chk σ₁ a then (match argsE fs loc σ₁ with
    | some (vs, σ₂) => F₁ ([a] ++ vs ++ [.bool b]) σ₂
    | none => none) else none
  | none => none
theorem den_methKw (O : c.Ok) {o : Expr} {name kn : Str} {apos pos p1 p2 : Pos} {n : Nat} {b : Bool} {f : Value} {F₁ : SF} {e₀ : Expr} {fo f₀ : SE} {chk : Hp → V → Bool} (ho : DenE c k vars sc o fo) (hm : MethAt c name f chk) (hk : Keep c f) (hF : FnOk c k (kw1 f kn) F₁) (ha : DenE c k vars sc e₀ f₀) (hst : starFree [e₀] = true)
    (hev : MethForm o name apos [e₀] [⟨some kn, .Constant (.bool b) n p1, p2⟩] pos sc) : DenE c k vars sc (.Call (.Attribute o name apos) [e₀] [⟨some kn, .Constant (.bool b) n p1, p2⟩] pos) (methKwE chk F₁ fo [f₀] b) := by
  intro env A s F ρ loc σ v σ' Q E hs hA H I e q
  obtain ⟨pl, he⟩ := hev env hs
  refine methodCall_KW (pl := pl) ?_ he
  have hargs := den_argC ha (den_argNil (c := c) (k := k) (vars := vars) (sc := sc)) hst
  unfold methKwE at e
  split at e
  · rename_i a σ₁ e1
    split at e
    · rename_i hc
      split at e
      · rename_i vs σ₂ e2
        refine ho env A s F ρ loc σ a σ₁ _ _ hs hA H I e1 fun x s₁ ρ₁ H₁ A₁ r₁ => ?_
        refine hm A s₁ F ρ₁ σ₁ a x pl _ _ H₁ r₁ hc ?_
        refine callWith_of (P := fun h => c.K.In h) (by rw [any_free hst]; rfl) (fun h X => hk _ h X) ?_
        have hse := starFree_cons hst env
        have goal : wpAny (model c.prog c.w) A (spliced (backTo pos (starEach [e₀] env))) (fun vs s₁ => wpAny (model c.prog c.w) A (evalAll ((backToKw pos (keywordEach [⟨some kn, .Constant (.bool b) n p1, p2⟩] env)).map (·.2))) (fun ks s₂ => c.K.In s₂.heap ∧ wpAny (model c.prog c.w) A (call f ([x] ++ vs) ([kn].zip ks)) Q E s₂) E s₁) E s₁ := by
          refine hargs env A s₁ F ρ₁ loc σ₁ vs σ₂ pos _ _ hs hA H₁ (I.adv H A₁) e2 fun xs s₂ ρ₂ H₂ A₂ r₂ => ?_
          refine wpAny_evalAll_cons (wpAny_bind ?_)
          refine wpAny_Constant_bool (wpAny_bind (wpAny_standAt (wpAny_pure (wpAny_evalAll_nil ⟨O.atK H₂, ?_⟩))))
          have z := hF A s₂ F ρ₂ σ₂ ([a] ++ vs ++ [.bool b]) ([x] ++ xs ++ [.bool b]) v σ' Q E hA H₂ ((((VRs.cons r₁ .nil).adv H₁ A₂).append r₂).append (.cons .bool .nil)) e fun z s₃ ρ₃ H₃ A₃ r₃ => q z s₃ ρ₃ H₃ ((A₁.trans H.len H₁.len A₂).trans H.len H₂.len A₃) r₃
          unfold kw1 at z
          rw [List.dropLast_concat] at z
          have gl : ([x] ++ xs ++ [Value.bool b]).getLastD .none = .bool b := by rw [List.getLastD_eq_getLast?, List.getLast?_concat]; rfl
          rw [gl] at z
          exact z
        rw [hse] at goal ⊢
        exact evalArgs_kw rfl goal
      · cases e
    · cases e
  · cases e
end
end Mine
namespace Mine
open PySem PySem.Spec PySem.Calls PyProof.Rows PySem.W

structure It (c : Cx) (A : Around) (I : Addr) (wr fp : List Addr) (target : Expr) (vs : List V) (sf : Bool) (St : (Addr → Prop) → Nat → List Addr → Heap → Prop) : Prop where
  sub : ∀ b ∈ wr, b ∈ fp
  frame : ∀ F F' i ρ h ρ' h', St F i ρ h → Grow F ρ h F' ρ' h' → (∀ b ∈ fp, ∀ o, h.get? b = some o → h'.get? b = some o) → St F' i ρ' h'
  item : ∀ F', (∀ b ∈ wr, F' b) → ∀ i (s : Shared) ρ σ v (Q : Value → Shared → Prop) (E : Value → Shared → Prop), vs[i]? = some v → St F' i ρ s.heap → HInv c.lay F' c.h₀ ρ σ s.heap →
    (∀ x h' tk, St F' (i + 1) ρ h' → HInv c.lay F' c.h₀ ρ σ h' → (∀ b o, b ∉ wr → s.heap.get? b = some o → h'.get? b = some o) → (∀ b o, s.heap.get? b = some o → ∃ o', h'.get? b = some o') → VR c.lay F' ρ h' v x → Q x { s with heap := h', toks := tk }) →
    wpAny (model c.prog c.w) A (pyNext (.ref I)) (fun r s₁ => match r with | none => False | some x => wpAny (model c.prog c.w) A (letOwnedTupleGo target (.ref I) x) (fun _ s₂ => Q x s₂) E s₁) E s
  done : ∀ F' (s : Shared) ρ (Q : Shared → Prop) (E : Value → Shared → Prop), St F' vs.length ρ s.heap →
    (∀ h' tk, (∀ b o, b ∉ wr → s.heap.get? b = some o → h'.get? b = some o) → Q { s with heap := h', toks := tk }) →
    wpAny (model c.prog c.w) A (pyNext (.ref I)) (fun r s₁ => match r with | none => Q s₁ | some _ => False) E s
  self : sf = true → ∀ F' (s : Shared) ρ (Q : Value → Shared → Prop) (E : Value → Shared → Prop), St F' 0 ρ s.heap → Q (.ref I) s → wpAny (model c.prog c.w) A (pyIter (.ref I)) Q E s

noncomputable def forL (tgt : SA) (body : SS) : List V → SS
  | [], loc, σ => some (.next, loc, σ)
  | v :: vs, loc, σ => match tgt v loc σ with
    | some (loc₁, σ₁) => (match body loc₁ σ₁ with
      | some (.next, l, σ₂) => forL tgt body vs l σ₂
      | some (.cont, l, σ₂) => forL tgt body vs l σ₂
      | some (.brk, l, σ₂) => some (.next, l, σ₂)
      | some (.ret v, l, σ₂) => some (.ret v, l, σ₂)
      | none => none)
    | none => none

section
variable {lay : Addr → List Str} {F F' : Addr → Prop} {h₀ : Heap} {ρ ρ' : List Addr} {σ σ' : Hp} {s s' : Shared} {W : Addr → Prop}
theorem notLive_adv (hl : σ.length = ρ.length) (x : Adv ρ σ s ρ' σ' s' W) {b : Addr} (nl : ¬ Live ρ σ b) (he : ∃ o, s.heap.get? b = some o) : ¬ Live ρ' σ' b := fun ⟨n, e, al⟩ => by
  obtain ⟨tl, rfl, ht⟩ := x.tl
  by_cases hn : n < ρ.length
  · exact nl ⟨n, by rwa [List.getElem?_append_left hn] at e, x.live n (hl ▸ hn) al⟩
  · rw [List.getElem?_append_right (Nat.le_of_not_lt hn)] at e
    obtain ⟨o, ho⟩ := he
    rw [ht b (List.mem_of_getElem? e)] at ho; cases ho
theorem adv_wr {wr : List Addr} {h' : Heap} {tk : Nat} (hk : ∀ b o, b ∉ wr → s.heap.get? b = some o → h'.get? b = some o) (ht : ∀ b o, s.heap.get? b = some o → ∃ o', h'.get? b = some o') : Adv ρ σ s ρ σ { s with heap := h', toks := tk } (fun b => b ∈ wr) :=
  ⟨⟨[], by simp, by simp⟩, fun _ _ x => x, fun b o e _ nw => hk b o nw e, ht, rfl, rfl, rfl⟩
theorem FrI.chg {vars : List (Nat × Str)} {env : Env} {loc : Loc} (I : FrI lay vars F ρ env loc s.heap) (H : HInv lay F h₀ ρ σ s.heap) (x : Adv ρ σ s ρ' σ' s' W) (hw : ∀ b, W b → F b) (hn : ∀ b, OwnW env b → ¬ W b) : FrI lay vars F ρ' env loc s'.heap := by
  have nl : ∀ b, F b → ¬ Live ρ σ b := fun b fb l => (H.own b l.mem).1 fb
  have kp : ∀ b o, OwnW env b → s.heap.get? b = some o → s'.heap.get? b = some o := fun b o ob e => x.keep b o e (nl b (I.ownF b ob)) (hn b ob)
  have kn : ∀ m, s.heap.Ns env.locals m → s'.heap.Ns env.locals m := fun m ⟨o, es, ep, e, r⟩ => ⟨o, es, ep, kp _ _ (.inl rfl) e, r⟩
  have kc : ∀ y c v, env.cells.lookup y = some c → s.heap.IsCell c v → s'.heap.IsCell c v := fun y c v hy ⟨o, e, r⟩ => ⟨o, kp _ _ (.inr ⟨y, hy⟩) e, r⟩
  refine ⟨I.vok, I.kind, I.glob, I.bi, let ⟨m, q⟩ := I.ns; ⟨m, kn m q⟩, I.loF, fun y c e => let ⟨a, b, v, d⟩ := I.cellsF y c e; ⟨a, b, v, kc y c v e d⟩, I.cellsNe, I.kinds, fun i y v hi hl => ?_⟩
  obtain ⟨z, hz, hv⟩ := I.vals i y v hi hl
  refine ⟨z, ?_, hv.grow (x.grow H hw)⟩
  rcases hz with ⟨k, m, a, b⟩ | ⟨k, c, a, b⟩
  · exact .inl ⟨k, m, kn m a, b⟩
  · exact .inr ⟨k, c, a, kc y c _ a b⟩
theorem FrI.moreF {vars : List (Nat × Str)} {env : Env} {loc : Loc} {h h' : Heap} (I : FrI lay vars F ρ env loc h) (hF : ∀ a, F a → F' a) (hk : ∀ b o, h.get? b = some o → h'.get? b = some o) (G : Grow F ρ h F' ρ h') : FrI lay vars F' ρ env loc h' := by
  refine ⟨I.vok, I.kind, I.glob, I.bi, let ⟨m, q⟩ := I.ns; ⟨m, q.keeps hk⟩, hF _ I.loF, fun y c e => let ⟨a, b, v, d⟩ := I.cellsF y c e; ⟨hF _ a, b, v, d.keeps hk⟩, I.cellsNe, I.kinds, fun i y v hi hl => ?_⟩
  obtain ⟨z, hz, hv⟩ := I.vals i y v hi hl
  refine ⟨z, ?_, hv.grow G⟩
  rcases hz with ⟨k, m, a, b⟩ | ⟨k, c, a, b⟩
  · exact .inl ⟨k, m, a.keeps hk, b⟩
  · exact .inr ⟨k, c, a, b.keeps hk⟩
theorem HInv.moreF {h h' : Heap} (H : HInv lay F h₀ ρ σ h) (hF : ∀ a, F a → F' a) (hk : ∀ b o, h.get? b = some o → h'.get? b = some o) (hn : ∀ a, F' a → F a ∨ (h.get? a = none ∧ ∃ o, h'.get? a = some o)) : HInv lay F' h₀ ρ σ h' ∧ Grow F ρ h F' ρ h' := by
  have G : Grow F ρ h F' ρ h' := ⟨fun b o _ e => hk b o e, fun b o fr e => ⟨fun f => (hn b f).elim fr.1 fun q => (by rw [q.1] at e; cases e), fr.2⟩, fun _ _ e => e⟩
  refine ⟨⟨H.len, H.nodup, fun a ha => ?_, fun a w => ?_, fun n o a e z => OR.mono0 (H.objs n o a e z) hk G, fun b o e => hk _ _ (H.base b o e)⟩, G⟩
  · obtain ⟨x, y, o, e⟩ := H.own a ha
    exact ⟨fun w => (hn a w).elim x fun q => (by rw [q.1] at e; cases e), y, o, hk _ _ e⟩
  · rcases hn a w with w | w
    · obtain ⟨y, o, e⟩ := H.fr a w; exact ⟨y, o, hk _ _ e⟩
    · exact ⟨H.new0 w.1, w.2⟩
theorem HInv.dropWr {h h' : Heap} {wr : List Addr} (H : HInv lay F' h₀ ρ σ h) (hF : ∀ a, F a → F' a ∧ a ∉ wr) (hw : ∀ b ∈ wr, F' b) (hk : ∀ b o, b ∉ wr → h.get? b = some o → h'.get? b = some o) : HInv lay F h₀ ρ σ h' ∧ Grow F' ρ h F ρ h' := by
  have G : Grow F' ρ h F ρ h' := ⟨fun b o fr e => hk b o (fun q => fr.1 (hw b q)) e, fun b o fr _ => ⟨fun f => fr.1 (hF b f).1, fr.2⟩, fun _ _ e => e⟩
  refine ⟨⟨H.len, H.nodup, fun a ha => ?_, fun a f => ?_, fun n o a e z => ?_, fun b o e => ?_⟩, G⟩
  · obtain ⟨x, y, o, e⟩ := H.own a ha
    exact ⟨fun f => x (hF a f).1, y, o, hk a o (fun q => x (hw a q)) e⟩
  · obtain ⟨y, o, e⟩ := H.fr a (hF a f).1
    exact ⟨y, o, hk a o (hF a f).2 e⟩
  · have na := (H.own a (List.mem_of_getElem? z)).1
    have kp : ∀ o, h.get? a = some o → h'.get? a = some o := fun o e => hk a o (fun q => na (hw a q)) e
    have r := H.objs n o a e z
    cases o with
    | lst vs => obtain ⟨items, ⟨n, ho⟩, v⟩ := r; exact ⟨items, ⟨n, kp _ ho⟩, v.grow G⟩
    | dict C vs => obtain ⟨m, xs, ⟨o, es, ep, e, z⟩, q, v⟩ := r; exact ⟨m, xs, ⟨o, es, ep, kp _ e, z⟩, q, v.grow G⟩
    | dead => trivial
  · refine hk b o (fun q => ?_) (H.base b o e)
    rw [(H.fr b (hw b q)).1] at e; cases e
end

inductive ForI (c : Cx) (vars : List (Nat × Str)) (F' : Addr → Prop) (env : Env) (ws : List V) (St : (Addr → Prop) → Nat → List Addr → Heap → Prop) (tgt : SA) (fb : SS) (ρ : List Addr) (σ : Hp) (s : Shared) (W : Addr → Prop) (r : Fl × Loc × Hp) : Nat → Shared → Prop
  | mk {m i : Nat} {loc₁ : Loc} {σ₁ : Hp} {ρ₁ : List Addr} {s' : Shared} : i ≤ ws.length → m = ws.length - i → St F' i ρ₁ s'.heap → HInv c.lay F' c.h₀ ρ₁ σ₁ s'.heap → FrI c.lay vars F' ρ₁ env loc₁ s'.heap → Adv ρ σ s ρ₁ σ₁ s' W → forL tgt fb (ws.drop i) loc₁ σ₁ = some r → ForI c vars F' env ws St tgt fb ρ σ s W r m s'
noncomputable def ForQ (I : Nat → Shared → Prop) (n : Nat) (R : Result → Shared → Prop) (f : Flow) (s : Shared) : Prop := match f with
  | .next | .cont => ∃ m, m < n ∧ I m s
  | .brk => R (.ok .next) s
  | .ret v => R (.ok (.ret v)) s
theorem for_go {c : Cx} {k : Nat} {vars : List (Nat × Str)} {sc : Scope} {A : Around} {F' : Addr → Prop} {Ia : Addr} {wr fp : List Addr} {target : Expr} {ws : List V} {sf : Bool} {St : (Addr → Prop) → Nat → List Addr → Heap → Prop} {tgt : SA} {fb : SS} {body : List Stmt}
    (T : It c A Ia wr fp target ws sf St) (hwF' : ∀ b ∈ wr, F' b) (ht : DenA c k vars sc target tgt) (hb : DenSs c k vars sc body fb) {env : Env} {s : Shared} {ρ : List Addr} {loc : Loc} {σ : Hp} {fl : Fl} {loc' : Loc} {σ' : Hp} {R : Result → Shared → Prop}
    (hs : env.scope = sc) (hA : AOk k A) (H : HInv c.lay F' c.h₀ ρ σ s.heap) (I : FrI c.lay vars F' ρ env loc s.heap) (st : St F' 0 ρ s.heap)
    (hfp : ∀ b ∈ fp, ¬ Live ρ σ b ∧ ¬ OwnW env b ∧ ∃ o, s.heap.get? b = some o)
    (e : forL tgt fb ws loc σ = some (fl, loc', σ'))
    (q : ∀ z s₁ ρ' h' tk, HInv c.lay F' c.h₀ ρ' σ' s₁.heap → FrI c.lay vars F' ρ' env loc' s₁.heap → Adv ρ σ s ρ' σ' s₁ (fun b => OwnW env b ∨ b ∈ wr) → FlR c.lay F' ρ' s₁.heap fl z → (∀ b o, b ∉ wr → s₁.heap.get? b = some o → h'.get? b = some o) → R (.ok z) { s₁ with heap := h', toks := tk }) :
    codeAny (model c.prog c.w) A (.forLoop target (.ref Ia) body [] env) R s := by
  refine codeAny_forLoop_any (ForI c vars F' env ws St tgt fb ρ σ s (fun b => OwnW env b ∨ b ∈ wr) (fl, loc', σ'))
    ?_ (ws.length - 0) (.mk (i := 0) (Nat.zero_le _) rfl st H I .refl e)
  intro m s' z
  cases z with
  | @mk i loc₁ σ₁ ρ₁ _ hi hm st₁ H₁ I₁ A₁ e₁ =>
  subst hm
  have hfp₁ : ∀ b ∈ fp, ¬ Live ρ₁ σ₁ b := fun b hb => notLive_adv H.len A₁ (hfp b hb).1 (hfp b hb).2.2
  have hwF : ∀ b, (OwnW env b ∨ b ∈ wr) → F' b := fun b w => w.elim (I₁.ownF b) (hwF' b)
  by_cases hlt : i < ws.length
  · obtain ⟨v, hv⟩ : ∃ v, ws[i]? = some v := ⟨_, List.getElem?_eq_getElem hlt⟩
    have hd : ws.drop i = v :: ws.drop (i + 1) := by
      rw [List.drop_eq_getElem_cons hlt]
      have := (List.getElem?_eq_some_iff.mp hv).2
      rw [this]
    rw [hd] at e₁
    simp only [forL] at e₁
    refine wpAny_mono (T.item F' hwF' i s' ρ₁ σ₁ v (fun x s₂ => wpAny (model c.prog c.w) A (assign target env x) (fun _ s₂ => wpAny (model c.prog c.w) A (execs body env) (ForQ (ForI c vars F' env ws St tgt fb ρ σ s (fun b => OwnW env b ∨ b ∈ wr) (fl, loc', σ')) (ws.length - i) R) (notedBy (model c.prog c.w) A env fun e s' => R (.error e) s') s₂) (notedBy (model c.prog c.w) A env fun e s' => R (.error e) s') s₂) (notedBy (model c.prog c.w) A env fun e s' => R (.error e) s') hv st₁ H₁ fun x h₂ tk₂ st₂ H₂ kp₂ th₂ r₂ => ?_) (fun r s₁ h => by cases r with | none => exact h.elim | some x => exact h) fun _ _ h => h
    have A₂ : Adv ρ₁ σ₁ s' ρ₁ σ₁ { s' with heap := h₂, toks := tk₂ } (fun b => OwnW env b ∨ b ∈ wr) := (adv_wr kp₂ th₂).mono fun b w => .inr w
    have I₂ : FrI c.lay vars F' ρ₁ env loc₁ h₂ := I₁.chg (s' := { s' with heap := h₂, toks := tk₂ }) H₁ (adv_wr kp₂ th₂) hwF' fun b ob hw => (hfp b (T.sub b hw)).2.1 ob
    split at e₁
    · rename_i loc₂ σ₂ e₂
      refine ht env A _ F' ρ₁ loc₁ σ₁ v x loc₂ σ₂ _ _ hs hA H₂ I₂ r₂ e₂ fun s₃ ρ₃ H₃ I₃ A₃ => ?_
      have bodyGo : ∀ f₄ loc₄ σ₄, fb loc₂ σ₂ = some (f₄, loc₄, σ₄) → (∀ z s₄ ρ₄, HInv c.lay F' c.h₀ ρ₄ σ₄ s₄.heap → FrI c.lay vars F' ρ₄ env loc₄ s₄.heap → Adv ρ σ s ρ₄ σ₄ s₄ (fun b => OwnW env b ∨ b ∈ wr) → St F' (i + 1) ρ₄ s₄.heap → FlR c.lay F' ρ₄ s₄.heap f₄ z →
          ForQ (ForI c vars F' env ws St tgt fb ρ σ s (fun b => OwnW env b ∨ b ∈ wr) (fl, loc', σ')) (ws.length - i) R z s₄) → wpAny (model c.prog c.w) A (execs body env) (ForQ (ForI c vars F' env ws St tgt fb ρ σ s (fun b => OwnW env b ∨ b ∈ wr) (fl, loc', σ')) (ws.length - i) R) (notedBy (model c.prog c.w) A env fun e s' => R (.error e) s') s₃ := by
        intro f₄ loc₄ σ₄ e₄ h₄
        refine hb env A s₃ F' ρ₃ loc₂ σ₂ f₄ loc₄ σ₄ _ _ hs hA H₃ I₃ e₄ fun z s₄ ρ₄ H₄ I₄ A₄ r₄ => ?_
        have A34 := A₃.trans H₂.len H₃.len A₄
        refine h₄ z s₄ ρ₄ H₄ I₄ ((A₁.trans H.len H₁.len A₂).trans H.len H₂.len (A34.mono fun b w => .inl w)) ?_ r₄
        refine T.frame _ _ _ _ _ _ _ st₂ (A34.grow H₂ I₂.ownF) fun b hb o e => A34.keep b o e (hfp₁ b hb) (hfp b hb).2.1
      split at e₁
      · rename_i l σ₄ e₄
        refine bodyGo _ _ _ e₄ fun z s₄ ρ₄ H₄ I₄ A₄ st₄ r₄ => ?_
        cases r₄
        exact ⟨ws.length - (i + 1), Nat.sub_succ_lt_self _ _ hlt, .mk hlt rfl st₄ H₄ I₄ A₄ e₁⟩
      · rename_i l σ₄ e₄
        refine bodyGo _ _ _ e₄ fun z s₄ ρ₄ H₄ I₄ A₄ st₄ r₄ => ?_
        cases r₄
        exact ⟨ws.length - (i + 1), Nat.sub_succ_lt_self _ _ hlt, .mk hlt rfl st₄ H₄ I₄ A₄ e₁⟩
      · rename_i l σ₄ e₄
        cases e₁
        refine bodyGo _ _ _ e₄ fun z s₄ ρ₄ H₄ I₄ A₄ st₄ r₄ => ?_
        cases r₄
        exact q .next s₄ ρ₄ s₄.heap s₄.toks H₄ I₄ A₄ .next fun _ _ _ e => e
      · rename_i w l σ₄ e₄
        cases e₁
        refine bodyGo _ _ _ e₄ fun z s₄ ρ₄ H₄ I₄ A₄ st₄ r₄ => ?_
        cases r₄ with
        | ret r => exact q (.ret _) s₄ ρ₄ s₄.heap s₄.toks H₄ I₄ A₄ (.ret r) fun _ _ _ e => e
      · cases e₁
    · cases e₁
  · have hin : i = ws.length := by omega
    subst hin
    simp only [List.drop_length, forL] at e₁
    cases e₁
    refine wpAny_mono (T.done F' s' ρ₁ (fun s₁ => R (.ok .next) s₁) _ st₁ fun h' tk kp => q .next s' ρ₁ h' tk H₁ I₁ A₁ .next kp) (fun r s₁ h => ?_) fun _ _ h => h
    cases r with
    | none => exact wpAny_execs_nil h
    | some x => exact h.elim
end Mine
namespace Mine
open PySem PySem.Spec PySem.Calls PyProof.Rows PySem.W

noncomputable def rngL (a b : Int) : List V := (List.range (b - a).toNat).map fun (i : Nat) => .int (a + (i : Int))
noncomputable def srcOf (σ : Hp) : V → Option (List V × Option Nat)
  | .lst vs => some (vs, none)
  | .tup vs => some (vs, none)
  | .ref n => match σ[n]? with
    | some (.lst vs) => some (vs, some n)
    | _ => none
  | .rng a b => if decide (-1000000 ≤ a) && decide (a ≤ 1000000) && decide (-1000000 ≤ b) && decide (b ≤ 1000000) then some (rngL a b, none) else none
  | .str s => if s.cps.all (· < 128) then some (s.cps.toList.map fun c => .str ⟨#[c]⟩, none) else none
  | _ => none
noncomputable def lend : Option Nat → Hp → Hp
  | none, σ => σ
  | some n, σ => σ.set n .dead
noncomputable def giveBack : Option Nat → List V → Hp → Hp
  | none, _, σ => σ
  | some n, ws, σ => σ.set n (.lst ws)

structure ItStart (c : Cx) (A : Around) (F : Addr → Prop) (ρ : List Addr) (σb : Hp) (target : Expr) (ws : List V) (s s₁ : Shared) (Ia : Addr) (wr fp : List Addr) (sf : Bool) (St : (Addr → Prop) → Nat → List Addr → Heap → Prop) : Prop where
  it : It c A Ia wr fp target ws sf St
  st : St (fun a => F a ∨ a ∈ wr) 0 ρ s₁.heap
  inv : HInv c.lay (fun a => F a ∨ a ∈ wr) c.h₀ ρ σb s₁.heap
  new : ∀ b ∈ wr, s.heap.get? b = none ∧ ∃ o, s₁.heap.get? b = some o
  fp : ∀ b ∈ fp, ¬ Live ρ σb b ∧ ¬ F b ∧ ∃ o, s₁.heap.get? b = some o
  keep : ∀ b o, s.heap.get? b = some o → s₁.heap.get? b = some o
  gens : s₁.gens = s.gens
  drawn : s₁.drawn = s.drawn
  os : s₁.os = s.os
  grow : Grow F ρ s.heap (fun a => F a ∨ a ∈ wr) ρ s₁.heap

theorem letOwned_skip {M : Model} {A : Around} {E : Value → Shared → Prop} {s : Shared} {target : Expr} {I : Addr} {x : Value} {o : Obj} {Q : Unit → Shared → Prop} (ho : s.heap.get? I = some o) (n : String) (hc : o.cls = .type n)
    (hn : (["enumerate", "zip", "dict_itemiterator", "dict_reverseitemiterator", "odict_iterator", "itertools.zip_longest", "itertools.pairwise"].contains n) = false) (q : Q () s) : wpAny M A (letOwnedTupleGo target (.ref I) x) Q E s := by
  have key : wpAny M A (do
      let (.ref r, .ref a) := ((.ref I : Value), x) | return
      let o ← load r
      match o.cls, o.data with
      | .type n, .fields vs =>
        if ["enumerate", "zip", "dict_itemiterator", "dict_reverseitemiterator", "odict_iterator", "itertools.zip_longest", "itertools.pairwise"].contains n && vs[0]? == some (rawInt a) then
          rule "for.unpacks-the-owned-tuple"
          updateField r 0 .none
      | _, _ => pure () : Sem Unit) Q E s := by
    cases x with
    | ref a =>
      refine wpAny_bind (wpAny_load ho ?_)
      rw [hc]
      cases o.data <;> first
        | exact wpAny_pure q
        | (simp only [hn, Bool.false_and, Bool.false_eq_true, if_false]; exact wpAny_pure q)
    | _ => exact wpAny_pure q
  unfold letOwnedTupleGo
  cases target <;> first | exact wpAny_pure q | exact key

section
variable {lay : Addr → List Str} {F : Addr → Prop} {h₀ : Heap} {ρ : List Addr} {σ : Hp} {h : Heap}
theorem lend_ok (H : HInv lay F h₀ ρ σ h) (b : Option Nat) : HInv lay F h₀ ρ (lend b σ) h := by
  cases b with
  | none => exact H
  | some n =>
    refine ⟨by simp [lend, H.len], H.nodup, H.own, H.fr, fun m o a e q => ?_, H.base⟩
    simp only [lend] at e
    by_cases mn : m = n
    · subst mn
      by_cases hl : m < σ.length
      · rw [List.getElem?_set_self hl] at e; cases e; trivial
      · rw [List.getElem?_eq_none (by simpa using Nat.le_of_not_lt hl)] at e; cases e
    · rw [List.getElem?_set_ne (Ne.symm mn)] at e
      exact H.objs m o a e q
theorem lend_live {b : Option Nat} {n : Nat} (al : alive (lend b σ) n) : alive σ n := by
  cases b with
  | none => exact al
  | some m =>
    obtain ⟨o, e, d⟩ := al
    simp only [lend] at e
    by_cases mn : n = m
    · subst mn
      by_cases hl : n < σ.length
      · rw [List.getElem?_set_self hl] at e; cases e; exact absurd rfl d
      · rw [List.getElem?_eq_none (by simpa using Nat.le_of_not_lt hl)] at e; cases e
    · rw [List.getElem?_set_ne (Ne.symm mn)] at e
      exact ⟨o, e, d⟩
theorem lend_dead {n : Nat} (al : alive (lend (some n) σ) n) : False := by
  obtain ⟨o, e, d⟩ := al
  simp only [lend] at e
  by_cases hl : n < σ.length
  · rw [List.getElem?_set_self hl] at e; cases e; exact absurd rfl d
  · rw [List.getElem?_eq_none (by simpa using Nat.le_of_not_lt hl)] at e; cases e
end

theorem itStart_of {c : Cx} {A : Around} {F : Addr → Prop} {ρ : List Addr} {σ : Hp} {b : Option Nat} {target : Expr} {ws : List V} {s : Shared} {fp : List Addr} {sf : Bool} {St : (Addr → Prop) → Nat → List Addr → Heap → Prop} (H : HInv c.lay F c.h₀ ρ σ s.heap) (o : Obj) (hf : o.isFreed = false)
    (hit : It c A s.heap.objs.size [s.heap.objs.size] (s.heap.objs.size :: fp) target ws sf St)
    (hst : Grow F ρ s.heap (fun a => F a ∨ a ∈ [s.heap.objs.size]) ρ (s.heap.push o) → St (fun a => F a ∨ a ∈ [s.heap.objs.size]) 0 ρ (s.heap.push o))
    (hfp : ∀ a ∈ fp, ¬ Live ρ (lend b σ) a ∧ ¬ F a ∧ ∃ o, s.heap.get? a = some o) : ItStart c A F ρ (lend b σ) target ws s { s with heap := s.heap.push o } s.heap.objs.size [s.heap.objs.size] (s.heap.objs.size :: fp) sf St := by
  have hk := push_keep s.heap o
  have hn := get_size_none s.heap
  have he : ∃ o', (s.heap.push o).get? s.heap.objs.size = some o' := ⟨o, Heap.get?_push_size _ hf⟩
  have fr := H.freeNew hn
  obtain ⟨H', G⟩ := (lend_ok H b).moreF (F' := fun a => F a ∨ a ∈ [s.heap.objs.size]) (fun a f => .inl f) hk fun a f => f.imp id fun m => by rw [List.mem_singleton.mp m]; exact ⟨hn, he⟩
  refine ⟨hit, hst G, H', fun a ha => by rw [List.mem_singleton.mp ha]; exact ⟨hn, he⟩, fun a ha => ?_, hk, rfl, rfl, rfl, G⟩
  rcases List.mem_cons.mp ha with rfl | ha
  · exact ⟨fun l => fr.2 l.mem, fr.1, he⟩
  · obtain ⟨x, y, o', e⟩ := hfp a ha
    exact ⟨x, y, o', hk _ _ e⟩

section
variable {c : Cx} {k : Nat} {target : Expr}

theorem item_go {F' : Addr → Prop} {A : Around} {I : Addr} {s : Shared} {ρ : List Addr} {σ : Hp} {h' : Heap} {o' : Obj} (H : HInv c.lay F' c.h₀ ρ σ s.heap) (hI : F' I) (hs : Heap.SameBut I s.heap h') (he : h'.get? I = some o') :
    HInv c.lay F' c.h₀ ρ σ h' ∧ (∀ b o, b ∉ [I] → s.heap.get? b = some o → h'.get? b = some o) ∧ (∀ b o, s.heap.get? b = some o → ∃ o', h'.get? b = some o') ∧ Grow F' ρ s.heap F' ρ h' := by
  have kp : ∀ b o, b ∉ [I] → s.heap.get? b = some o → h'.get? b = some o := fun b o nb e => (hs.2 b (fun q => nb (by rw [q]; exact List.mem_singleton.mpr rfl))).trans e
  have th : ∀ b o, s.heap.get? b = some o → ∃ o', h'.get? b = some o' := fun b o e => by
    by_cases q : b = I
    · exact ⟨o', q ▸ he⟩
    · exact ⟨o, (hs.2 b q).trans e⟩
  have kF : ∀ b o, ¬ F' b → s.heap.get? b = some o → h'.get? b = some o := fun b o nf e => (hs.2 b (fun q => nf (q ▸ hI))).trans e
  exact ⟨H.sameF kF fun b o _ e => th b o e, kp, th, ⟨fun b o fr e => kF b o fr.1 e, fun _ _ fr _ => fr, fun _ _ e => e⟩⟩

theorem it_list {A : Around} (hh : A.handled = none) (I ax : Addr) (hne : ax ≠ I) (items : Array Value) (ws : List V) :
    It c A I [I] [I, ax] target ws true (fun F' i ρ h => h.IsListIter I ax i ∧ h.PlainList ax items ∧ VRs c.lay F' ρ h ws items.toList) where
  sub := fun b hb => by rw [List.mem_singleton.mp hb]; exact List.mem_cons_self
  frame := fun _ _ i ρ h ρ' h' ⟨⟨o, ho, r⟩, ⟨n, hl⟩, v⟩ G hk => ⟨⟨o, hk I List.mem_cons_self o ho, r⟩, ⟨n, hk ax (List.mem_cons_of_mem _ (List.mem_singleton.mpr rfl)) _ hl⟩, v.grow G⟩
  item := fun F' hw i s ρ σ v Q E hv st H q => by
    have hI : F' I := hw I (List.mem_singleton.mpr rfl)
    obtain ⟨x, hx, rx⟩ := st.2.2.get i hv
    refine wpAny_pyNext_list_item st.1 st.2.1.isList (x := x) (by rw [← Array.getElem?_toList]; exact hx) fun h' hit' hs' => ?_
    obtain ⟨o', ho', hc', hd'⟩ := id hit'
    obtain ⟨H', kp, th, G⟩ := item_go (A := A) H hI hs' ho'
    refine letOwned_skip (s := { s with heap := h' }) ho' "list_iterator" hc' rfl ?_
    exact q x h' s.toks ⟨hit', st.2.1.extBut hs'.extBut hne, st.2.2.grow G⟩ H' kp th (rx.grow G)
  done := fun F' s ρ Q E st q => by
    have hn : items[ws.length]? = none := by
      rw [← Array.getElem?_toList, List.getElem?_eq_none]; rw [st.2.2.length]; exact Nat.le_refl _
    exact wpAny_pyNext_list_end hh st.1 st.2.1.isList hn fun h' he' => q h' s.toks fun b o nb e => he' b o (fun z => nb (by rw [z]; exact List.mem_singleton.mpr rfl)) e
  self := fun _ _ _ _ _ _ st q => wpAny_pyIter_listiter st.1 q

theorem it_tuple {A : Around} (hh : A.handled = none) (I ax : Addr) (hne : ax ≠ I) (items : Array Value) (ws : List V) :
    It c A I [I] [I, ax] target ws true (fun F' i ρ h => h.IsTupleIter I ax i ∧ h.IsTuple ax items ∧ VRs c.lay F' ρ h ws items.toList) where
  sub := fun b hb => by rw [List.mem_singleton.mp hb]; exact List.mem_cons_self
  frame := fun _ _ i ρ h ρ' h' ⟨⟨o, ho, r⟩, ⟨n, hl, r'⟩, v⟩ G hk => ⟨⟨o, hk I List.mem_cons_self o ho, r⟩, ⟨n, hk ax (List.mem_cons_of_mem _ (List.mem_singleton.mpr rfl)) _ hl, r'⟩, v.grow G⟩
  item := fun F' hw i s ρ σ v Q E hv st H q => by
    have hI : F' I := hw I (List.mem_singleton.mpr rfl)
    obtain ⟨x, hx, rx⟩ := st.2.2.get i hv
    refine wpAny_pyNext_tuple_item st.1 st.2.1 (x := x) (by rw [← Array.getElem?_toList]; exact hx) fun h' hit' hs' => ?_
    obtain ⟨o', ho', hc', hd'⟩ := id hit'
    obtain ⟨H', kp, th, G⟩ := item_go (A := A) H hI hs' ho'
    refine letOwned_skip (s := { s with heap := h' }) ho' "tuple_iterator" hc' rfl ?_
    exact q x h' s.toks ⟨hit', st.2.1.extBut hs'.extBut hne, st.2.2.grow G⟩ H' kp th (rx.grow G)
  done := fun F' s ρ Q E st q => by
    have hn : items[ws.length]? = none := by
      rw [← Array.getElem?_toList, List.getElem?_eq_none]; rw [st.2.2.length]; exact Nat.le_refl _
    exact wpAny_pyNext_tuple_end hh st.1 st.2.1 hn fun h' he' => q h' s.toks fun b o nb e => he' b o (fun z => nb (by rw [z]; exact List.mem_singleton.mpr rfl)) e
  self := fun _ _ _ _ _ _ st q => wpAny_pyIter_tupleiter st.1 q

theorem rngL_get {a b : Int} {i : Nat} {v : V} (h : (rngL a b)[i]? = some v) : v = .int (a + i) ∧ i < (b - a).toNat := by
  unfold rngL at h
  rw [List.getElem?_map] at h
  obtain ⟨j, hj, rfl⟩ := Option.map_eq_some_iff.mp h
  obtain ⟨hl, he⟩ := List.getElem?_eq_some_iff.mp hj
  rw [List.getElem_range] at he
  subst he
  exact ⟨rfl, by simpa using hl⟩

theorem it_range {A : Around} (hh : A.handled = none) (I : Addr) (a b : Int) :
    It c A I [I] [I] target (rngL a b) true (fun _ i _ h => IsRangeIter h I (a + i) (((b - a).toNat : Int) - i) 1) where
  sub := fun b hb => hb
  frame := fun _ _ i ρ h ρ' h' st G hk => hk I List.mem_cons_self _ st
  item := fun F' hw i s ρ σ v Q E hv st H q => by
    have hI : F' I := hw I (List.mem_singleton.mpr rfl)
    obtain ⟨rfl, hi⟩ := rngL_get hv
    refine wpAny_pyNext_range_item st (by omega) fun h' hit' hs' => ?_
    obtain ⟨H', kp, th, G⟩ := item_go (A := A) H hI hs' hit'
    refine letOwned_skip (s := { s with heap := h', toks := s.toks + 1 }) hit' "range_iterator" rfl rfl ?_
    refine q _ h' (s.toks + 1) ?_ H' kp th .int
    have e1 : a + ((i + 1 : Nat) : Int) = a + (i : Int) + 1 := by push_cast; omega
    have e2 : (((b - a).toNat : Nat) : Int) - ((i + 1 : Nat) : Int) = ((b - a).toNat : Int) - (i : Int) - 1 := by push_cast; omega
    rw [e1, e2]; exact hit'
  done := fun F' s ρ Q E st q => by
    have hl : (rngL a b).length = (b - a).toNat := by simp [rngL]
    rw [hl] at st
    exact wpAny_pyNext_range_end hh st (by omega) fun h' he' => q h' s.toks fun b o nb e => he' b o (fun z => nb (by rw [z]; exact List.mem_singleton.mpr rfl)) e
  self := fun _ _ _ _ _ _ st q => wpAny_pyIter_rangeiter st q

theorem it_str {A : Around} (hh : A.handled = none) (I : Addr) (x : Str) (t : Tok) :
    It c A I [I] [I] target (x.cps.toList.map fun c => .str ⟨#[c]⟩) false (fun _ i _ h => h.IsStrIter I "str_ascii_iterator" x t i) where
  sub := fun b hb => hb
  frame := fun _ _ i ρ h ρ' h' ⟨o, ho, r⟩ G hk => ⟨o, hk I List.mem_cons_self _ ho, r⟩
  item := fun F' hw i s ρ σ v Q E hv st H q => by
    have hI : F' I := hw I (List.mem_singleton.mpr rfl)
    rw [List.getElem?_map] at hv
    obtain ⟨ch, hch, rfl⟩ := Option.map_eq_some_iff.mp hv
    refine wpAny_pyNext_ascii_item st (c := ch) (by rw [← Array.getElem?_toList]; exact hch) fun h' hit' hs' => ?_
    obtain ⟨o', ho', hc', hd'⟩ := id hit'
    obtain ⟨H', kp, th, G⟩ := item_go (A := A) H hI hs' ho'
    refine letOwned_skip (s := { s with heap := h', toks := s.toks + 1 }) ho' "str_ascii_iterator" hc' rfl ?_
    exact q _ h' (s.toks + 1) hit' H' kp th .str
  done := fun F' s ρ Q E st q => by
    have hl : (x.cps.toList.map fun c => V.str ⟨#[c]⟩).length = x.cps.size := by simp
    rw [hl] at st
    exact wpAny_pyNext_ascii_end hh st (by simp) fun h' he' => q h' s.toks fun b o nb e => he' b o (fun z => nb (by rw [z]; exact List.mem_singleton.mpr rfl)) e
  self := fun h => nomatch h

noncomputable def V.isS : V → Bool
  | .str _ => true
  | _ => false
theorem src_ok {A : Around} {s : Shared} {F : Addr → Prop} {ρ : List Addr} {σ : Hp} {v : V} {x : Value} {ws : List V} {b : Option Nat} {Q E : Value → Shared → Prop} (hA : AOk k A) (H : HInv c.lay F c.h₀ ρ σ s.heap) (r : VR c.lay F ρ s.heap v x) (e : srcOf σ v = some (ws, b))
    (q : ∀ Ia s₁ wr fp sf St, ItStart c A F ρ (lend b σ) target ws s s₁ Ia wr fp sf St → (v.isS = false → sf = true) → (∀ n, b = some n → ∃ a items, ρ[n]? = some a ∧ s.heap.PlainList a items ∧ VRs c.lay F ρ s.heap ws items.toList ∧ a ∈ fp) → Q (.ref Ia) s₁) : wpAny (model c.prog c.w) A (pyIter x) Q E s := by
  have hh := hA.1
  cases r with
  | @lst _ a items fa hl rs =>
    cases e
    obtain ⟨n, hl'⟩ := id hl
    have ne : a ≠ s.heap.objs.size := Nat.ne_of_lt (Heap.lt_size hl')
    refine wpAny_pyIter_list hl.isList (q _ _ _ _ _ _ (itStart_of H _ rfl (it_list hh _ a ne items ws) (fun G => ⟨⟨_, Heap.get?_push_size _ rfl, rfl, rfl⟩, ⟨n, push_keep _ _ _ _ hl'⟩, rs.grow G⟩) fun b hb => ?_) (fun _ => rfl) (fun _ z => nomatch z))
    rw [List.mem_singleton.mp hb]; exact ⟨fun l => fa.2 l.mem, fa.1, _, hl'⟩
  | @tup _ a items fa hl rs =>
    cases e
    obtain ⟨o, hl', r'⟩ := id hl
    have ne : a ≠ s.heap.objs.size := Nat.ne_of_lt (Heap.lt_size hl')
    refine wpAny_pyIter_tuple hl (q _ _ _ _ _ _ (itStart_of H _ rfl (it_tuple hh _ a ne items ws) (fun G => ⟨⟨_, Heap.get?_push_size _ rfl, rfl, rfl⟩, ⟨o, push_keep _ _ _ _ hl', r'⟩, rs.grow G⟩) fun b hb => ?_) (fun _ => rfl) (fun _ z => nomatch z))
    rw [List.mem_singleton.mp hb]; exact ⟨fun l => fa.2 l.mem, fa.1, _, hl'⟩
  | @rng lo hi a t u w fa hr =>
    simp only [srcOf] at e
    split at e
    · rename_i hb
      simp only [Bool.and_eq_true, decide_eq_true_eq] at hb
      cases e
      refine wpAny_pyIter_range hr (small_one (by omega) (by omega) (by omega) (by omega)) (q _ _ _ _ _ _ (itStart_of H _ rfl (it_range hh _ lo hi) (fun G => ?_) fun b hb => nomatch hb) (fun _ => rfl) (fun _ z => nomatch z))
      have e0 : Builtin.Range.rangeSize lo hi 1 = ((hi - lo).toNat : Int) - ((0 : Nat) : Int) := by rw [rangeSize_one]; split <;> omega
      rw [e0]
      have e1 : lo + ((0 : Nat) : Int) = lo := by omega
      show (s.heap.push _).get? _ = some { cls := .type "range_iterator", dict := none, data := .fields #[rawInt (lo + ((0 : Nat) : Int)), _, _], slots := #[] }
      rw [e1]
      exact Heap.get?_push_size _ rfl
    · cases e
  | @str x t =>
    simp only [srcOf] at e
    split at e
    · rename_i ha
      cases e
      exact wpAny_pyIter_ascii ha (q _ _ _ _ _ _ (itStart_of H _ rfl (it_str hh _ x t) (fun G => ⟨_, Heap.get?_push_size _ rfl, rfl, rfl⟩) fun b hb => nomatch hb) (fun h => nomatch h) (fun _ z => nomatch z))
    · cases e
  | @ref a n hn =>
    simp only [srcOf] at e
    split at e
    · rename_i vs es
      cases e
      obtain ⟨items, hl, rs⟩ := H.objs _ _ _ es hn
      obtain ⟨m, hl'⟩ := id hl
      have ne : a ≠ s.heap.objs.size := Nat.ne_of_lt (Heap.lt_size hl')
      refine wpAny_pyIter_list hl.isList (q _ _ _ _ _ _ (itStart_of (b := some n) H _ rfl (it_list hh _ a ne items ws) (fun G => ⟨⟨_, Heap.get?_push_size _ rfl, rfl, rfl⟩, ⟨m, push_keep _ _ _ _ hl'⟩, rs.grow G⟩) fun b hb => ?_) (fun _ => rfl) (fun n' z => ?_))
      · rw [List.mem_singleton.mp hb]
        refine ⟨fun ⟨j, ej, al⟩ => ?_, (H.own a (List.mem_of_getElem? hn)).1, _, hl'⟩
        have := nodup_get H.nodup ej hn
        subst this
        exact lend_dead al
      · cases z
        exact ⟨a, items, hn, hl, rs, List.mem_cons_of_mem _ (List.mem_singleton.mpr rfl)⟩
    · cases e
  | _ => cases e
end
end Mine
namespace Mine
open PySem PySem.Spec PySem.Calls PyProof.Rows PySem.W

noncomputable def forS (tgt : SA) (fb : SS) (fi : SE) : SS := fun loc σ => match fi loc σ with
  | some (v, σ₁) => (match srcOf σ₁ v with
    | some (ws, b) => (match forL tgt fb ws loc (lend b σ₁) with
      | some (fl, loc', σ₂) => some (fl, loc', giveBack b ws σ₂)
      | none => none)
    | none => none)
  | none => none

theorem FrI.dropWr {lay : Addr → List Str} {vars : List (Nat × Str)} {F F' : Addr → Prop} {ρ : List Addr} {env : Env} {loc : Loc} {h h' : Heap} {wr : List Addr} (I : FrI lay vars F' ρ env loc h) (hO : ∀ b, OwnW env b → F b ∧ b ∉ wr) (hk : ∀ b o, b ∉ wr → h.get? b = some o → h'.get? b = some o) (G : Grow F' ρ h F ρ h') : FrI lay vars F ρ env loc h' := by
  have kn : ∀ m, h.Ns env.locals m → h'.Ns env.locals m := fun m ⟨o, es, ep, e, r⟩ => ⟨o, es, ep, hk _ _ (hO _ (.inl rfl)).2 e, r⟩
  have kc : ∀ y c v, env.cells.lookup y = some c → h.IsCell c v → h'.IsCell c v := fun y c v hy ⟨o, e, r⟩ => ⟨o, hk _ _ (hO _ (.inr ⟨y, hy⟩)).2 e, r⟩
  refine ⟨I.vok, I.kind, I.glob, I.bi, let ⟨m, q⟩ := I.ns; ⟨m, kn m q⟩, (hO _ (.inl rfl)).1, fun y c e => let ⟨_, b, v, d⟩ := I.cellsF y c e; ⟨(hO _ (.inr ⟨y, e⟩)).1, b, v, kc y c v e d⟩, I.cellsNe, I.kinds, fun i y v hi hl => ?_⟩
  obtain ⟨z, hz, hv⟩ := I.vals i y v hi hl
  refine ⟨z, ?_, hv.grow G⟩
  rcases hz with ⟨k, m, a, b⟩ | ⟨k, c, a, b⟩
  · exact .inl ⟨k, m, kn m a, b⟩
  · exact .inr ⟨k, c, a, kc y c _ a b⟩

theorem loop_end {c : Cx} {A : Around} {F : Addr → Prop} {ρ : List Addr} {σ : Hp} {target : Expr} {ws : List V} {s s₁ s₂ : Shared} {Ia : Addr} {wr fp : List Addr} {sf : Bool} {St : (Addr → Prop) → Nat → List Addr → Heap → Prop} {b : Option Nat} {ρ' : List Addr} {σ₂ : Hp} {h' : Heap} {tk : Nat} {W : Addr → Prop}
    (hFw : ∀ a, F a → a ∉ wr) (S : ItStart c A F ρ (lend b σ) target ws s s₁ Ia wr fp sf St) (hb : ∀ n, b = some n → ∃ a items, ρ[n]? = some a ∧ s.heap.PlainList a items ∧ VRs c.lay (fun a => F a ∨ a ∈ wr) ρ s₁.heap ws items.toList ∧ a ∈ fp) (ha : ∀ n, b = some n → alive σ n)
    (H₂ : HInv c.lay (fun a => F a ∨ a ∈ wr) c.h₀ ρ' σ₂ s₂.heap) (A₂ : Adv ρ (lend b σ) s₁ ρ' σ₂ s₂ (fun b => W b ∨ b ∈ wr)) (hW : ∀ b, W b → F b) (hk : ∀ b o, b ∉ wr → s₂.heap.get? b = some o → h'.get? b = some o) :
    HInv c.lay F c.h₀ ρ' (giveBack b ws σ₂) h' ∧ Adv ρ σ s ρ' (giveBack b ws σ₂) { s₂ with heap := h', toks := tk } W ∧ Grow (fun a => F a ∨ a ∈ wr) ρ' s₂.heap F ρ' h' := by
  have nwr : ∀ a o, s.heap.get? a = some o → a ∉ wr := fun a o e m => by rw [(S.new a m).1] at e; cases e
  obtain ⟨H₃, G₃⟩ := H₂.dropWr (F := F) (wr := wr) (h' := h') (fun a f => ⟨.inl f, hFw a f⟩) (fun b m => .inr m) hk
  have hWw : ∀ b, (W b ∨ b ∈ wr) → F b ∨ b ∈ wr := fun b q => q.imp (hW b) id
  have G₂ : Grow (fun a => F a ∨ a ∈ wr) ρ s₁.heap (fun a => F a ∨ a ∈ wr) ρ' s₂.heap := A₂.grow S.inv hWw
  have kp : ∀ a o, s.heap.get? a = some o → ¬ Live ρ (lend b σ) a → ¬ W a → h'.get? a = some o := fun a o e nl nw => hk a o (nwr a o e) (A₂.keep a o (S.keep a o e) nl fun q => q.elim nw (nwr a o e))
  have th : ∀ a o, s.heap.get? a = some o → ∃ o', h'.get? a = some o' := fun a o e => by
    obtain ⟨o', e'⟩ := A₂.there a o (S.keep a o e)
    exact ⟨o', hk a o' (nwr a o e) e'⟩
  obtain ⟨tl, rfl, ht⟩ := A₂.tl
  have tl' : ∀ a ∈ tl, s.heap.get? a = none := fun a m => by
    cases e : s.heap.get? a with
    | none => rfl
    | some o => have z := S.keep a o e; rw [ht a m] at z; cases z
  have ll : (lend b σ).length = σ.length := by cases b <;> simp [lend]
  refine ⟨?_, ⟨⟨tl, rfl, tl'⟩, fun n hn al => ?_, fun a o e nl nw => kp a o e (fun ⟨j, ej, al⟩ => nl ⟨j, ej, lend_live al⟩) nw, th, A₂.gens.trans S.gens, A₂.drawn.trans S.drawn, A₂.os.trans S.os⟩, G₃⟩
  · cases b with
    | none => exact H₃
    | some n =>
      obtain ⟨a, items, hn, ⟨m, hl⟩, rs, hfp⟩ := hb n rfl
      obtain ⟨nl, nF, _⟩ := S.fp a hfp
      have hl' : h'.get? a = some _ := kp a _ hl nl (fun w => nF (hW a w))
      have hn' : (ρ ++ tl)[n]? = some a := by
        obtain ⟨q, _⟩ := List.getElem?_eq_some_iff.mp hn
        rw [List.getElem?_append_left q]; exact hn
      exact H₃.upd hn' (.refl ..) ⟨_, hl'⟩ ⟨items, ⟨m, hl'⟩, (rs.grow G₂).grow G₃⟩
  · cases b with
    | none => exact lend_live (A₂.live n (ll ▸ hn) al)
    | some m =>
      by_cases nm : n = m
      · subst nm; exact ha n rfl
      · obtain ⟨o, e, d⟩ := al
        simp only [giveBack] at e
        rw [List.getElem?_set_ne (Ne.symm nm)] at e
        exact lend_live (A₂.live n (ll ▸ hn) ⟨o, e, d⟩)

theorem srcOf_alive {σ : Hp} {v : V} {ws : List V} {b : Option Nat} (e : srcOf σ v = some (ws, b)) : ∀ n, b = some n → alive σ n := by
  intro n hb
  subst hb
  cases v with
  | ref m =>
    simp only [srcOf] at e
    split at e
    · rename_i vs es; cases e; exact ⟨_, es, by simp⟩
    · cases e
  | rng a b => simp only [srcOf] at e; split at e <;> cases e
  | str s => simp only [srcOf] at e; split at e <;> cases e
  | _ => cases e

section
variable {c : Cx} {k : Nat} {vars : List (Nat × Str)} {sc : Scope}
theorem den_for {target iter : Expr} {body : List Stmt} {pos : Pos} {tgt : SA} {fb : SS} {fi : SE} (hi : DenE c k vars sc iter fi) (ht : DenA c k vars sc target tgt) (hb : DenSs c k vars sc body fb) (hfs : ∀ (env : Env) (x : Value), foldedSetIterable iter env x = pure x) :
    DenS c k vars sc (.For target iter body [] pos) (forS tgt fb fi) := by
  intro env A s F ρ loc σ fl loc' σ' Q E hs hA H I e q
  unfold forS at e
  split at e
  · rename_i v σ₁ e1
    split at e
    · rename_i ws b e2
      split at e
      · rename_i fl₁ loc₁ σ₂ e3
        cases e
        refine wpAny_For (hi env A s F ρ loc σ v σ₁ _ _ hs hA H I e1 fun x s₁ ρ₁ H₁ A₁ r₁ => ?_) (hfs env)
        have I₁ := I.adv H A₁
        refine src_ok (target := target) hA H₁ r₁ e2 fun Ia s₂ wr fp sf St S _ hbor => ?_
        have nwr : ∀ a o, s₁.heap.get? a = some o → a ∉ wr := fun a o e m => by rw [(S.new a m).1] at e; cases e
        have hO : ∀ a, OwnW env a → F a ∧ a ∉ wr := fun a w => ⟨I₁.ownF a w, by obtain ⟨_, o, e⟩ := H₁.fr a (I₁.ownF a w); exact nwr a o e⟩
        have I₂ : FrI c.lay vars (fun a => F a ∨ a ∈ wr) ρ₁ env loc s₂.heap := I₁.moreF (fun a f => .inl f) S.keep S.grow
        refine for_go S.it (fun a m => .inr m) ht hb hs hA S.inv I₂ S.st (fun a m => ⟨(S.fp a m).1, fun w => (S.fp a m).2.1 (hO a w).1, (S.fp a m).2.2⟩) e3 fun z s₃ ρ₃ h' tk H₃ I₃ A₃ r₃ hk => ?_
        obtain ⟨H₄, A₄, G₄⟩ := loop_end (tk := tk) (fun a f => by obtain ⟨_, o, e⟩ := H₁.fr a f; exact nwr a o e) S (fun n h => let ⟨a, it, x1, x2, x3, x4⟩ := hbor n h; ⟨a, it, x1, x2, x3.grow S.grow, x4⟩) (srcOf_alive e2) H₃ A₃ I₁.ownF hk
        refine q z _ ρ₃ H₄ (I₃.dropWr hO hk G₄) (A₁.ofE.trans H.len H₁.len A₄) ?_
        cases r₃ with
        | next => exact .next
        | brk => exact .brk
        | cont => exact .cont
        | ret r => exact .ret (r.grow G₄)
      · cases e
    · cases e
  · cases e

noncomputable def tupA : List SA → List V → Loc → Hp → Option (Loc × Hp)
  | [], [], loc, σ => some (loc, σ)
  | t :: ts, v :: vs, loc, σ => (match t v loc σ with
    | some (loc₁, σ₁) => tupA ts vs loc₁ σ₁
    | none => none)
  | _, _, _, _ => none
noncomputable def tupT (ts : List SA) : SA := fun v loc σ => match v with
  | .tup vs => tupA ts vs loc σ
  | _ => none
noncomputable def DenAs (W : Env → Addr → Prop) (c : Cx) (k : Nat) (vars : List (Nat × Str)) (sc : Scope) (es : List Expr) (ts : List SA) : Prop :=
  ∀ (env : Env) (A : Around) (s : Shared) (F : Addr → Prop) (ρ : List Addr) (loc : Loc) (σ : Hp) (vs : List V) (xs : List Value) (loc' : Loc) (σ' : Hp) (Q : Unit → Shared → Prop) (E : Value → Shared → Prop),
    env.scope = sc → AOk k A → HInv c.lay F c.h₀ ρ σ s.heap → FrI c.lay vars F ρ env loc s.heap → VRs c.lay F ρ s.heap vs xs → tupA ts vs loc σ = some (loc', σ') →
    (∀ s' ρ', HInv c.lay F c.h₀ ρ' σ' s'.heap → FrI c.lay vars F ρ' env loc' s'.heap → Adv ρ σ s ρ' σ' s' (W env) → Q () s') →
    wpAny (model c.prog c.w) A (assignInOrder ((assignEach es env).map (·.2)) xs) Q E s
variable {W : Env → Addr → Prop}
theorem den_asNil : DenAs W c k vars sc [] [] := by
  intro env A s F ρ loc σ vs xs loc' σ' Q E hs hA H I r e q
  cases r with
  | nil => cases e; exact wpAny_pure (q s ρ H I .refl)
  | cons => cases e
theorem den_asCons {t : Expr} {rest : List Expr} {f : SA} {fs : List SA} (hW : ∀ env b, W env b → OwnW env b) (ht : DenAW W c k vars sc t f) (hr : DenAs W c k vars sc rest fs) (hst : starFree [t] = true) : DenAs W c k vars sc (t :: rest) (f :: fs) := by
  intro env A s F ρ loc σ vs xs loc' σ' Q E hs hA H I r e q
  have he : assignEach (t :: rest) env = (false, assign t env) :: assignEach rest env := by cases t <;> first | rfl | cases hst
  rw [he, List.map_cons]
  cases r with
  | nil => cases e
  | cons r rs =>
    simp only [tupA] at e
    split at e
    · rename_i loc₁ σ₁ e1
      refine wpAny_bind (wpAny_holding (ht env A s F ρ loc σ _ _ loc₁ σ₁ _ _ hs hA H I r e1 fun s₁ ρ₁ H₁ I₁ A₁ => ?_))
      exact hr env A s₁ F ρ₁ loc₁ σ₁ _ _ loc' σ' _ _ hs hA H₁ I₁ (rs.grow (A₁.grow H fun b w => I.ownF b (hW env b w))) e fun s₂ ρ₂ H₂ I₂ A₂ => q s₂ ρ₂ H₂ I₂ (A₁.trans H.len H₁.len A₂)
    · cases e
theorem tupA_len : ∀ {ts : List SA} {vs : List V} {loc : Loc} {σ : Hp} {r : Loc × Hp}, tupA ts vs loc σ = some r → ts.length = vs.length
  | [], [], _, _, _, _ => rfl
  | [], _ :: _, _, _, _, e => by cases e
  | _ :: _, [], _, _, _, e => by cases e
  | t :: ts, v :: vs, loc, σ, r, e => by
    simp only [tupA] at e
    split at e
    · simp [tupA_len e]
    · cases e
theorem assignEach_len {es : List Expr} {env : Env} : (assignEach es env).length = es.length := by
  induction es with
  | nil => rfl
  | cons e r ih => cases e <;> simp [assignEach, ih]
theorem assignEach_free {es : List Expr} {env : Env} (h : starFree es = true) : (assignEach es env).findIdx? (·.1) = none := by
  induction es with
  | nil => rfl
  | cons e r ih =>
    have hr : starFree r = true := by cases e <;> first | exact h | cases h
    cases e <;> first
      | (rw [show assignEach (_ :: r) env = (false, _) :: assignEach r env from rfl, List.findIdx?_cons, ih hr]; rfl)
      | cases h
theorem den_tupT {es : List Expr} {n : Nat} {pos : Pos} {ts : List SA} (h : DenAs W c k vars sc es ts) (hst : starFree es = true) (hl : es.length = ts.length) : DenAW W c k vars sc (.Tuple es n pos) (tupT ts) := by
  intro env A s F ρ loc σ v x loc' σ' Q E hs hA H I r e q
  unfold tupT at e
  split at e
  · rename_i vs
    cases r with
    | @tup _ a items fa ht rs =>
      have l1 := tupA_len e
      have l2 := rs.length
      have l3 : items.toList.length = items.size := by simp
      refine wpAny_assign_Tuple hA.1 ht (by rw [assignEach_len]; omega) (assignEach_free hst) fun h' he => ?_
      have hk : ∀ b o, s.heap.get? b = some o → h'.get? b = some o := fun b o e => he b o (Nat.ne_of_lt (Heap.lt_size e)) e
      have A₁ : Adv ρ σ s ρ σ { s with heap := h' } NoW := Adv.ext hk
      have H₁ : HInv c.lay F c.h₀ ρ σ h' := H.ext hk
      exact h env A _ F ρ loc σ vs items.toList loc' σ' _ _ hs hA H₁ (I.adv (s' := { s with heap := h' }) H A₁) (rs.adv (s' := { s with heap := h' }) H A₁) e fun s₂ ρ₂ H₂ I₂ A₂ => q s₂ ρ₂ H₂ I₂ (A₁.ofE.trans H.len H₁.len A₂)
  · cases e
end
end Mine
namespace Mine
open PySem PySem.Spec PySem.Calls PyProof.Rows PySem.W

noncomputable def cmpL (tgt : SA) (test : ST) (elt : SE) : List V → Loc → Hp → Option (List V × Hp)
  | [], _, σ => some ([], σ)
  | v :: vs, loc, σ => match tgt v loc σ with
    | some (loc₁, σ₁) => (match test loc₁ σ₁ with
      | some (true, σ₂) => (match elt loc₁ σ₂ with
        | some (w, σ₃) => (match cmpL tgt test elt vs loc₁ σ₃ with
          | some (ws, σ₄) => some (w :: ws, σ₄)
          | none => none)
        | none => none)
      | some (false, σ₂) => cmpL tgt test elt vs loc₁ σ₂
      | none => none)
    | none => none
noncomputable def clr (is : List Nat) (loc : Loc) : Loc := is.foldl (fun l i => l.set i none) loc
noncomputable def V.notS (v : V) : Bool := !v.isS
noncomputable def cmpE (is : List Nat) (tgt : SA) (test : ST) (elt : SE) (fi : SE) : SE := fun loc σ => match fi loc σ with
  | some (v, σ₁) => if v.notS then (match srcOf σ₁ v with
    | some (ws, b) => if Nat.ble ws.length 1000000 then (match cmpL tgt test elt ws (clr is loc) (lend b σ₁) with
      | some (rs, σ₂) => some (.lst rs, giveBack b ws σ₂)
      | none => none) else none
    | none => none) else none
  | none => none

noncomputable def DenIfs (c : Cx) (k : Nat) (vars : List (Nat × Str)) (sc : Scope) (ifs : List Expr) (f : ST) : Prop :=
  ∀ (env : Env) (A : Around) (s : Shared) (F : Addr → Prop) (ρ : List Addr) (loc : Loc) (σ : Hp) (b : Bool) (σ' : Hp) (Q : Bool → Shared → Prop) (E : Value → Shared → Prop),
    env.scope = sc → AOk k A → HInv c.lay F c.h₀ ρ σ s.heap → FrI c.lay vars F ρ env loc s.heap → f loc σ = some (b, σ') →
    (∀ s' ρ', HInv c.lay F c.h₀ ρ' σ' s'.heap → Adv ρ σ s ρ' σ' s' NoW → Q b s') →
    wpAny (model c.prog c.w) A (forIn ifs true fun c r => if r = true then do let ok ← isTrue c env (eval c env); pure (ForInStep.yield ok) else pure (ForInStep.yield r)) Q E s
noncomputable def ttT : ST := fun _ σ => some (true, σ)

theorem clr_get : ∀ (is : List Nat) (loc : Loc) {i : Nat} {v : V}, (clr is loc)[i]? = some (some v) → loc[i]? = some (some v) ∧ i ∉ is
  | [], _, _, _, h => ⟨h, by simp⟩
  | j :: is, loc, i, v, h => by
    obtain ⟨a, b⟩ := clr_get is (loc.set j none) h
    by_cases e : i = j
    · subst e
      rw [List.getElem?_set] at a
      simp at a
    · rw [List.getElem?_set_ne (Ne.symm e)] at a
      exact ⟨a, by simp [e, b]⟩

section
variable {c : Cx} {k : Nat} {vars : List (Nat × Str)} {sc : Scope}
theorem den_if0 : DenIfs c k vars sc [] ttT := by
  intro env A s F ρ loc σ b σ' Q E hs hA H I e q
  cases e
  exact wpAny_tests_nil (q s ρ H .refl)
theorem den_if1 {t : Expr} {f : ST} (h : DenT c k vars sc t f) : DenIfs c k vars sc [t] f := by
  intro env A s F ρ loc σ b σ' Q E hs hA H I e q
  exact wpAny_tests_one (h env A s F ρ loc σ b σ' Q E hs hA H I e q)
end

theorem closure_of {env : Env} : ∀ (names : List (Str × NameKind)), (∀ p ∈ names, p.2 = .free → ∃ a, env.cells.lookup p.1 = some a) → ∀ (acc : List (Str × Addr)),
    ∃ cl : List (Str × Addr), (forIn names acc fun (x : Str × NameKind) (cs : List (Str × Addr)) => (do
      if (x.2 == .free) = true then do let a ← cellOf env x.1; pure (ForInStep.yield ((x.1, a) :: cs)) else pure (ForInStep.yield cs) : Sem (ForInStep (List (Str × Addr))))) = pure cl ∧
      (∀ n a, cl.lookup n = some a → env.cells.lookup n = some a ∨ acc.lookup n = some a) ∧ (∀ p ∈ names, p.2 = .free → (cl.lookup p.1).isSome = true) ∧ (∀ n, (acc.lookup n).isSome = true → (cl.lookup n).isSome = true)
  | [], _, acc => ⟨acc, rfl, fun _ _ h => .inr h, fun _ h => (nomatch h), fun _ h => h⟩
  | (n, kd) :: r, h, acc => by
    rw [List.forIn_cons]
    by_cases hk : (kd == NameKind.free) = true
    · obtain ⟨a, ha⟩ := h (n, kd) List.mem_cons_self (by simpa using hk)
      obtain ⟨cl, e, h1, h2, h3⟩ := closure_of r (fun p hp => h p (List.mem_cons_of_mem _ hp)) ((n, a) :: acc)
      refine ⟨cl, ?_, fun m b hb => ?_, fun p hp hf => ?_, fun m hm => h3 m ?_⟩
      · dsimp only
        rw [if_pos hk]
        have ce : cellOf env n = pure a := by unfold cellOf; rw [ha]
        rw [ce]
        exact e
      · rcases h1 m b hb with q | q
        · exact .inl q
        · rw [List.lookup_cons] at q
          cases hm : m == n with
          | true => rw [hm] at q; cases q; exact .inl (by rw [beq_iff_eq.mp hm]; exact ha)
          | false => rw [hm] at q; exact .inr q
      · rcases List.mem_cons.mp hp with rfl | hp
        · exact h3 n (by rw [List.lookup_cons]; simp)
        · exact h2 p hp hf
      · rw [List.lookup_cons]; split <;> first | rfl | exact hm
    · obtain ⟨cl, e, h1, h2, h3⟩ := closure_of r (fun p hp => h p (List.mem_cons_of_mem _ hp)) acc
      refine ⟨cl, ?_, h1, fun p hp hf => ?_, h3⟩
      · dsimp only
        rw [if_neg hk]
        exact e
      · rcases List.mem_cons.mp hp with rfl | hp
        · exact absurd (by simpa using hf) hk
        · exact h2 p hp hf
theorem closureFor_of {scope : Scope} {env : Env} (h : ∀ p ∈ scope.names, p.2 = .free → ∃ a, env.cells.lookup p.1 = some a) :
    ∃ cl, closureFor scope env = pure cl ∧ (∀ n a, cl.lookup n = some a → env.cells.lookup n = some a) ∧ ∀ p ∈ scope.names, p.2 = .free → (cl.lookup p.1).isSome = true := by
  obtain ⟨cl, e, h1, h2, _⟩ := closure_of scope.names h []
  refine ⟨cl, ?_, fun n a ha => (h1 n a ha).elim id fun q => (by simp at q), h2⟩
  have z : closureFor scope env = (forIn scope.names ([] : List (Str × Addr)) fun (x : Str × NameKind) (cs : List (Str × Addr)) => (do
      if (x.2 == .free) = true then do let a ← cellOf env x.1; pure (ForInStep.yield ((x.1, a) :: cs)) else pure (ForInStep.yield cs) : Sem (ForInStep (List (Str × Addr))))) >>= fun s => pure s := rfl
  rw [z, e]
  rfl

theorem comp_turns {prog : Program} {w : World} {A : Around} {R : Result → Shared → Prop} {s : Shared} {elt target iter : Expr} {ifs : List Expr} {scope : Scope} {pos : Pos} {it acc : Value} {env : Env} (I : Nat → Shared → Prop)
    (turn : ∀ n s, I n s → wpAny (model prog w) A (pyNext it) (fun r s₁ => match r with
      | none => R (.ok .next) s₁
      | some v => wpAny (model prog w) A (letOwnedTupleGo target it v) (fun _ s₁' => wpAny (model prog w) A (assign target env v) (fun _ s₂ =>
          wpAny (model prog w) A (forIn ifs true fun c r => if r = true then do let ok ← isTrue c env (eval c env); pure (ForInStep.yield ok) else pure (ForInStep.yield r)) (fun ok s₃ =>
            if ok = true then wpAny (model prog w) A (eval elt env) (fun x s₄ =>
              wpAny (model prog w) A (call (.builtin "list.append") [acc, x]) (fun _ s₅ => ∃ m, m < n ∧ I m s₅) (notedBy (model prog w) A env fun e s' => R (.error e) s') s₄) (notedBy (model prog w) A env fun e s' => R (.error e) s') s₃
            else ∃ m, m < n ∧ I m s₃) (notedBy (model prog w) A env fun e s' => R (.error e) s') s₂) (notedBy (model prog w) A env fun e s' => R (.error e) s') s₁') (notedBy (model prog w) A env fun e s' => R (.error e) s') s₁) (notedBy (model prog w) A env fun e s' => R (.error e) s') s)
    (n : Nat) (h : I n s) : codeAny (model prog w) A (.compLoop (.ListComp elt [⟨target, iter, ifs, 0⟩] scope pos) 0 it acc env) R s := by
  refine codeAny_loop rfl I (fun n s hI => ?_) n h
  show wpAny _ A ((compTurn (.ListComp elt [⟨target, iter, ifs, 0⟩] scope pos) 0 it acc env).onRaise (fun x => do noteFrame x env; theTreesLotGoes x)) _ _ s
  refine wpAny_noted ?_
  rw [compTurn_list]
  refine wpAny_bind (wpAny_standAt (wpAny_bind (wpAny_mono (turn n s hI) (fun r s₁ h₁ => ?_) fun _ _ h' => h')))
  cases r with
  | none => exact wpAny_pure h₁
  | some v =>
    refine wpAny_bind (wpAny_mono h₁ (fun _ s₁' h₁' => ?_) fun _ _ h' => h')
    refine wpAny_bind (wpAny_mono h₁' (fun _ s₂ h₂ => wpAny_bind (wpAny_mono h₂ (fun ok s₃ h₃ => ?_) fun _ _ h' => h')) fun _ _ h' => h')
    cases ok with
    | false => exact wpAny_pure ⟨rfl, h₃⟩
    | true => exact wpAny_bind (wpAny_bind (wpAny_mono h₃ (fun x s₄ h₄ => wpAny_bind (wpAny_mono h₄ (fun _ s₅ h₅ => wpAny_pure (wpAny_pure ⟨rfl, h₅⟩)) fun _ _ h' => h')) fun _ _ h' => h'))

inductive CmpI (c : Cx) (varsC : List (Nat × Str)) (F' : Addr → Prop) (cenv : Env) (D : Addr) (ws : List V) (St : (Addr → Prop) → Nat → List Addr → Heap → Prop) (tgt : SA) (test : ST) (felt : SE) (ρ : List Addr) (σ : Hp) (s : Shared) (W : Addr → Prop) (rs : List V) (σ' : Hp) : Nat → Shared → Prop
  | mk {m i : Nat} {loc₁ : Loc} {σ₁ : Hp} {ρ₁ : List Addr} {ys : Array Value} {accV rest : List V} {s' : Shared} : i ≤ ws.length → m = ws.length - i → St F' i ρ₁ s'.heap → HInv c.lay F' c.h₀ ρ₁ σ₁ s'.heap → FrI c.lay varsC F' ρ₁ cenv loc₁ s'.heap → Adv ρ σ s ρ₁ σ₁ s' W →
      s'.heap.PlainList D ys → VRs c.lay F' ρ₁ s'.heap accV ys.toList → ys.size ≤ i → cmpL tgt test felt (ws.drop i) loc₁ σ₁ = some (rest, σ') → accV ++ rest = rs → CmpI c varsC F' cenv D ws St tgt test felt ρ σ s W rs σ' m s'
theorem cmp_go {c : Cx} {k : Nat} {varsC : List (Nat × Str)} {scC : Scope} {A : Around} {F' : Addr → Prop} {Ia C D : Addr} {wr fp : List Addr} {target elt iter : Expr} {ifs : List Expr} {scope : Scope} {pos : Pos} {ws : List V} {sf : Bool} {St : (Addr → Prop) → Nat → List Addr → Heap → Prop} {tgt : SA} {test : ST} {felt : SE}
    (T : It c A Ia wr fp target ws sf St) (hwF : ∀ b ∈ wr, F' b) (ht : DenAL c k varsC scC target tgt) (hif : DenIfs c k varsC scC ifs test) (he : DenE c k varsC scC elt felt) {cenv : Env} {s : Shared} {ρ : List Addr} {loc : Loc} {σ : Hp} {rs : List V} {σ' : Hp} {R : Result → Shared → Prop}
    (hs : cenv.scope = scC) (hC : cenv.locals = C) (hA : AOk k A) (H : HInv c.lay F' c.h₀ ρ σ s.heap) (I : FrI c.lay varsC F' ρ cenv loc s.heap) (st : St F' 0 ρ s.heap) (hD : F' D) (hDC : D ≠ C) (hDw : D ∉ wr) (hDo : ¬ OwnW cenv D)
    (hacc : s.heap.PlainList D #[])
    (hfp : ∀ b ∈ fp, ¬ Live ρ σ b ∧ ¬ OwnW cenv b ∧ b ≠ D ∧ ∃ o, s.heap.get? b = some o) (hz : ws.length ≤ 1000000)
    (e : cmpL tgt test felt ws loc σ = some (rs, σ'))
    (q : ∀ s₁ ρ' ys h' tk, HInv c.lay F' c.h₀ ρ' σ' s₁.heap → Adv ρ σ s ρ' σ' s₁ (fun b => (b = C ∨ b = D) ∨ b ∈ wr) → s₁.heap.PlainList D ys → VRs c.lay F' ρ' s₁.heap rs ys.toList → (∃ m, s₁.heap.Ns C m) → (∀ b o, b ∉ wr → s₁.heap.get? b = some o → h'.get? b = some o) → R (.ok .next) { s₁ with heap := h', toks := tk }) :
    codeAny (model c.prog c.w) A (.compLoop (.ListComp elt [⟨target, iter, ifs, 0⟩] scope pos) 0 (.ref Ia) (.ref D) cenv) R s := by
  refine comp_turns (CmpI c varsC F' cenv D ws St tgt test felt ρ σ s (fun b => (b = C ∨ b = D) ∨ b ∈ wr) rs σ')
    ?_ (ws.length - 0) (.mk (i := 0) (accV := []) (Nat.zero_le _) rfl st H I .refl hacc .nil (Nat.le_refl _) e rfl)
  intro m s' z
  cases z with
  | @mk i loc₁ σ₁ ρ₁ ys accV rest _ hi hm st₁ H₁ I₁ A₁ pl₁ vr₁ hy e₁ hrs =>
  subst hm
  have hfp₁ : ∀ b ∈ fp, ¬ Live ρ₁ σ₁ b := fun b hb => notLive_adv H.len A₁ (hfp b hb).1 (hfp b hb).2.2.2
  by_cases hlt : i < ws.length
  · obtain ⟨v, hv⟩ : ∃ v, ws[i]? = some v := ⟨_, List.getElem?_eq_getElem hlt⟩
    have hd : ws.drop i = v :: ws.drop (i + 1) := by
      rw [List.drop_eq_getElem_cons hlt]
      have := (List.getElem?_eq_some_iff.mp hv).2
      rw [this]
    rw [hd] at e₁
    simp only [cmpL] at e₁
    refine wpAny_mono (T.item F' hwF i s' ρ₁ σ₁ v _ (notedBy (model c.prog c.w) A cenv fun e s' => R (.error e) s') hv st₁ H₁ fun x h₂ tk₂ st₂ H₂ kp₂ th₂ r₂ => ?_) (fun r s₁ h => by cases r with | none => exact h.elim | some x => exact h) fun _ _ h => h
    have A₂ : Adv ρ₁ σ₁ s' ρ₁ σ₁ { s' with heap := h₂, toks := tk₂ } (fun b => b ∈ wr) := adv_wr kp₂ th₂
    have I₂ : FrI c.lay varsC F' ρ₁ cenv loc₁ h₂ := I₁.chg (s' := { s' with heap := h₂, toks := tk₂ }) H₁ A₂ hwF fun b ob hw => (hfp b (T.sub b hw)).2.1 ob
    have pl₂ : h₂.PlainList D ys := let ⟨n, e⟩ := pl₁; ⟨n, kp₂ D _ hDw e⟩
    have vr₂ : VRs c.lay F' ρ₁ h₂ accV ys.toList := vr₁.grow (A₂.grow H₁ hwF)
    split at e₁
    · rename_i loc₃ σ₃ e₃
      refine ht cenv A _ F' ρ₁ loc₁ σ₁ v x loc₃ σ₃ _ _ hs hA H₂ I₂ r₂ e₃ fun s₃ ρ₃ H₃ I₃ A₃ => ?_
      have lF : ∀ b, LocW cenv b → F' b := fun b w => I₂.ownF b (.inl w)
      have nD : ∀ {ρ : List Addr} {σ : Hp} {h : Heap}, HInv c.lay F' c.h₀ ρ σ h → ¬ Live ρ σ D := fun H l => (H.own D l.mem).1 hD
      have pl₃ : s₃.heap.PlainList D ys := let ⟨n, e⟩ := pl₂; ⟨n, A₃.keep D _ e (nD H₂) (fun w => hDC (w.trans hC))⟩
      have vr₃ : VRs c.lay F' ρ₃ s₃.heap accV ys.toList := vr₂.grow (A₃.grow H₂ lF)
      have A13 : Adv ρ σ s ρ₃ σ₃ s₃ (fun b => (b = C ∨ b = D) ∨ b ∈ wr) := (A₁.trans H.len H₁.len (A₂.mono fun b w => .inr w)).trans H.len H₂.len (A₃.mono fun b w => .inl (.inl (w.trans hC)))
      have st₃ : St F' (i + 1) ρ₃ s₃.heap := T.frame _ _ _ _ _ _ _ st₂ (A₃.grow H₂ lF) fun b hb o e => A₃.keep b o e (hfp₁ b hb) fun w => (hfp b hb).2.1 (.inl w)
      have hfp₃ : ∀ b ∈ fp, ¬ Live ρ₃ σ₃ b := fun b hb => notLive_adv H.len A13 (hfp b hb).1 (hfp b hb).2.2.2
      split at e₁
      · rename_i σ₄ e₄
        split at e₁
        · rename_i w σ₅ e₅
          split at e₁
          · rename_i ws' σ₆ e₆
            cases e₁
            refine hif cenv A s₃ F' ρ₃ loc₃ σ₃ true σ₄ _ _ hs hA H₃ I₃ e₄ fun s₄ ρ₄ H₄ A₄ => ?_
            simp only [if_true]
            have I₄ := I₃.adv H₃ A₄
            refine he cenv A s₄ F' ρ₄ loc₃ σ₄ w σ₅ _ _ hs hA H₄ I₄ e₅ fun y s₅ ρ₅ H₅ A₅ r₅ => ?_
            have A35 := A₄.trans H₃.len H₄.len A₅
            have pl₅ : s₅.heap.PlainList D ys := let ⟨n, e⟩ := pl₃; ⟨n, A35.keep D _ e (nD H₃) id⟩
            have vr₅ : VRs c.lay F' ρ₅ s₅.heap accV ys.toList := vr₃.adv H₃ A35
            have st₅ : St F' (i + 1) ρ₅ s₅.heap := T.frame _ _ _ _ _ _ _ st₃ (A35.growE H₃) fun b hb o e => A35.keep b o e (hfp₃ b hb) id
            refine wpAny_list_append_plain (hsz := by rw [sizeLine_eq]; omega) pl₅ fun h₆ pl₆ hs₆ => ?_
            obtain ⟨n₆, ho₆⟩ := id pl₆
            obtain ⟨H₆, kp₆, th₆, G₆⟩ := item_go (A := A) H₅ hD hs₆ ho₆
            have A₆ : Adv ρ₅ σ₅ s₅ ρ₅ σ₅ { s₅ with heap := h₆, toks := s₅.toks } (fun b => b ∈ [D]) := adv_wr kp₆ th₆
            have I₆ : FrI c.lay varsC F' ρ₅ cenv loc₃ h₆ := (I₄.adv H₄ A₅).chg (s' := { s₅ with heap := h₆, toks := s₅.toks }) H₅ A₆ (fun b m => by rw [List.mem_singleton.mp m]; exact hD) fun b ob m => hDo (by rw [← List.mem_singleton.mp m]; exact ob)
            refine ⟨ws.length - (i + 1), Nat.sub_succ_lt_self _ _ hlt, .mk (accV := accV ++ [w]) hlt rfl ?_ H₆ I₆ ?_ pl₆ ?_ (by rw [Array.size_push]; exact Nat.succ_le_succ hy) e₆ (by rw [← hrs, List.append_assoc]; rfl)⟩
            · exact T.frame _ _ _ _ _ _ _ st₅ G₆ fun b hb o e => kp₆ b o (fun m => (hfp b hb).2.2.1 (List.mem_singleton.mp m)) e
            · exact (A13.trans H.len H₃.len A35.ofE).trans H.len H₅.len (A₆.mono fun b m => .inl (.inr (List.mem_singleton.mp m)))
            · rw [Array.toList_push]; exact (vr₅.grow G₆).append (.cons (r₅.grow G₆) .nil)
          · cases e₁
        · cases e₁
      · rename_i σ₄ e₄
        refine hif cenv A s₃ F' ρ₃ loc₃ σ₃ false σ₄ _ _ hs hA H₃ I₃ e₄ fun s₄ ρ₄ H₄ A₄ => ?_
        simp only [Bool.false_eq_true, if_false]
        refine ⟨ws.length - (i + 1), Nat.sub_succ_lt_self _ _ hlt, .mk hlt rfl ?_ H₄ (I₃.adv H₃ A₄) (A13.trans H.len H₃.len A₄.ofE) ?_ (vr₃.adv H₃ A₄) (Nat.le_succ_of_le hy) e₁ hrs⟩
        · exact T.frame _ _ _ _ _ _ _ st₃ (A₄.growE H₃) fun b hb o e => A₄.keep b o e (hfp₃ b hb) id
        · obtain ⟨n, e⟩ := pl₃
          exact ⟨n, A₄.keep D _ e (nD H₃) id⟩
      · cases e₁
    · cases e₁
  · have hin : i = ws.length := by omega
    subst hin
    simp only [List.drop_length, cmpL] at e₁
    cases e₁
    rw [List.append_nil] at hrs
    subst hrs
    refine wpAny_mono (T.done F' s' ρ₁ (fun s₁ => R (.ok .next) s₁) _ st₁ fun h' tk kp => q s' ρ₁ ys h' tk H₁ A₁ pl₁ vr₁ (by rw [← hC]; exact I₁.ns) kp) (fun r s₁ h => ?_) fun _ _ h => h
    cases r with
    | none => exact h
    | some x => exact h.elim
end Mine
namespace Mine
open PySem PySem.Spec PySem.Calls PyProof.Rows PySem.W

structure LcShape (vars varsC : List (Nat × Str)) (sc scope scC : Scope) (is : List Nat) : Prop where
  kind : scope.kind = .function
  names : ∀ x ∈ scope.names, x.2 = .local → scope.names.lookup x.1 = some .local
  cell : ∀ y ∈ scope.names, y.2 ≠ .cell
  rel : ∀ env : Env, env.scope = sc → relabel scope env = scC
  free : ∀ p ∈ scope.names, p.2 = .free → ∃ i, (i, p.1) ∈ vars ∧ sc.names.lookup p.1 = some .cell
  vok : VarsOk varsC
  vC : ∀ p ∈ varsC, (scC.names.lookup p.2 = some .local ∧ p.1 ∈ is) ∨ (scC.names.lookup p.2 = some .cell ∧ p ∈ vars ∧ (p.2, NameKind.free) ∈ scope.names ∧ sc.names.lookup p.2 = some .cell)

section
variable {c : Cx} {k : Nat} {vars varsC : List (Nat × Str)} {sc scope scC : Scope} {is : List Nat}

theorem lc_core {elt target iter : Expr} {ifs : List Expr} {pos : Pos} {tgt : SA} {test : ST} {felt : SE} (S : LcShape vars varsC sc scope scC is) (ht : DenAL c k varsC scC target tgt) (hif : DenIfs c k varsC scC ifs test) (he : DenE c k varsC scC elt felt)
    {env : Env} {A : Around} {s : Shared} {F : Addr → Prop} {ρ : List Addr} {loc : Loc} {σ : Hp} {v : V} {x : Value} {ws rs : List V} {b : Option Nat} {σ₂ : Hp} {E : Value → Shared → Prop} {RR : Value → Addr → Result → Shared → Prop} {cl : List (Str × Addr)}
    (hs : env.scope = sc) (hA : AOk k A) (H : HInv c.lay F c.h₀ ρ σ s.heap) (I : FrI c.lay vars F ρ env loc s.heap) (r : VR c.lay F ρ s.heap v x) (hv : v.notS = true) (e1 : srcOf σ v = some (ws, b)) (hz : ws.length ≤ 1000000)
    (hcl1 : ∀ n a, cl.lookup n = some a → env.cells.lookup n = some a) (hcl2 : ∀ p ∈ scope.names, p.2 = .free → (cl.lookup p.1).isSome = true)
    (e2 : cmpL tgt test felt ws (clr is loc) (lend b σ) = some (rs, σ₂))
    (q : ∀ D C s' ρ', s.heap.get? C = none → (∃ m, s'.heap.Ns C m) → HInv c.lay (fun a => F a ∨ a = C) c.h₀ ρ' (giveBack b ws σ₂) s'.heap → Adv ρ σ s ρ' (giveBack b ws σ₂) s' NoW → FrI c.lay vars (fun a => F a ∨ a = C) ρ' env loc s'.heap → VR c.lay (fun a => F a ∨ a = C) ρ' s'.heap (.lst rs) (.ref D) → RR (.ref D) C (.ok .next) s') :
    wpAny (model c.prog c.w) A (pyIter x) (fun it s₂ => wpAny (model c.prog c.w) A (newList []) (fun acc s₃ =>
      wpAny (model c.prog c.w) A (newFunctionEnv scope env.globals cl [] env.qual none .none (some env)) (fun cenv s₄ =>
        codeAny (model c.prog c.w) A (.compStart (.ListComp elt [⟨target, iter, ifs, 0⟩] scope pos) 0 it acc { cenv with scope := relabel scope env }) (RR acc cenv.locals) s₄) E s₃) E s₂) E s := by
  refine src_ok (target := target) hA H r e1 fun Ia s₁ wr fp sf St T hsf hbor => ?_
  have hsf : sf = true := hsf (by cases v <;> first | rfl | cases hv)
  refine wpAny_newObj_type (wpAny_newFunctionEnv S.cell (by intro y hy; simp at hy) (fun h₂ hns hsb => ?_) S.kind)
  dsimp only at hns hsb ⊢
  simp only [List.reverse_nil, List.lookup_nil, Option.isSome_some, if_true] at hns hsb
  generalize hH2 : s₁.heap.push { cls := .type "list", dict := none, data := .seq ([] : List Value).toArray } = H2 at hns hsb ⊢
  have hCs : H2.objs.size = s₁.heap.objs.size + 1 := by rw [← hH2, Heap.size_push]
  generalize hDe : s₁.heap.objs.size = D at hCs ⊢
  generalize hCe : H2.objs.size = C at hCs hns hsb ⊢
  have nD1 : s₁.heap.get? D = none := hDe ▸ get_size_none s₁.heap
  have nC1 : s₁.heap.get? C = none := by
    cases e : s₁.heap.get? C with
    | none => rfl
    | some o => exact absurd (Heap.lt_size e) (by rw [hDe, hCs]; exact Nat.not_lt.mpr (Nat.le_succ _))
  have DC : D ≠ C := by rw [hCs]; exact (Nat.succ_ne_self D).symm
  have k12 : ∀ b o, s₁.heap.get? b = some o → H2.get? b = some o := fun b o e => hH2 ▸ Heap.get?_push_of_some _ e
  have k2h : ∀ b o, H2.get? b = some o → h₂.get? b = some o := fun b o e => hsb.extBut b o (fun z => by rw [z, ← hCe, get_size_none] at e; cases e) (Heap.get?_push_of_some _ e)
  have k1h : ∀ b o, s₁.heap.get? b = some o → h₂.get? b = some o := fun b o e => k2h b o (k12 b o e)
  have hD2 : h₂.PlainList D #[] := ⟨_, k2h D _ (by rw [← hH2, ← hDe]; exact Heap.get?_push_size _ rfl)⟩
  obtain ⟨nD, eD⟩ := id hD2
  obtain ⟨oC, _, _, eC, _⟩ := id hns
  have nDs : s.heap.get? D = none := by
    cases e : s.heap.get? D with
    | none => rfl
    | some o => have z := T.keep D o e; rw [nD1] at z; cases z
  have nCs : s.heap.get? C = none := by
    cases e : s.heap.get? C with
    | none => rfl
    | some o => have z := T.keep C o e; rw [nC1] at z; cases z
  have wr1 : ∀ b ∈ wr, ∃ o, s₁.heap.get? b = some o := fun b m => (T.new b m).2
  have nwrD : D ∉ wr := fun m => by obtain ⟨o, e⟩ := wr1 D m; rw [nD1] at e; cases e
  have nwrC : C ∉ wr := fun m => by obtain ⟨o, e⟩ := wr1 C m; rw [nC1] at e; cases e
  let Fb : Addr → Prop := fun a => F a ∨ a = D ∨ a = C
  have inFb : ∀ a, (Fb a ∨ a ∈ wr) → (F a ∨ a ∈ wr) ∨ (s₁.heap.get? a = none ∧ ∃ o, h₂.get? a = some o) := fun a f => by
    rcases f with (f | f | f) | f
    · exact .inl (.inl f)
    · exact .inr ⟨f ▸ nD1, f ▸ ⟨_, eD⟩⟩
    · exact .inr ⟨f ▸ nC1, f ▸ ⟨_, eC⟩⟩
    · exact .inl (.inr f)
  obtain ⟨H₂, G₂⟩ := T.inv.moreF (F' := fun a => Fb a ∨ a ∈ wr) (fun a f => f.imp .inl id) k1h inFb
  have Fs : ∀ a, F a → ∃ o, s.heap.get? a = some o := fun a f => (H.fr a f).2
  have hFw : ∀ a, Fb a → a ∉ wr := fun a f m => by
    rcases f with f | rfl | rfl
    · obtain ⟨o, e⟩ := Fs a f; rw [(T.new a m).1] at e; cases e
    · exact nwrD m
    · exact nwrC m
  have fpE : ∀ b ∈ fp, ∃ o, s₁.heap.get? b = some o := fun b m => (T.fp b m).2.2
  have fpD : ∀ b ∈ fp, b ≠ D := fun b m z => by obtain ⟨o, e⟩ := fpE b m; rw [z, nD1] at e; cases e
  have fpC : ∀ b ∈ fp, b ≠ C := fun b m z => by obtain ⟨o, e⟩ := fpE b m; rw [z, nC1] at e; cases e
  have T' : ItStart c A Fb ρ (lend b σ) target ws s { s₁ with heap := h₂, toks := s₁.toks + ([] : List (Str × Value)).length } Ia wr fp sf St := by
    refine ⟨T.it, ?_, H₂, fun b m => ⟨(T.new b m).1, let ⟨o, e⟩ := wr1 b m; ⟨o, k1h b o e⟩⟩, fun b m => ⟨(T.fp b m).1, fun f => ?_, let ⟨o, e⟩ := fpE b m; ⟨o, k1h b o e⟩⟩, fun b o e => k1h b o (T.keep b o e), T.gens, T.drawn, T.os, ?_⟩
    · exact T.it.frame _ _ _ _ _ _ _ T.st G₂ fun b _ o e => k1h b o e
    · rcases f with f | f | f
      · exact (T.fp b m).2.1 f
      · exact fpD b m f
      · exact fpC b m f
    · exact ⟨fun b o fr e => k1h b o (T.keep b o e), fun b o fr e => ⟨fun f => f.elim fr.1 fun m => (by rw [(T.new b m).1] at e; cases e), fr.2⟩, fun _ _ e => e⟩
  have I₁ : FrI c.lay vars (fun a => F a ∨ a ∈ wr) ρ env loc s₁.heap := I.moreF (fun a f => .inl f) T.keep T.grow
  have I₂ : FrI c.lay vars (fun a => Fb a ∨ a ∈ wr) ρ env loc h₂ := I₁.moreF (fun a f => f.imp .inl id) k1h G₂
  have ownE : ∀ a, OwnW env a → F a ∧ a ≠ D ∧ a ≠ C ∧ a ∉ wr := fun a w => by
    have f := I.ownF a w
    obtain ⟨o, e⟩ := Fs a f
    exact ⟨f, (fun z => by rw [z, nDs] at e; cases e), (fun z => by rw [z, nCs] at e; cases e), hFw a (.inl f)⟩
  let cenv : Env := { scope := relabel scope env, locals := C, globals := env.globals, cells := cl, qual := env.qual, func := none, code := env.code, frame := env.frame, builtins := env.builtins }
  have cS : cenv.scope = scC := S.rel env hs
  have cK : ∀ y, cenv.kindOf y = scC.names.lookup y := fun y => by rw [Env.kindOf, cS]
  have ownC : ∀ a, OwnW cenv a → a = C ∨ OwnW env a := fun a w => by
    rcases w with w | ⟨y, hy⟩
    · exact .inl w
    · exact .inr (.inr ⟨y, hcl1 y a hy⟩)
  have IC : FrI c.lay varsC (fun a => Fb a ∨ a ∈ wr) ρ cenv (clr is loc) h₂ := by
    refine ⟨S.vok, ?_, I.glob, I.bi, ⟨_, hns⟩, .inl (.inr (.inr rfl)), fun y a hy => ?_, fun y z a hy hz => I.cellsNe y z a (hcl1 y a hy) (hcl1 z a hz), fun i y hy => ?_, fun i y u hy hu => ?_⟩
    · show (relabel scope env).kind = _; exact S.kind
    · obtain ⟨a1, a2, w, a3⟩ := I₂.cellsF y a (hcl1 y a hy)
      exact ⟨a1, (ownE a (.inr ⟨y, hcl1 y a hy⟩)).2.2.1, w, a3⟩
    · rw [cK]
      rcases S.vC _ hy with ⟨a1, _⟩ | ⟨a1, a2, a3, _⟩
      · exact .inl a1
      · exact .inr ⟨a1, Option.isSome_iff_exists.mp (hcl2 _ a3 rfl)⟩
    · obtain ⟨hu', hni⟩ := clr_get is loc hu
      rcases S.vC _ hy with ⟨a1, a2⟩ | ⟨a1, a2, a3, a4⟩
      · exact absurd a2 hni
      · obtain ⟨z, hz, rz⟩ := I₂.vals i y u a2 hu'
        refine ⟨z, .inr ⟨(cK y).trans a1, ?_⟩, rz⟩
        rcases hz with ⟨k1, _⟩ | ⟨_, ca, k2, k3⟩
        · rw [Env.kindOf, hs, a4] at k1; cases k1
        · obtain ⟨ca', hca'⟩ := Option.isSome_iff_exists.mp (hcl2 _ a3 rfl)
          have := (hcl1 y ca' hca').symm.trans k2
          cases this
          exact ⟨ca, hca', k3⟩
  have loop : codeAny (model c.prog c.w) A (.compLoop (.ListComp elt [⟨target, iter, ifs, 0⟩] scope pos) 0 (.ref Ia) (.ref D) cenv) (RR (.ref D) C) { s₁ with heap := h₂, toks := s₁.toks + ([] : List (Str × Value)).length } := by
    refine cmp_go (C := C) T'.it (fun b m => .inr m) ht hif he cS rfl hA H₂ IC T'.st (.inl (.inr (.inl rfl))) DC nwrD (fun w => (ownC D w).elim DC fun w => (ownE D w).2.1 rfl) hD2
      (fun b m => ⟨(T'.fp b m).1, fun w => (ownC b w).elim (fpC b m) fun w => (T.fp b m).2.1 (ownE b w).1, fpD b m, (T'.fp b m).2.2⟩) hz e2 fun s₂ ρ' ys h' tk H₃ A₃ pl vr hn hk => ?_
    have hWF : ∀ b, (b = C ∨ b = D) → Fb b := fun b w => w.elim (fun z => .inr (.inr z)) fun z => .inr (.inl z)
    obtain ⟨H₄, A₄, G₄⟩ := loop_end (tk := tk) hFw T' (fun n h => let ⟨a, it, x1, x2, x3, x4⟩ := hbor n h; ⟨a, it, x1, x2, (x3.grow T.grow).grow G₂, x4⟩) (srcOf_alive e1) H₃ A₃ hWF hk
    have less : ∀ a, (F a ∨ a = C) → Fb a := fun a f => f.imp id .inr
    have GL : Grow Fb ρ' h' (fun a => F a ∨ a = C) ρ' h' := Grow.lessF less
    have A₅ : Adv ρ σ s ρ' (giveBack b ws σ₂) { s₂ with heap := h', toks := tk } NoW := ⟨A₄.tl, A₄.live, fun a o e nl _ => A₄.keep a o e nl (fun w => w.elim (fun z => by rw [z, nCs] at e; cases e) (fun z => by rw [z, nDs] at e; cases e)), A₄.there, A₄.gens, A₄.drawn, A₄.os⟩
    have I₃ : FrI c.lay vars (fun a => Fb a ∨ a ∈ wr) ρ' env loc s₂.heap := I₂.chg (s := { s₁ with heap := h₂, toks := s₁.toks + ([] : List (Str × Value)).length }) H₂ A₃ (fun b w => w.elim (fun z => .inl (hWF b z)) .inr) fun b ob w => by
      obtain ⟨_, o2, o3, o4⟩ := ownE b ob
      exact w.elim (fun w => w.elim o3 o2) o4
    have I₄ : FrI c.lay vars Fb ρ' env loc h' := I₃.dropWr (fun b w => ⟨.inl (ownE b w).1, (ownE b w).2.2.2⟩) hk G₄
    have I₅ : FrI c.lay vars (fun a => F a ∨ a = C) ρ' env loc h' := I₄.dropWr (wr := []) (fun b w => ⟨.inl (ownE b w).1, by simp⟩) (fun _ _ _ e => e) GL
    obtain ⟨n', hD'⟩ := id pl
    have hDh : h'.get? D = some _ := hk D _ nwrD hD'
    refine q D C _ ρ' nCs ?_ (H₄.lessF less) A₅ I₅ (.lst ⟨fun f => ?_, fun m => (H₄.own D m).1 (.inr (.inl rfl))⟩ ⟨n', hDh⟩ ((vr.grow G₄).grow GL))
    · obtain ⟨m, o, es, ep, e, z⟩ := hn
      exact ⟨m, o, es, ep, hk C _ nwrC e, z⟩
    · rcases f with f | f
      · obtain ⟨o, e⟩ := Fs D f; rw [nDs] at e; cases e
      · exact DC f
  exact codeAny_compStart_list loop (T.it.self hsf _ _ ρ _ _ T'.st loop)

theorem drop_C {lay : Addr → List Str} {F : Addr → Prop} {h₀ : Heap} {ρ ρ' : List Addr} {σ σ' : Hp} {s s' : Shared} {C : Addr} {h' : Heap} {tk : Nat} {W : Addr → Prop} (hF : ¬ F C) (H : HInv lay (fun a => F a ∨ a = C) h₀ ρ' σ' s'.heap) (A : Adv ρ σ s ρ' σ' s' W) (hn : s.heap.get? C = none) (hs : Heap.SameBut C s'.heap h') :
    HInv lay F h₀ ρ' σ' h' ∧ Adv ρ σ s ρ' σ' { s' with heap := h', toks := tk } W ∧ Grow (fun a => F a ∨ a = C) ρ' s'.heap F ρ' h' := by
  have kp : ∀ b o, b ∉ [C] → s'.heap.get? b = some o → h'.get? b = some o := fun b o nb e => (hs.2 b (fun z => nb (by rw [z]; exact List.mem_singleton.mpr rfl))).trans e
  have nC : ∀ b o, s.heap.get? b = some o → b ∉ [C] := fun b o e m => by rw [List.mem_singleton.mp m, hn] at e; cases e
  obtain ⟨H', G⟩ := H.dropWr (F := F) (wr := [C]) (h' := h') (fun a f => ⟨.inl f, fun m => hF (by rw [← List.mem_singleton.mp m]; exact f)⟩) (fun b m => .inr (List.mem_singleton.mp m)) kp
  exact ⟨H', ⟨A.tl, A.live, fun b o e nl nw => kp b o (nC b o e) (A.keep b o e nl nw), fun b o e => let ⟨o', e'⟩ := A.there b o e; ⟨o', kp b o' (nC b o e) e'⟩, A.gens, A.drawn, A.os⟩, G⟩

theorem lc_closure (S : LcShape vars varsC sc scope scC is) {env : Env} {F : Addr → Prop} {ρ : List Addr} {loc : Loc} {h : Heap} (hs : env.scope = sc) (I : FrI c.lay vars F ρ env loc h) :
    ∃ cl, closureFor scope env = pure cl ∧ (∀ n a, cl.lookup n = some a → env.cells.lookup n = some a) ∧ ∀ p ∈ scope.names, p.2 = .free → (cl.lookup p.1).isSome = true := by
  refine closureFor_of fun p hp hf => ?_
  obtain ⟨i, hi, hk⟩ := S.free p hp hf
  rcases I.kinds i p.1 hi with z | ⟨_, z⟩
  · rw [Env.kindOf, hs, hk] at z; cases z
  · exact z

theorem den_lc {elt target iter : Expr} {ifs : List Expr} {pos : Pos} {tgt : SA} {test : ST} {felt fi : SE} (S : LcShape vars varsC sc scope scC is) (hi : DenE c k vars sc iter fi) (ht : DenAL c k varsC scC target tgt) (hif : DenIfs c k varsC scC ifs test) (he : DenE c k varsC scC elt felt)
    (hfs : ∀ (env : Env) (x : Value), foldedSetIterable iter env x = pure x) : DenE c k vars sc (.ListComp elt [⟨target, iter, ifs, 0⟩] scope pos) (cmpE is tgt test felt fi) := by
  intro env A s F ρ loc σ v σ' Q E hs hA H I e q
  unfold cmpE at e
  split at e
  · rename_i v₁ σ₁ e1
    split at e
    · rename_i hv
      split at e
      · rename_i ws b e2
        split at e
        · rename_i hz
          split at e
          · rename_i rs σ₂ e3
            cases e
            obtain ⟨cl, hcl, hcl1, hcl2⟩ := lc_closure S hs I
            rw [eval_ListComp]
            refine wpAny_comprehension_free (g := ⟨target, iter, ifs, 0⟩) (gs := []) rfl (hfs env) hcl S.kind S.names ?_
            refine hi env A s F ρ loc σ v₁ σ₁ _ _ hs hA H I e1 fun x s₁ ρ₁ H₁ A₁ r₁ => ?_
            refine lc_core S ht hif he hs hA H₁ (I.adv H A₁) r₁ hv e2 (Nat.le_of_ble_eq_true hz) hcl1 hcl2 e3 fun D C s₂ ρ₂ nC hn H₂ A₂ I₂ r₂ => ?_
            obtain ⟨m, hn⟩ := hn
            have nF : ¬ F C := fun f => by obtain ⟨_, o, e⟩ := H₁.fr C f; rw [nC] at e; cases e
            refine ⟨m, hn, fun h' hs' => ?_⟩
            obtain ⟨H₃, A₃, G₃⟩ := drop_C (tk := s₂.toks) nF H₂ A₂ nC hs'
            exact q _ _ ρ₂ H₃ (A₁.trans H.len H₁.len A₃) (r₂.grow G₃)
          · cases e
        · cases e
      · cases e
    · cases e
  · cases e

theorem den_asgLc {i : Nat} {y : Str} {py spos : Pos} {elt target iter : Expr} {ifs : List Expr} {pos : Pos} {tgt : SA} {test : ST} {felt fi : SE} (S : LcShape vars varsC sc scope scC is) (hi : DenE c k vars sc iter fi) (ht : DenAL c k varsC scC target tgt) (hif : DenIfs c k varsC scC ifs test) (he : DenE c k varsC scC elt felt)
    (hfs : ∀ (env : Env) (x : Value), foldedSetIterable iter env x = pure x) (hm : (i, y) ∈ vars)
    (hsw : ∀ env : Env, env.scope = sc → swapsWith (.ListComp elt [⟨target, iter, ifs, 0⟩] scope pos) (some (.Name y py)) spos.line env = pure true) :
    DenS c k vars sc (.Assign [.Name y py] (.ListComp elt [⟨target, iter, ifs, 0⟩] scope pos) spos) (asgS i (cmpE is tgt test felt fi)) := by
  intro env A s F ρ loc σ fl loc' σ' Q E hs hA H I e q
  unfold asgS at e
  split at e
  · rename_i w σ₀ e0
    split at e
    · rename_i hil
      cases e
      unfold cmpE at e0
      split at e0
      · rename_i v₁ σ₁ e1
        split at e0
        · rename_i hv
          split at e0
          · rename_i ws b e2
            split at e0
            · rename_i hz
              split at e0
              · rename_i rs σ₂ e3
                cases e0
                obtain ⟨cl, hcl, hcl1, hcl2⟩ := lc_closure S hs I
                rw [exec_Assign_Name_used _ _ _ _ (hsw env hs)]
                refine wpAny_bind (wpAny_standAt (wpAny_bind ?_))
                show wpAny _ A (do let _ ← comprehension (.ListComp elt [⟨target, iter, ifs, 0⟩] scope pos) scope env _ (newList []) false (eval iter env) (some (assign (.Name y py) env))) _ _ s
                refine wpAny_bind (wpAny_mono (wpAny_comprehension_free (Q := fun _ s' => Q .next s') (g := ⟨target, iter, ifs, 0⟩) (gs := []) rfl (hfs env) hcl S.kind S.names ?_) (fun _ s' hq => wpAny_pure (wpAny_pure hq)) fun _ _ e => e)
                refine hi env A s F ρ loc σ v₁ σ₁ _ _ hs hA H I e1 fun x s₁ ρ₁ H₁ A₁ r₁ => ?_
                refine lc_core S ht hif he hs hA H₁ (I.adv H A₁) r₁ hv e2 (Nat.le_of_ble_eq_true hz) hcl1 hcl2 e3 fun D C s₂ ρ₂ nC hn H₂ A₂ I₂ r₂ => ?_
                obtain ⟨m, hn⟩ := hn
                have nF : ¬ F C := fun f => by obtain ⟨_, o, e⟩ := H₁.fr C f; rw [nC] at e; cases e
                have I₁ := I.adv H A₁
                have ownC : ∀ a, OwnW env a → a ≠ C := fun a w z => nF (z ▸ I₁.ownF a w)
                refine wpAny_assign_Name (store_var H₂ I₂ hm hil r₂ fun s₃ H₃ I₃ A₃ => ?_)
                have hn₃ : s₃.heap.Ns C m := by
                  obtain ⟨o, es, ep, e, z⟩ := hn
                  refine ⟨o, es, ep, A₃.keep C o e (fun l => (H₂.own C l.mem).1 (.inr rfl)) (fun w => ownC C w rfl), z⟩
                refine ⟨m, hn₃, fun h' hs' => ?_⟩
                have A23 : Adv ρ₁ σ₁ s₁ ρ₂ (giveBack b ws σ₂) s₃ (OwnW env) := A₂.ofE.trans H₁.len H₂.len A₃
                obtain ⟨H₄, A₄, G₄⟩ := drop_C (tk := s₃.toks) nF H₃ A23 nC hs'
                refine q .next _ ρ₂ H₄ (I₃.dropWr (wr := [C]) (fun a w => ⟨I₁.ownF a w, fun z => ownC a w (List.mem_singleton.mp z)⟩) (fun b o nb e => (hs'.2 b (fun z => nb (by rw [z]; exact List.mem_singleton.mpr rfl))).trans e) G₄) (A₁.ofE.trans H.len H₁.len A₄) .next
              · cases e0
            · cases e0
          · cases e0
        · cases e0
      · cases e0
    · cases e
  · cases e
end
end Mine
namespace Mine
open PySem PySem.Spec PySem.Calls PyProof.Rows PySem.W

noncomputable def int2 (g : Int → Int → Option V) : SF := fun vs σ => match vs with
  | [.int a, .int b] => (match g a b with | some v => some (v, σ) | none => none)
  | _ => none
noncomputable def okI (a : Int) : Bool := decide (a.natAbs < 1000000000)
noncomputable def addI (a b : Int) : Option V := some (.int (a + b))
noncomputable def subI (a b : Int) : Option V := some (.int (a - b))
noncomputable def mulI (a b : Int) : Option V := if okI a then some (.int (a * b)) else none
noncomputable def divI (a b : Int) : Option V := if okI b && b != 0 then some (.int (a.fdiv b)) else none
noncomputable def modI (a b : Int) : Option V := if b != 0 then some (.int (a.fmod b)) else none
noncomputable def ltI (a b : Int) : Option V := some (.bool (decide (a < b)))
noncomputable def leI (a b : Int) : Option V := some (.bool (decide (a ≤ b)))
noncomputable def gtI (a b : Int) : Option V := some (.bool (decide (a > b)))
noncomputable def geI (a b : Int) : Option V := some (.bool (decide (a ≥ b)))

section
variable {c : Cx} {k : Nat}
theorem fn_int2 {t : Value → Value → Sem Value} {g : Int → Int → Option V}
    (h : ∀ (A : Around) (s : Shared) (Q E : Value → Shared → Prop) (a b : Int) (ta tb : Tok) (v : V), g a b = some v → (∀ z tk, (∀ F ρ h, VR c.lay F ρ h v z) → Q z { s with toks := tk }) → wpAny (model c.prog c.w) A (t (.int a ta) (.int b tb)) Q E s) : FnOk c k (two t) (int2 g) := by
  intro A s F ρ σ vs xs v σ' Q E hA H r e q
  unfold int2 at e
  split at e
  · rename_i a b
    split at e
    · rename_i v' e1
      cases e
      cases r with
      | cons r1 r => cases r with
        | cons r2 r =>
          cases r1; cases r2
          exact h A s Q E a b _ _ v e1 fun z tk hz => q z _ ρ H .toks (hz _ _ _)
    · cases e
  · cases e
theorem fn_add : FnOk c k (two (binaryOp .Add)) (int2 addI) := fn_int2 fun A s Q E a b ta tb v e q => by cases e; exact PyProof.Rows.add_int (q _ _ fun _ _ _ => .int)
theorem fn_sub : FnOk c k (two (binaryOp .Sub)) (int2 subI) := fn_int2 fun A s Q E a b ta tb v e q => by cases e; exact PyProof.Rows.sub_int (q _ _ fun _ _ _ => .int)
theorem okI_bits {a : Int} (h : okI a = true) : Builtin.Int.intBits a ≤ 64 := by
  have h := of_decide_eq_true h
  unfold Builtin.Int.intBits
  split
  · omega
  · have : a.natAbs.log2 < 64 := by
      rcases Nat.eq_zero_or_pos a.natAbs with z | z
      · rw [z]; decide
      · exact (Nat.log2_lt (by omega)).mpr (by omega)
    omega
theorem fn_mul : FnOk c k (two (binaryOp .Mult)) (int2 mulI) := fn_int2 fun A s Q E a b ta tb v e q => by
  unfold mulI at e
  split at e
  · rename_i h; cases e; exact PyProof.Rows.mul_int (q _ _ fun _ _ _ => .int) (IntMulOk.of_left (okI_bits h))
  · cases e
theorem fn_div : FnOk c k (two (binaryOp .FloorDiv)) (int2 divI) := fn_int2 fun A s Q E a b ta tb v e q => by
  unfold divI at e
  split at e
  · rename_i h
    obtain ⟨h1, h2⟩ := Bool.and_eq_true_iff.mp h
    cases e
    have h1 := of_decide_eq_true h1
    exact PyProof.Rows.floordiv_int (bne_iff_ne.mp h2) (q _ _ fun _ _ _ => .int) (.inl (PyProof.noPylong_small (by omega)))
  · cases e
theorem fn_mod : FnOk c k (two (binaryOp .Mod)) (int2 modI) := fn_int2 fun A s Q E a b ta tb v e q => by
  unfold modI at e
  split at e
  · rename_i h; cases e; exact PyProof.Rows.mod_int (bne_iff_ne.mp h) (q _ _ fun _ _ _ => .int)
  · cases e
theorem fn_lt : FnOk c k (two (compareOp .Lt)) (int2 ltI) := fn_int2 fun A s Q E a b ta tb v e q => by cases e; exact PyProof.Rows.lt_int (q _ s.toks fun _ _ _ => .bool)
theorem fn_le : FnOk c k (two (compareOp .LtE)) (int2 leI) := fn_int2 fun A s Q E a b ta tb v e q => by cases e; exact PyProof.Rows.le_int (q _ s.toks fun _ _ _ => .bool)
theorem fn_gt : FnOk c k (two (compareOp .Gt)) (int2 gtI) := fn_int2 fun A s Q E a b ta tb v e q => by cases e; exact PyProof.Rows.gt_int (q _ s.toks fun _ _ _ => .bool)
theorem fn_ge : FnOk c k (two (compareOp .GtE)) (int2 geI) := fn_int2 fun A s Q E a b ta tb v e q => by cases e; exact PyProof.Rows.ge_int (q _ s.toks fun _ _ _ => .bool)
noncomputable def smax : Nat := 1000000
noncomputable def addS : SF := fun vs σ => match vs with
  | [.str a, .str b] => if Nat.ble (a.length + b.length) smax then some (.str (a ++ b), σ) else none
  | _ => none
theorem fn_addS : FnOk c k (two (binaryOp .Add)) addS := by
  intro A s F ρ σ vs xs v σ' Q E hA H r e q
  unfold addS at e
  split at e
  · split at e
    · rename_i hz
      cases e
      have hz := Nat.le_of_ble_eq_true hz
      cases r with
      | cons r1 r => cases r with
        | cons r2 r =>
          cases r1; cases r2
          exact PyProof.Rows.add_str (fun t' tk => q _ _ ρ H .toks .str) (by rw [sizeLine_eq]; unfold smax at hz; omega)
    · cases e
  · cases e
noncomputable def mulS : SF := fun vs σ => match vs with
  | [.str a, .int n] => if Nat.ble a.length 1000 && decide (-1000 < n) && decide (n < 1000) then some (.str (Txt.mul a n), σ) else none
  | _ => none
theorem fn_mulS : FnOk c k (two (binaryOp .Mult)) mulS := by
  intro A s F ρ σ vs xs v σ' Q E hA H r e q
  unfold mulS at e
  split at e
  · rename_i a n
    split at e
    · rename_i hz
      obtain ⟨h1, h2⟩ := Bool.and_eq_true_iff.mp hz
      obtain ⟨h0, h1⟩ := Bool.and_eq_true_iff.mp h1
      have h0 := Nat.le_of_ble_eq_true h0
      have h1 := of_decide_eq_true h1
      have h2 := of_decide_eq_true h2
      cases e
      cases r with
      | cons r1 r => cases r with
        | cons r2 r =>
          cases r1; cases r2
          refine SB.mul ⟨?_, fun hn _ => ?_, fun hn _ => ?_⟩ fun t' tk => q _ _ ρ H .toks .str
          · have a1 : ¬ n < -(2 ^ 63 : Int) := by omega
            have a2 : ¬ n ≥ 2 ^ 63 := by omega
            rw [decide_eq_false a1, decide_eq_false a2]; rfl
          · have : (2 ^ 63 - 1 : Int) / n ≥ 1000 := by
              refine Int.le_ediv_of_mul_le (by omega) ?_
              omega
            omega
          · have hb : a.length * n.toNat ≤ 1000 * 1000 := Nat.mul_le_mul h0 (by omega)
            exact decide_eq_false (by rw [sizeLine_eq]; omega)
    · cases e
  · cases e
mutual
noncomputable def V.data : V → Option PyData
  | .none => some .none
  | .bool b => some (.bool b)
  | .int i => some (.int i)
  | .str s => if PySem.PyData.strOk s then some (.str s) else Option.none
  | .tup vs => match V.datas vs with | some ds => some (.tuple ds) | Option.none => Option.none
  | .lst vs => match V.datas vs with | some ds => some (.list ds) | Option.none => Option.none
  | _ => Option.none
noncomputable def V.datas : List V → Option (List PyData)
  | [] => some []
  | v :: vs => match V.data v, V.datas vs with
    | some d, some ds => some (d :: ds)
    | _, _ => Option.none
end
mutual
theorem reads_of {lay : Addr → List Str} {F : Addr → Prop} {ρ : List Addr} {h : Heap} : ∀ (v : V) {x : Value} {d : PyData}, VR lay F ρ h v x → v.data = some d → (∃ as, Reads h x d as) ∧ d.canLay0 = true
  | .none, _, _, r, e => by cases e; cases r; exact ⟨⟨_, .none⟩, rfl⟩
  | .bool b, _, _, r, e => by cases e; cases r; exact ⟨⟨_, .bool b⟩, rfl⟩
  | .int i, _, _, r, e => by cases e; cases r; exact ⟨⟨_, .int i _⟩, rfl⟩
  | .str s, _, _, r, e => by
    simp only [V.data] at e
    split at e
    · rename_i hs; cases e; cases r; exact ⟨⟨_, .str s _⟩, hs⟩
    · cases e
  | .tup vs, _, _, r, e => by
    simp only [V.data] at e
    split at e
    · rename_i ds e1
      cases e
      cases r with
      | tup fr ht rs =>
        obtain ⟨⟨as, ra⟩, hl⟩ := reads_all vs rs e1
        obtain ⟨o, h1, h2, n, h3⟩ := ht
        exact ⟨⟨_, .tuple h1 h2 h3 ra⟩, hl⟩
    · cases e
  | .lst vs, _, _, r, e => by
    simp only [V.data] at e
    split at e
    · rename_i ds e1
      cases e
      cases r with
      | lst fr ht rs =>
        obtain ⟨⟨as, ra⟩, hl⟩ := reads_all vs rs e1
        obtain ⟨n, h1⟩ := ht
        exact ⟨⟨_, .list h1 rfl rfl ra⟩, hl⟩
    · cases e
  | .g _, _, _, _, e => by cases e
  | .obj _ _, _, _, _, e => by cases e
  | .inst _ _, _, _, _, e => by cases e
  | .ref _, _, _, _, e => by cases e
  | .rng _ _, _, _, _, e => by cases e
  | .edict, _, _, _, e => by cases e
theorem reads_all {lay : Addr → List Str} {F : Addr → Prop} {ρ : List Addr} {h : Heap} : ∀ (vs : List V) {xs : List Value} {ds : List PyData}, VRs lay F ρ h vs xs → V.datas vs = some ds → (∃ as, ReadsAll h xs ds as) ∧ PyData.canLayAll0 ds = true
  | [], _, _, r, e => by cases e; cases r; exact ⟨⟨_, .nil⟩, rfl⟩
  | v :: vs, _, _, r, e => by
    simp only [V.datas] at e
    split at e
    · rename_i d ds e1 e2
      cases e
      cases r with
      | cons r1 r2 =>
        obtain ⟨⟨as, ra⟩, hl⟩ := reads_of v r1 e1
        obtain ⟨⟨bs, rb⟩, hl2⟩ := reads_all vs r2 e2
        exact ⟨⟨_, .cons ra rb⟩, by simp [PyData.canLayAll0, hl, hl2]⟩
    · cases e
end
noncomputable def eqF (neg : Bool) : SF := fun vs σ => match vs with
  | [.str a, .str b] => some (.bool (neg != (a == b)), σ)
  | [a, b] => (match a.data, b.data with
    | some da, some db => if Nat.ble (min da.depth db.depth) 30 then some (.bool (neg != PyData.eqv da db), σ) else none
    | _, _ => none)
  | _ => none
theorem fn_eq : FnOk c (k + 1) (two (compareOp .Eq)) (eqF false) := by
  intro A s F ρ σ vs xs v σ' Q E hA H r e q
  unfold eqF at e
  split at e
  · cases e
    cases r with
    | cons r1 r => cases r with
      | cons r2 r =>
        cases r1; cases r2
        exact PyProof.Rows.eq_str (by have := q _ s ρ H .refl .bool; simpa only [Bool.false_bne] using this)
  · split at e
    · rename_i da db ea eb
      split at e
      · rename_i hz
        cases e
        cases r with
        | cons r1 r => cases r with
          | cons r2 r =>
            obtain ⟨⟨as, ra⟩, hla⟩ := reads_of _ r1 ea
            obtain ⟨⟨bs, rb⟩, hlb⟩ := reads_of _ r2 eb
            have hu := hA.2.2.1
            have hz := Nat.le_of_ble_eq_true hz
            refine PySem.SeqAt.compareEq_reads ra rb hla hlb (by omega) ?_
            have := q (.bool (PyData.eqv da db)) s ρ H .refl
            simp only [Bool.false_bne] at this
            exact this .bool
      · cases e
    · cases e
  · cases e
theorem fn_ne : FnOk c (k + 1) (two (compareOp .NotEq)) (eqF true) := by
  intro A s F ρ σ vs xs v σ' Q E hA H r e q
  unfold eqF at e
  split at e
  · cases e
    cases r with
    | cons r1 r => cases r with
      | cons r2 r =>
        cases r1; cases r2
        exact PyProof.Rows.ne_str (by have := q _ s ρ H .refl .bool; simp only [Bool.true_bne] at this; exact this)
  · split at e
    · rename_i da db ea eb
      split at e
      · rename_i hz
        cases e
        cases r with
        | cons r1 r => cases r with
          | cons r2 r =>
            obtain ⟨⟨as, ra⟩, hla⟩ := reads_of _ r1 ea
            obtain ⟨⟨bs, rb⟩, hlb⟩ := reads_of _ r2 eb
            have hu := hA.2.2.1
            have hz := Nat.le_of_ble_eq_true hz
            refine PySem.SeqAt.compareNe_reads ra rb hla hlb (by omega) ?_
            have := q (.bool (!PyData.eqv da db)) s ρ H .refl
            simp only [Bool.true_bne] at this
            exact this .bool
      · cases e
    · cases e
  · cases e
end
end Mine
namespace Mine
open PySem PySem.Spec PySem.Calls PyProof.Rows PySem.W

noncomputable def lstOf (σ : Hp) : V → Option (List V)
  | .lst vs => some vs
  | .ref n => match σ[n]? with
    | some (.lst vs) => some vs
    | _ => none
  | _ => none
theorem list_at {lay : Addr → List Str} {F : Addr → Prop} {h₀ : Heap} {ρ : List Addr} {σ : Hp} {h : Heap} (H : HInv lay F h₀ ρ σ h) {v : V} {x : Value} {vs : List V} (r : VR lay F ρ h v x) (e : lstOf σ v = some vs) :
    ∃ a items, x = .ref a ∧ h.PlainList a items ∧ VRs lay F ρ h vs items.toList := by
  cases r with
  | lst fr ht rs => cases e; exact ⟨_, _, rfl, ht, rs⟩
  | ref hn =>
    simp only [lstOf] at e
    split at e
    · rename_i vs' es
      cases e
      obtain ⟨items, hi, rs⟩ := H.objs _ _ _ es hn
      exact ⟨_, items, rfl, hi, rs⟩
    · cases e
  | _ => cases e

noncomputable def ixOf (i : Int) (n : Nat) : Option Nat := if decide (0 ≤ i) then (if decide (i < n) then some i.toNat else none) else if decide (0 ≤ i + n) then some (i + n).toNat else none
noncomputable def idxF : SF := fun vs σ => match vs with
  | [v, .int i] => if okI i then (match v with
    | .tup ws => (match ixOf i ws.length with
      | some j => (match ws[j]? with | some w => some (w, σ) | none => none)
      | none => none)
    | v => (match lstOf σ v with
      | some ws => (match ixOf i ws.length with
        | some j => (match ws[j]? with | some w => some (w, σ) | none => none)
        | none => none)
      | none => none)) else none
  | _ => none

section
variable {c : Cx} {k : Nat} {vars : List (Nat × Str)} {sc : Scope}

theorem list_get {prog : Program} {w : World} {A : Around} {E Q : Value → Shared → Prop} {s : Shared} {a : Addr} {items : Array Value} {i : Int} {t : Tok} {j : Nat} {x : Value} (hl : s.heap.IsList a items) (hi : okI i = true) (hj : ixOf i items.size = some j) (hx : items[j]? = some x) (q : Q x s) : wpAny (model prog w) A (getItem (.ref a) (.int i t)) Q E s := by
  have hi := of_decide_eq_true hi
  unfold ixOf at hj
  split at hj
  · rename_i h0
    have h0 := of_decide_eq_true h0
    split at hj
    · cases hj; exact wpAny_getItem_list hl h0 (by omega) hx q
    · cases hj
  · rename_i h0
    have h0 : ¬ 0 ≤ i := fun z => h0 (decide_eq_true z)
    split at hj
    · rename_i h1
      have h1 := of_decide_eq_true h1
      cases hj
      exact wpAny_getItem_list_neg hl (by omega) (by omega) (by omega) hx q
    · cases hj
theorem seqIx_of {i : Int} {n j : Nat} (h : ixOf i n = some j) : seqIndex? i n = some j := by
  unfold ixOf at h
  unfold seqIndex?
  split at h
  · rename_i h0
    have h0 := of_decide_eq_true h0
    split at h
    · rename_i h1
      have h1 := of_decide_eq_true h1
      cases h
      simp only [show ¬ i < 0 by omega, if_false]
      first
        | (rw [if_pos (by omega)])
        | (rw [if_neg (by omega)])
        | simp [h0, h1]
    · cases h
  · rename_i h0
    have h0 : ¬ 0 ≤ i := fun z => h0 (decide_eq_true z)
    split at h
    · rename_i h1
      have h1 := of_decide_eq_true h1
      cases h
      simp only [show i < 0 by omega, if_true]
      first
        | (rw [if_pos (by omega)])
        | (rw [if_neg (by omega)])
        | (simp [h1]; omega)
    · cases h

theorem sub_tail {prog : Program} {w : World} {A : Around} {E Q : Value → Shared → Prop} {s : Shared} {value slice : Expr} {o i : Value} {T id : String} {ops : List Value} (hT : s.TypeIs o T) (hl : typeLookup (.type T) "__getitem__" = pure (some (.builtin id))) (h : wpAny (model prog w) A (getItem o i) Q E s)
    (hs : subscripted slice false o i = operate ops (getItem o i)) : wpAny (model prog w) A (subscriptTail value slice o i) Q E s := by
  unfold subscriptTail
  refine wpAny_bind ?_
  rw [getitemInPython_of_ne hT.not_modules]
  refine wpAny_bind (wpAny_specialOf hT hl ?_)
  have fin : wpAny (model prog w) A (subscripted slice false o i) (fun r s₃ => wpAny (model prog w) A (letTemporaryGo value o r >>= fun _ => pure r) Q E s₃) E s := by
    rw [hs]
    exact wpAny_operating (wpAny_mono h (fun r s₃ h₃ => wpAny_bind (wpAny_letTemporaryGo (wpAny_pure h₃))) fun _ _ x => x)
  first
    | exact wpAny_pure (wpAny_bind fin)
    | exact wpAny_bind (wpAny_pure (wpAny_bind fin))
    | exact wpAny_bind fin

theorem fn_idx {value slice : Expr} (hs : ∀ o i, subscripted slice false o i = operate [o, i] (getItem o i)) : FnOk c k (two (subscriptTail value slice)) idxF := by
  intro A s F ρ σ vs xs v σ' Q E hA H r e q
  unfold idxF at e
  split at e
  · rename_i v₀ i
    split at e
    · rename_i hi
      cases r with
      | cons r1 r => cases r with
        | cons r2 r =>
          cases r2
          split at e
          · rename_i ws
            split at e
            · rename_i j hj
              split at e
              · rename_i w hw
                cases e
                cases r1 with
                | @tup _ a items fr ht rs =>
                  obtain ⟨y, hy, ry⟩ := rs.get j hw
                  have hy' : items[j]? = some y := by simpa using hy
                  have hj' : seqIndex? i items.size = some j := seqIx_of (by rw [← hj, rs.length]; simp)
                  have hi' := of_decide_eq_true hi
                  have ht' : IsTup s.heap a items := ht
                  exact sub_tail ht'.typeIs slot_tuple_getitem.lookup (PyProof.Rows.getItem_tuple ht' (by omega) (by omega) hj' hy' (q _ _ ρ H .refl ry)) (hs _ _)
              · cases e
            · cases e
          · split at e
            · rename_i ws ew
              split at e
              · rename_i j hj
                split at e
                · rename_i w hw
                  cases e
                  obtain ⟨a, items, hx, hp, rs⟩ := list_at H r1 ew
                  cases hx
                  obtain ⟨y, hy, ry⟩ := rs.get j hw
                  have hy' : items[j]? = some y := by simpa using hy
                  have hj' : ixOf i items.size = some j := by rw [← hj, rs.length]; simp
                  exact sub_tail hp.isList.typeIs slot_list_getitem.lookup (list_get hp.isList hi hj' hy' (q _ _ ρ H .refl ry)) (hs _ _)
                · cases e
              · cases e
            · cases e
    · cases e
  · cases e
theorem den_idx {value slice : Expr} {pos : Pos} {f g : SE} (hv : DenE c k vars sc value f) (hsl : DenE c k vars sc slice g) (hs : ∀ o i, subscripted slice false o i = operate [o, i] (getItem o i)) : DenE c k vars sc (.Subscript value slice pos) (op2 idxF f g) := by
  intro env A s F ρ loc σ v σ' Q E hsc hA H I e q
  unfold op2 at e
  split at e
  · rename_i a σ₁ e1
    split at e
    · rename_i b σ₂ e2
      refine Subscript_ (hv env A s F ρ loc σ a σ₁ _ _ hsc hA H I e1 fun x s₁ ρ₁ H₁ A₁ r₁ => ?_)
      refine hsl env A s₁ F ρ₁ loc σ₁ b σ₂ _ _ hsc hA H₁ (I.adv H A₁) e2 fun y s₂ ρ₂ H₂ A₂ r₂ => ?_
      exact fn_idx (k := k) hs A s₂ F ρ₂ σ₂ [a, b] [x, y] v σ' Q E hA H₂ (.cons (r₁.adv H₁ A₂) (.cons r₂ .nil)) e fun z s₃ ρ₃ H₃ A₃ r₃ => q z s₃ ρ₃ H₃ ((A₁.trans H.len H₁.len A₂).trans H.len H₂.len A₃) r₃
    · cases e
  · cases e

noncomputable def lmax : Nat := 100000
noncomputable def cutL (i : Int) (vs : List V) : List V := if decide (0 ≤ i) then vs.take i.toNat else vs.take (vs.length - (-i).toNat)
noncomputable def slcF : SF := fun vs σ => match vs with
  | [v, .int i] => (match lstOf σ v with
    | some ws => if Nat.ble ws.length lmax then some (.lst (cutL i ws), σ) else none
    | none => none)
  | _ => none
theorem push_list {lay : Addr → List Str} {F : Addr → Prop} {h₀ : Heap} {ρ : List Addr} {σ : Hp} {s : Shared} {h' : Heap} {tk : Nat} {items : Array Value} {ws : List V} (H : HInv lay F h₀ ρ σ s.heap) (hk : ∀ b o, s.heap.get? b = some o → h'.get? b = some o) (rs : VRs lay F ρ s.heap ws items.toList) :
    HInv lay F h₀ ρ σ (h'.push { cls := .type "list", data := .seq items }) ∧ Adv ρ σ s ρ σ { s with heap := h'.push { cls := .type "list", data := .seq items }, toks := tk } NoW ∧ VR lay F ρ (h'.push { cls := .type "list", data := .seq items }) (.lst ws) (.ref h'.objs.size) := by
  have H' := H.ext hk
  have hk2 := push_keep h' { cls := .type "list", data := .seq items }
  have fr := H'.freeNew (get_size_none h')
  have A₂ : Adv ρ σ s ρ σ { s with heap := h'.push { cls := .type "list", data := .seq items }, toks := tk } NoW := Adv.ext fun b o e => hk2 b o (hk b o e)
  exact ⟨H'.ext hk2, A₂, .lst fr ⟨_, Heap.get?_push_size _ rfl⟩ (rs.adv H A₂)⟩

theorem slice_tail {prog : Program} {w : World} {A : Around} {E Q : Value → Shared → Prop} {s : Shared} {value : Expr} {lo up : Option Expr} {p : Pos} {a : Addr} {items : Array Value} {vl vu : Value} {l u : Option Int} (hl : s.heap.IsList a items) (pl : IsPart vl l) (pu : IsPart vu u) (hz : items.size ≤ sizeLine)
    (q : Q (.ref (s.heap.objs.size + 1)) { s with heap := (s.heap.push { cls := .type "slice", data := .fields #[vl, vu, .none] }).push { cls := .type "list", data := .seq (slicePick items l u none) } }) :
    wpAny (model prog w) A (subscriptTail value (.Slice lo up none p) (.ref a) (.ref s.heap.objs.size)) Q E { s with heap := s.heap.push { cls := .type "slice", data := .fields #[vl, vu, .none] } } := by
  have hl' : (s.heap.push { cls := .type "slice", data := .fields #[vl, vu, .none] }).IsList a items := by
    obtain ⟨o, ho, r⟩ := hl; exact ⟨o, push_keep _ _ _ _ ho, r⟩
  refine sub_tail (T := "list") (ops := [.ref s.heap.objs.size, .ref a]) (Heap.IsList.typeIs (s := { s with heap := s.heap.push { cls := .type "slice", data := .fields #[vl, vu, .none] } }) hl') slot_list_getitem.lookup ?_ rfl
  refine wpAny_getItem_list_slice hl' (vl := vl) (vu := vu) (vs := .none) ?_ pl pu .none (by simp) ?_ hz
  · exact ⟨_, Heap.get?_push_size _ rfl, rfl, rfl⟩
  · have : (s.heap.push { cls := .type "slice", data := .fields #[vl, vu, .none] }).objs.size = s.heap.objs.size + 1 := Heap.size_push ..
    show Q (.ref (s.heap.push { cls := .type "slice", data := .fields #[vl, vu, .none] }).objs.size) _
    rw [this]; exact q
theorem cut_take {lay : Addr → List Str} {F : Addr → Prop} {ρ : List Addr} {h : Heap} {ws : List V} {items : Array Value} (i : Int) (rs : VRs lay F ρ h ws items.toList) : VRs lay F ρ h (cutL i ws) (slicePick items none (some i) none).toList := by
  unfold cutL
  split
  · rename_i h0
    have h0 := of_decide_eq_true h0
    have e := slicePick_upto' items i.toNat
    rw [Int.toNat_of_nonneg h0] at e
    rw [e]
    simpa using rs.take i.toNat
  · rename_i h0
    have h0 : ¬ 0 ≤ i := fun z => h0 (decide_eq_true z)
    have e := slicePick_butLast items (-i).toNat (by omega)
    rw [show -(((-i).toNat : Nat) : Int) = i by omega] at e
    rw [e, rs.length]
    simpa using rs.take (items.size - (-i).toNat)
theorem den_slice {value up : Expr} {p pos : Pos} {f g : SE} (hv : DenE c k vars sc value f) (hu : DenE c k vars sc up g) : DenE c k vars sc (.Subscript value (.Slice none (some up) none p) pos) (op2 slcF f g) := by
  intro env A s F ρ loc σ v σ' Q E hsc hA H I e q
  unfold op2 at e
  split at e
  · rename_i a σ₁ e1
    split at e
    · rename_i b σ₂ e2
      refine Subscript_ (hv env A s F ρ loc σ a σ₁ _ _ hsc hA H I e1 fun x s₁ ρ₁ H₁ A₁ r₁ => ?_)
      refine wpAny_Slice ?_
      rw [evalPart_none, evalPart_some]
      refine wpAny_pure (hu env A s₁ F ρ₁ loc σ₁ b σ₂ _ _ hsc hA H₁ (I.adv H A₁) e2 fun y s₂ ρ₂ H₂ A₂ r₂ => ?_)
      refine wpAny_pure ?_
      unfold slcF at e
      split at e
      · rename_i v₀ i hvs
        cases hvs
        split at e
        · rename_i ws ew
          split at e
          · rename_i hz
            cases e
            have hz := Nat.le_of_ble_eq_true hz
            obtain ⟨ad, items, hx, hp, rs⟩ := list_at H₂ (r₁.adv H₁ A₂) ew
            cases hx
            cases r₂ with
            | @int _ ti =>
              have hsz : items.size ≤ sizeLine := by
                have := rs.length
                rw [sizeLine_eq]; unfold lmax at hz; simp at this; omega
              refine slice_tail hp.isList .none (.int _ _) hsz ?_
              obtain ⟨H₃, A₃, r₃⟩ := push_list (tk := s₂.toks) H₂ (push_keep s₂.heap { cls := .type "slice", data := .fields #[.none, .int i ti, .none] }) (cut_take i rs)
              have sz : (s₂.heap.push { cls := .type "slice", data := .fields #[.none, .int i ti, .none] }).objs.size = s₂.heap.objs.size + 1 := Heap.size_push ..
              rw [sz] at r₃
              exact q _ _ ρ₂ H₃ ((A₁.trans H.len H₁.len A₂).trans H.len H₂.len A₃) r₃
          · cases e
        · cases e
      · cases e
    · cases e
  · cases e
end
end Mine
namespace Mine
open PySem PySem.Spec PySem.Calls PyProof.Rows PySem.W

noncomputable def addL : SF := fun vs σ => match vs with
  | [.lst a, .lst b] => if Nat.ble (a.length + b.length) lmax then some (.lst (a ++ b), σ) else none
  | [.ref n, .lst b] => (match σ[n]? with
    | some (.lst a) => if Nat.ble (a.length + b.length) lmax then some (.ref σ.length, σ ++ [.lst (a ++ b)]) else none
    | _ => none)
  | _ => none
noncomputable def mulL : SF := fun vs σ => match vs with
  | [.lst [a], .int n] => if decide (-1000 < n) && decide (n < 1000) then some (.lst (List.replicate n.toNat a), σ) else none
  | _ => none
noncomputable def lenF : SF := fun vs σ => match vs with
  | [v] => (match v with
    | .tup ws => if Nat.ble ws.length lmax then some (.int ws.length, σ) else none
    | .str x => if Nat.ble x.length smax then some (.int x.length, σ) else none
    | v => (match lstOf σ v with
      | some ws => if Nat.ble ws.length lmax then some (.int ws.length, σ) else none
      | none => none))
  | _ => none
noncomputable def tupF : SF := fun vs σ => match vs with
  | [v] => (match lstOf σ v with
    | some ws => if Nat.ble ws.length lmax then some (.tup ws, σ) else none
    | none => none)
  | _ => none
noncomputable def rngF : SF := fun vs σ => match vs with
  | [.int n] => some (.rng 0 n, σ)
  | [.int a, .int b] => some (.rng a b, σ)
  | _ => none
noncomputable def intsOf : List V → Option (List Int)
  | [] => some []
  | .int i :: r => (match intsOf r with | some is => some (i :: is) | none => none)
  | _ => none
noncomputable def strsOf : List V → Option (List Str)
  | [] => some []
  | .str i :: r => (match strsOf r with | some is => some (i :: is) | none => none)
  | _ => none
noncomputable def maxI : Int → List Int → Int
  | m, [] => m
  | m, a :: r => maxI (if a > m then a else m) r
noncomputable def maxF : SF := fun vs σ => match vs with
  | [.int a, .int b] => some (.int (if b > a then b else a), σ)
  | [v] => (match lstOf σ v with
    | some ws => (match intsOf ws with
      | some (i :: is) => some (.int (maxI i is), σ)
      | _ => none)
    | none => none)
  | _ => none
noncomputable def sumF : SF := fun vs σ => match vs with
  | [v] => (match lstOf σ v with
    | some ws => (match intsOf ws with
      | some is => some (.int is.sum, σ)
      | _ => none)
    | none => none)
  | _ => none
noncomputable def strF : SF := fun vs σ => match vs with
  | [.int i] => if okI i then some (.str (Str.ofString (toString i)), σ) else none
  | [.bool b] => some (.str (if b then "True" else "False"), σ)
  | [.lst ws] => (match V.data (.lst ws) with
    | some d => if d.showable && !d.hasDict && Nat.ble d.depth 10 && Nat.ble d.shown.length smax then some (.str d.shown, σ) else none
    | none => none)
  | _ => none
noncomputable def typF : SF := fun vs σ => match vs with
  | [.str _] => some (.g (.type "str"), σ)
  | [v] => (match lstOf σ v with
    | some _ => some (.g (.type "list"), σ)
    | none => none)
  | _ => none
noncomputable def isN : V → Option Bool
  | .none => some true
  | .str _ => some false
  | .lst _ => some false
  | .ref _ => some false
  | _ => none
noncomputable def isF (neg : Bool) : SF := fun vs σ => match vs with
  | [v, .none] => (match isN v with | some b => some (.bool (neg != b), σ) | none => none)
  | [.g (.type a), .g (.type b)] => some (.bool (neg != decide (a = b)), σ)
  | _ => none
section
variable {c : Cx} {k : Nat} {vars : List (Nat × Str)} {sc : Scope}
theorem vrs_arr {lay : Addr → List Str} {F : Addr → Prop} {ρ : List Addr} {h : Heap} {vs : List V} {items items2 : Array Value} {ws : List V} (r : VRs lay F ρ h vs items.toList) (r2 : VRs lay F ρ h ws items2.toList) : VRs lay F ρ h (vs ++ ws) (items ++ items2).toList := by
  rw [Array.toList_append]; exact r.append r2

theorem fn_addL : FnOk c k (two (binaryOp .Add)) addL := by
  intro A s F ρ σ vs xs v σ' Q E hA H r e q
  unfold addL at e
  split at e
  · rename_i a b
    split at e
    · rename_i hz
      cases e
      have hz := Nat.le_of_ble_eq_true hz
      cases r with
      | cons r1 r => cases r with
        | cons r2 r =>
          obtain ⟨x, i1, hx, ⟨n1, h1⟩, q1⟩ := list_at H r1 rfl
          obtain ⟨y, i2, hy, ⟨n2, h2⟩, q2⟩ := list_at H r2 rfl
          cases hx; cases hy
          have l1 := q1.length
          have l2 := q2.length
          simp at l1 l2
          obtain ⟨H₃, A₃, r₃⟩ := push_list (tk := s.toks) H (h' := s.heap) (fun _ _ e => e) (vrs_arr q1 q2)
          exact PySem.P.add_list h1 h2 (q _ _ ρ H₃ A₃ r₃) (by rw [sizeLine_eq]; unfold lmax at hz; omega)
    · cases e
  · rename_i n b
    split at e
    · rename_i a ea
      split at e
      · rename_i hz
        cases e
        have hz := Nat.le_of_ble_eq_true hz
        cases r with
        | cons r1 r => cases r with
          | cons r2 r =>
            obtain ⟨x, i1, hx, ⟨n1, h1⟩, q1⟩ := list_at H r1 (vs := a) (by simp [lstOf, ea])
            obtain ⟨y, i2, hy, ⟨n2, h2⟩, q2⟩ := list_at H r2 rfl
            cases hx; cases hy
            have l1 := q1.length
            have l2 := q2.length
            simp at l1 l2
            have hk := push_keep s.heap { cls := .type "list", data := .seq (i1 ++ i2) }
            have hn := get_size_none s.heap
            have A₂ : Adv ρ σ s (ρ ++ [s.heap.objs.size]) (σ ++ [.lst (a ++ b)]) { s with heap := s.heap.push { cls := .type "list", data := .seq (i1 ++ i2) } } NoW := Adv.slot hk hn
            have H₂ : HInv c.lay F c.h₀ (ρ ++ [s.heap.objs.size]) (σ ++ [.lst (a ++ b)]) (s.heap.push { cls := .type "list", data := .seq (i1 ++ i2) }) :=
              H.slot hk hn ⟨_, Heap.get?_push_size _ rfl⟩ ⟨_, ⟨_, Heap.get?_push_size _ rfl⟩, (vrs_arr q1 q2).adv H A₂⟩
            exact PySem.P.add_list h1 h2 (q _ _ _ H₂ A₂ (.ref (by rw [H.len]; simp))) (by rw [sizeLine_eq]; unfold lmax at hz; omega)
      · cases e
    · cases e
  · cases e

theorem foldl_rep (x : Value) : ∀ (n : Nat) (acc : Array Value), (List.foldl (fun x1 x2 => x1 ++ x2) acc (List.replicate n #[x])).toList = acc.toList ++ List.replicate n x
  | 0, acc => by simp
  | n + 1, acc => by
    rw [List.replicate_succ, List.foldl_cons, foldl_rep x n, Array.toList_append, List.replicate_succ]; simp
theorem vrs_rep {lay : Addr → List Str} {F : Addr → Prop} {ρ : List Addr} {h : Heap} {v : V} {x : Value} (r : VR lay F ρ h v x) : ∀ n : Nat, VRs lay F ρ h (List.replicate n v) (List.replicate n x)
  | 0 => .nil
  | n + 1 => .cons r (vrs_rep r n)
theorem wp_rep1 {prog : Program} {w : World} {A : Around} {E Q : Value → Shared → Prop} {s : Shared} {l : Addr} {x : Value} {m : Nat} {n : Int} {u : Tok} (hl : s.heap.get? l = some { cls := .type "list", dict := none, data := .seq #[x] m, slots := #[] }) (h1 : -1000 < n) (h2 : n < 1000)
    (q : Q (.ref s.heap.objs.size) { s with heap := s.heap.push { cls := .type "list", data := .seq (List.foldl (fun x1 x2 => x1 ++ x2) #[] (List.replicate (if (#[x] : Array Value).isEmpty = true then 0 else n.toNat) #[x])) } }) : wpAny (model prog w) A (binaryOp .Mult (.ref l) (.int n u)) Q E s :=
  wpAny_binaryOp_repeat_ref (T := "list") (U := "int") (by decide) ⟨_, hl, rfl⟩ (fun s' => typeIs_int s' n u) noFill_list_mul PySem.F.fills_int_mul PySem.F.slot_int_rmul repeat_list PySem.F.slot_int_index.lookup
    (call_meets PySem.F.slot_int_rmul (typeIs_int s n u) PySem.F.entry_int_rmul (PySem.F.args_int_rmul_2 _ _) (int___rmul___int_list n u l #[x] m)
      ⟨hl, rfl, ⟨_, hl, rfl⟩, call_meets PySem.F.slot_list_mul ⟨_, hl, rfl⟩ PySem.F.entry_list_mul (PySem.F.args_list_mul_2 _ _)
        (AutoListH.list___mul___list_int_3 l #[x] m n u (by simp [Builtin.List.listFitsIndex]; omega) (by simp; omega) (by simp [Builtin.List.listTooLong, sizeLine]; omega))
        ⟨hl, q⟩⟩)
theorem fn_mulL : FnOk c k (two (binaryOp .Mult)) mulL := by
  intro A s F ρ σ vs xs v σ' Q E hA H r e q
  unfold mulL at e
  split at e
  · rename_i a n
    split at e
    · rename_i hz
      obtain ⟨h1, h2⟩ := Bool.and_eq_true_iff.mp hz
      have h1 := of_decide_eq_true h1
      have h2 := of_decide_eq_true h2
      cases e
      cases r with
      | cons r1 r => cases r with
        | cons r2 r =>
          obtain ⟨l, items, hx, ⟨m, hl⟩, q1⟩ := list_at H r1 rfl
          cases hx
          cases r2 with
          | @int _ u =>
          have hit : ∃ x, items = #[x] ∧ VR c.lay F ρ s.heap a x := by
            obtain ⟨il⟩ := items
            cases q1 with
            | cons ra rn => cases rn; exact ⟨_, rfl, ra⟩
          obtain ⟨x, rfl, rx⟩ := hit
          refine wp_rep1 hl h1 h2 ?_
          have rr : VRs c.lay F ρ s.heap (List.replicate n.toNat a) (List.foldl (fun x1 x2 => x1 ++ x2) #[] (List.replicate (if (#[x] : Array Value).isEmpty = true then 0 else n.toNat) #[x])).toList := by
            have : (if (#[x] : Array Value).isEmpty = true then 0 else n.toNat) = n.toNat := rfl
            rw [this, foldl_rep]
            exact vrs_rep rx _
          obtain ⟨H₃, A₃, r₃⟩ := push_list (tk := s.toks) H (h' := s.heap) (fun _ _ e => e) rr
          exact q _ _ ρ H₃ A₃ r₃
    · cases e
  · cases e

theorem len_tup {prog : Program} {w : World} {A : Around} {E Q : Value → Shared → Prop} {s : Shared} {t : Addr} {items : Array Value} (ht : s.heap.IsTuple t items) (hfit : (items.size : Int) < 2 ^ 63) (h : Q (.int items.size (s.toks + 1)) { s with toks := s.toks + 1 + 1 }) : wpAny (model prog w) A (call (.builtin "len") [.ref t]) Q E s :=
  PyProof.Rows.len_tuple ht hfit h
theorem fn_len : FnOk c k (fun xs => call (.builtin "len") xs) lenF := by
  intro A s F ρ σ vs xs v σ' Q E hA H r e q
  unfold lenF at e
  split at e
  · cases r with
    | cons r1 r =>
      cases r
      split at e
      · split at e
        · rename_i ws hz
          cases e
          have hz := Nat.le_of_ble_eq_true hz
          unfold lmax at hz
          cases r1 with
          | @tup _ a items fr ht rs =>
            have l := rs.length
            simp at l
            rw [l] at q hz
            refine len_tup ht (by omega) (q _ _ ρ H .toks .int)
        · cases e
      · split at e
        · rename_i x hz
          cases e
          have hz := Nat.le_of_ble_eq_true hz
          unfold smax at hz
          cases r1
          exact PySem.P.len_str (by omega) (q _ _ ρ H .toks .int)
        · cases e
      · split at e
        · rename_i ws ew
          split at e
          · rename_i hz
            cases e
            have hz := Nat.le_of_ble_eq_true hz
            unfold lmax at hz
            obtain ⟨a, items, hx, hp, rs⟩ := list_at H r1 ew
            cases hx
            have l := rs.length
            simp at l
            rw [l] at q hz
            exact call_len_list hp.isList (by omega) (q _ _ ρ H .toks .int)
          · cases e
        · cases e
  · cases e
theorem fn_tup : FnOk c k (fun xs => call (.type "tuple") xs) tupF := by
  intro A s F ρ σ vs xs v σ' Q E hA H r e q
  unfold tupF at e
  split at e
  · cases r with
    | cons r1 r =>
      cases r
      split at e
      · rename_i ws ew
        split at e
        · rename_i hz
          cases e
          have hz := Nat.le_of_ble_eq_true hz
          unfold lmax at hz
          obtain ⟨a, items, hx, hp, rs⟩ := list_at H r1 ew
          cases hx
          have l := rs.length
          simp at l
          refine call_tuple_list hp.isList (fun h' hk => ?_) (by rw [sizeLine_eq]; omega)
          have H' := H.ext hk
          have hk2 := push_keep h' { cls := .type "tuple", data := .seq items }
          have fr := H'.freeNew (get_size_none h')
          have A₂ : Adv ρ σ s ρ σ { s with heap := h'.push { cls := .type "tuple", data := .seq items } } NoW := Adv.ext fun b o e => hk2 b o (hk b o e)
          exact q _ _ ρ (H'.ext hk2) A₂ (.tup fr ⟨_, Heap.get?_push_size _ rfl, rfl, _, rfl⟩ (rs.adv H A₂))
        · cases e
      · cases e
  · cases e
theorem fn_rng : FnOk c k (fun xs => call (.type "range") xs) rngF := by
  intro A s F ρ σ vs xs v σ' Q E hA H r e q
  unfold rngF at e
  have fr := H.freeNew (get_size_none s.heap)
  split at e
  · cases e
    cases r with
    | cons r1 r =>
      cases r
      cases r1
      refine call_range_1 (q _ _ ρ (H.ext (push_keep _ _)) (Adv.ext (push_keep _ _)) (.rng fr (Heap.get?_push_size _ rfl)))
  · cases e
    cases r with
    | cons r1 r => cases r with
      | cons r2 r =>
        cases r
        cases r1; cases r2
        refine call_range_2 (q _ _ ρ (H.ext (push_keep _ _)) (Adv.ext (push_keep _ _)) (.rng fr (Heap.get?_push_size _ rfl)))
  · cases e

theorem ints_at {lay : Addr → List Str} {F : Addr → Prop} {ρ : List Addr} {h : Heap} : ∀ {ws : List V} {xs : List Value} {is : List Int}, VRs lay F ρ h ws xs → intsOf ws = some is → ∃ ps : List (Int × Tok), xs = ps.map (fun p => Value.int p.1 p.2) ∧ ps.map (·.1) = is
  | [], _, _, r, e => by cases e; cases r; exact ⟨[], rfl, rfl⟩
  | .int i :: ws, _, _, r, e => by
    simp only [intsOf] at e
    split at e
    · rename_i is e1
      cases e
      cases r with
      | cons r1 r2 =>
        obtain ⟨ps, hx, hp⟩ := ints_at r2 e1
        cases r1 with
        | @int _ t => exact ⟨(i, t) :: ps, by rw [hx]; rfl, by rw [← hp]; rfl⟩
    · cases e
  | .none :: _, _, _, _, e | .bool _ :: _, _, _, _, e | .str _ :: _, _, _, _, e | .g _ :: _, _, _, _, e | .tup _ :: _, _, _, _, e | .lst _ :: _, _, _, _, e
  | .obj _ _ :: _, _, _, _, e | .inst _ _ :: _, _, _, _, e | .ref _ :: _, _, _, _, e | .rng _ _ :: _, _, _, _, e | .edict :: _, _, _, _, e => by cases e
theorem strs_at {lay : Addr → List Str} {F : Addr → Prop} {ρ : List Addr} {h : Heap} : ∀ {ws : List V} {xs : List Value} {is : List Str}, VRs lay F ρ h ws xs → strsOf ws = some is → StrsAre xs is
  | [], _, _, r, e => by cases e; cases r; exact .nil
  | .str i :: ws, _, _, r, e => by
    simp only [strsOf] at e
    split at e
    · rename_i is e1
      cases e
      cases r with
      | cons r1 r2 => cases r1; exact .cons _ _ (strs_at r2 e1)
    · cases e
  | .none :: _, _, _, _, e | .bool _ :: _, _, _, _, e | .int _ :: _, _, _, _, e | .g _ :: _, _, _, _, e | .tup _ :: _, _, _, _, e | .lst _ :: _, _, _, _, e
  | .obj _ _ :: _, _, _, _, e | .inst _ _ :: _, _, _, _, e | .ref _ :: _, _, _, _, e | .rng _ _ :: _, _, _, _, e | .edict :: _, _, _, _, e => by cases e
theorem maxI_ge : ∀ (l : List Int) (m : Int), m ≤ maxI m l ∧ (∀ a ∈ l, a ≤ maxI m l) ∧ (maxI m l = m ∨ maxI m l ∈ l)
  | [], m => ⟨Int.le_refl _, by simp, .inl rfl⟩
  | a :: r, m => by
    obtain ⟨h1, h2, h3⟩ := maxI_ge r (if a > m then a else m)
    have hm : m ≤ (if a > m then a else m) := by split <;> omega
    have ha : a ≤ (if a > m then a else m) := by split <;> omega
    refine ⟨Int.le_trans hm h1, fun b hb => ?_, ?_⟩
    · rcases List.mem_cons.mp hb with rfl | hb
      · exact Int.le_trans ha h1
      · exact h2 b hb
    · show maxI (if a > m then a else m) r = m ∨ maxI (if a > m then a else m) r ∈ a :: r
      rcases h3 with h3 | h3
      · rw [h3]
        split
        · exact .inr (by simp)
        · exact .inl rfl
      · exact .inr (List.mem_cons_of_mem _ h3)
theorem fn_max : FnOk c k (fun xs => call (.builtin "max") xs) maxF := by
  intro A s F ρ σ vs xs v σ' Q E hA H r e q
  unfold maxF at e
  split at e
  · rename_i a b
    cases e
    cases r with
    | cons r1 r => cases r with
      | cons r2 r =>
        cases r
        cases r1; cases r2
        refine max_two_ints hA.1 fun h' tk hk => q _ _ ρ (H.ext hk) (Adv.ext hk) ?_
        split <;> exact .int
  · cases r with
    | cons r1 r =>
      cases r
      split at e
      · rename_i ws ew
        split at e
        · rename_i i is ei
          cases e
          obtain ⟨a, items, hx, hp, rs⟩ := list_at H r1 ew
          cases hx
          obtain ⟨ps, hps, hp1⟩ := ints_at rs ei
          have hit : items = intItems ps.toArray := by
            apply Array.toList_inj.mp; rw [hps]; simp [intItems]
          rw [hit] at hp
          have hlen : ps.length = is.length + 1 := by have := congrArg List.length hp1; simpa using this
          refine max_intList hA.1 hp.isList (by simp; omega) fun v h' tk hv hk => ?_
          obtain ⟨t, rfl⟩ := intItems_at hv
          obtain ⟨b1, b2⟩ := argBest_gt (numAt ps.toArray) (ps.toArray.size - 1)
          have num : ∀ j, j < ps.length → numAt ps.toArray j ∈ i :: is := fun j hj => by
            rw [← hp1]
            unfold numAt
            simp [hj]
            exact ⟨_, List.getElem_mem hj⟩
          have num2 : ∀ a ∈ i :: is, ∃ j, j < ps.length ∧ numAt ps.toArray j = a := fun a ha => by
            rw [← hp1] at ha
            obtain ⟨j, hj, e⟩ := List.getElem_of_mem ha
            simp at hj
            refine ⟨j, hj, ?_⟩
            unfold numAt
            simp [hj] at e ⊢
            exact e
          obtain ⟨m1, m2, m3⟩ := maxI_ge is i
          have mm : maxI i is ∈ i :: is := m3.elim (fun h => by rw [h]; simp) (fun h => List.mem_cons_of_mem _ h)
          have ml : ∀ a ∈ i :: is, a ≤ maxI i is := fun a ha => (List.mem_cons.mp ha).elim (fun h => h ▸ m1) (m2 a)
          have e0 : numAt ps.toArray (argBest (fun i j => decide (numAt ps.toArray i > numAt ps.toArray j)) (ps.toArray.size - 1)) = maxI i is := by
            obtain ⟨j, hj, ej⟩ := num2 _ mm
            have c1 := b2 j (by simp; omega)
            rw [ej] at c1
            have c2 := ml _ (num (argBest (fun i j => decide (numAt ps.toArray i > numAt ps.toArray j)) (ps.toArray.size - 1)) (by simp at b1 ⊢; omega))
            exact Int.le_antisymm c2 c1
          rw [e0]
          exact q _ _ ρ (H.ext hk) (Adv.ext hk) .int
        · cases e
      · cases e
  · cases e
theorem fn_sum : FnOk c k (fun xs => call (.builtin "sum") xs) sumF := by
  intro A s F ρ σ vs xs v σ' Q E hA H r e q
  unfold sumF at e
  split at e
  · cases r with
    | cons r1 r =>
      cases r
      split at e
      · rename_i ws ew
        split at e
        · rename_i is ei
          cases e
          obtain ⟨a, items, hx, hp, rs⟩ := list_at H r1 ew
          cases hx
          obtain ⟨ps, hps, hp1⟩ := ints_at rs ei
          have hit : items = intItems ps.toArray := by
            apply Array.toList_inj.mp; rw [hps]; simp [intItems]
          rw [hit] at hp
          refine sum_intListG hA.1 hp.isList fun h' tk t' hk => ?_
          have e0 : preSum (numAt ps.toArray) ps.toArray.size = is.sum := by
            rw [preSum_eq, ← hp1, List.take_of_length_le (by simp)]
          rw [e0]
          exact q _ _ ρ (H.ext hk) (Adv.ext hk) .int
        · cases e
      · cases e
  · cases e

theorem fn_str : FnOk c (k + 1) (fun xs => call (.type "str") xs) strF := by
  intro A s F ρ σ vs xs v σ' Q E hA H r e q
  unfold strF at e
  split at e
  · rename_i i
    split at e
    · rename_i hi
      cases e
      have hi := of_decide_eq_true hi
      cases r with
      | cons r1 r =>
        cases r; cases r1
        refine PySem.P.str_of_int ?_ (q _ _ ρ H .toks .str)
        rcases Nat.eq_zero_or_pos i.natAbs with z | z
        · rw [z]; decide
        · exact (Nat.log2_lt (by omega)).mpr (Nat.lt_of_lt_of_le (m := 2 ^ 64) (by omega) (Nat.pow_le_pow_right (by decide) (by decide)))
    · cases e
  · cases e
    cases r with
    | cons r1 r =>
      cases r; cases r1
      exact PySem.P.str_of_bool (q _ _ ρ H .toks .str)
  · rename_i ws
    split at e
    · rename_i d ed
      split at e
      · rename_i hb
        simp only [Bool.and_eq_true, Bool.not_eq_true'] at hb
        obtain ⟨⟨⟨b1, b2⟩, b3⟩, b4⟩ := hb
        have b3 := Nat.le_of_ble_eq_true b3
        have b4 := Nat.le_of_ble_eq_true b4
        unfold smax at b4
        cases e
        cases r with
        | cons r1 r =>
          cases r
          obtain ⟨⟨as, ra⟩, hl⟩ := reads_of _ r1 ed
          have hu := hA.2.2.1
          cases r1 with
          | lst fr ht rs =>
            refine str_of_reads ra b1 (fun hd => ?_) hA.2.2.2 (by omega) (fun _ _ e => e) (fun h' u tk hk => q _ _ ρ (H.ext hk) (Adv.ext hk) .str) (by rw [sizeLine_eq]; omega)
            rw [b2] at hd; cases hd
      · cases e
    · cases e
  · cases e
theorem fn_typ : FnOk c k (fun xs => call (.type "type") xs) typF := by
  intro A s F ρ σ vs xs v σ' Q E hA H r e q
  unfold typF at e
  split at e
  · cases e
    cases r with
    | cons r1 r =>
      cases r; cases r1
      exact call_type_of (Tx := "str") (typeIs_str _ _ _) (by decide) (q _ _ ρ H .refl .g)
  · split at e
    · rename_i ws ew
      cases e
      cases r with
      | cons r1 r =>
        cases r
        obtain ⟨a, items, hx, hp, rs⟩ := list_at H r1 ew
        cases hx
        exact call_type_of hp.isList.typeIs (by decide) (q _ _ ρ H .refl .g)
    · cases e
  · cases e
theorem VR.isN {lay : Addr → List Str} {F : Addr → Prop} {ρ : List Addr} {h : Heap} {v : V} {x : Value} {b : Bool} (r : VR lay F ρ h v x) (e : isN v = some b) : (x == .none) = b := by
  unfold Mine.isN at e
  split at e <;> cases e <;> cases r <;> rfl
theorem VR.noneI {lay : Addr → List Str} {F : Addr → Prop} {ρ : List Addr} {h : Heap} {x : Value} (r : VR lay F ρ h .none x) : x = .none := by cases r; rfl
theorem VR.gI {lay : Addr → List Str} {F : Addr → Prop} {ρ : List Addr} {h : Heap} {x v : Value} (r : VR lay F ρ h (.g v) x) : x = v := by cases r; rfl
theorem VRs.twoI {lay : Addr → List Str} {F : Addr → Prop} {ρ : List Addr} {h : Heap} {v w : V} {xs : List Value} (r : VRs lay F ρ h [v, w] xs) : ∃ x y, xs = [x, y] ∧ VR lay F ρ h v x ∧ VR lay F ρ h w y := by
  cases r with | cons a r => cases r with | cons b r => cases r; exact ⟨_, _, rfl, a, b⟩
theorem type_beq (a b : String) : ((Value.type a == Value.type b) : Bool) = decide (a = b) := by
  by_cases h : a = b
  · subst h; simp
  · have : (Value.type a == Value.type b) = false := beq_eq_false_iff_ne.mpr fun z => h (by cases z; rfl)
    rw [this, decide_eq_false h]
theorem isB_none {m : Model} {A : Around} {Q : Value → Shared → Prop} {E : Value → Shared → Prop} {s : Shared} (n : Bool) {v : Value} (h : Q (.bool (n != (v == .none))) s) : wpAny m A (compareOp (if n then .IsNot else .Is) v .none) Q E s := by
  cases n
  · exact is_none (by rw [Bool.false_bne] at h; exact h)
  · exact isNot_none (by rw [Bool.true_bne] at h; exact h)
theorem isB_type {m : Model} {A : Around} {Q : Value → Shared → Prop} {E : Value → Shared → Prop} {s : Shared} (n : Bool) {a b : String} (h : Q (.bool (n != decide (a = b))) s) : wpAny m A (compareOp (if n then .IsNot else .Is) (.type a) (.type b)) Q E s := by
  rw [← type_beq] at h
  cases n
  · exact wpAny_is_plain rfl (by rw [Bool.false_bne] at h; exact h)
  · exact wpAny_isNot_plain rfl (by rw [Bool.true_bne] at h; exact h)
theorem fn_isB (n : Bool) : FnOk c k (two (compareOp (if n then .IsNot else .Is))) (isF n) := by
  intro A s F ρ σ vs xs v σ' Q E hA H r e q
  unfold isF at e
  split at e
  · split at e
    · rename_i eb
      cases e
      obtain ⟨x, y, rfl, r1, r2⟩ := r.twoI
      have := r1.isN eb
      subst this
      have := r2.noneI
      subst this
      exact isB_none n (q _ _ ρ H .refl .bool)
    · cases e
  · cases e
    obtain ⟨x, y, rfl, r1, r2⟩ := r.twoI
    have := r1.gI
    subst this
    have := r2.gI
    subst this
    exact isB_type n (q _ _ ρ H .refl .bool)
  · cases e
theorem fn_is : FnOk c k (two (compareOp .Is)) (isF false) := fn_isB false
theorem fn_isNot : FnOk c k (two (compareOp .IsNot)) (isF true) := fn_isB true
end
end Mine
namespace Mine
open PySem PySem.Spec PySem.Calls PyProof.Rows PySem.W

section
variable {lay : Addr → List Str} {F : Addr → Prop} {h₀ : Heap} {ρ : List Addr} {σ : Hp} {s : Shared}
theorem list_upd (H : HInv lay F h₀ ρ σ s.heap) {n : Nat} {a : Addr} {vs ws : List V} {items : Array Value} {h' : Heap} {tk : Nat} (hn : ρ[n]? = some a) (hσ : σ[n]? = some (.lst vs)) (hs : Heap.SameBut a s.heap h') (hp : h'.PlainList a items) (rs : VRs lay F ρ s.heap ws items.toList) :
    HInv lay F h₀ ρ (σ.set n (.lst ws)) h' ∧ Adv ρ σ s ρ (σ.set n (.lst ws)) { s with heap := h', toks := tk } NoW := by
  have he : ∃ o, h'.get? a = some o := let ⟨m, e⟩ := hp; ⟨_, e⟩
  exact ⟨H.upd hn hs he ⟨items, hp, rs.grow (Grow.upd hn hs)⟩, Adv.upd hn ⟨_, hσ, by simp⟩ hs he⟩
end

noncomputable def appF : SF := fun vs σ => match vs with
  | [.ref n, v] => (match σ[n]? with
    | some (.lst ws) => if Nat.ble ws.length lmax then some (.none, σ.set n (.lst (ws ++ [v]))) else none
    | _ => none)
  | _ => none
noncomputable def stI (fo fi : SE) : SA := fun v loc σ => match fo loc σ with
  | some (.ref n, σ₁) => (match fi loc σ₁ with
    | some (.int i, σ₂) => (match σ₂[n]? with
      | some (.lst ws) => if okI i && decide (0 ≤ i) && decide (i < ws.length) then some (loc, σ₂.set n (.lst (ws.set i.toNat v))) else none
      | _ => none)
    | _ => none)
  | _ => none
noncomputable def stSl (fo : SE) : SA := fun v loc σ => match fo loc σ with
  | some (.ref n, σ₁) => (match v with
    | .lst vs => (match σ₁[n]? with
      | some (.lst ws) => if Nat.ble (ws.length + vs.length) lmax then some (loc, σ₁.set n (.lst vs)) else none
      | _ => none)
    | _ => none)
  | _ => none

section
variable {c : Cx} {k : Nat} {vars : List (Nat × Str)} {sc : Scope}

theorem fn_app : FnOk c k (fun xs => call (.builtin "list.append") xs) appF := by
  intro A s F ρ σ vs xs v σ' Q E hA H r e q
  unfold appF at e
  split at e
  · rename_i n w
    split at e
    · rename_i ws ew
      split at e
      · rename_i hz
        cases e
        have hz := Nat.le_of_ble_eq_true hz
        unfold lmax at hz
        cases r with
        | cons r1 r => cases r with
          | cons r2 r =>
            cases r
            cases r1 with
            | ref hn =>
              obtain ⟨items, hp, rs⟩ := H.objs _ _ _ ew hn
              have l := rs.length
              simp at l
              refine wpAny_list_append_plain hp (fun h' hp' hs => ?_) (by rw [sizeLine_eq]; omega)
              obtain ⟨H', A'⟩ := list_upd (tk := s.toks) (ws := ws ++ [w]) H hn ew hs hp' (by rw [Array.toList_push]; exact rs.append (.cons r2 .nil))
              exact q _ _ ρ H' A' .none
      · cases e
    · cases e
  · cases e

theorem set_toList {items : Array Value} {i : Nat} {x : Value} : (items.setIfInBounds i x).toList = items.toList.set i x := by simp

theorem den_subA {o i : Expr} {pos : Pos} {fo fi : SE} (ho : DenE c k vars sc o fo) (hi : DenE c k vars sc i fi) : DenA c k vars sc (.Subscript o i pos) (stI fo fi) := by
  intro env A s F ρ loc σ v x loc' σ' Q E hs hA H I r e q
  unfold stI at e
  split at e
  · rename_i n σ₁ e1
    split at e
    · rename_i j σ₂ e2
      split at e
      · rename_i ws ew
        split at e
        · rename_i hb
          simp only [Bool.and_eq_true, decide_eq_true_eq] at hb
          obtain ⟨⟨b1, b2⟩, b3⟩ := hb
          have b1 := of_decide_eq_true b1
          cases e
          rw [assign_Subscript]
          refine wpAny_bind (wpAny_holding (ho env A s F ρ loc σ _ σ₁ _ _ hs hA H I e1 fun y s₁ ρ₁ H₁ A₁ r₁ => wpAny_bind (wpAny_holding ?_)))
          refine hi env A s₁ F ρ₁ loc σ₁ _ σ₂ _ _ hs hA H₁ (I.adv H A₁) e2 fun z s₂ ρ₂ H₂ A₂ r₂ => wpAny_bind (wpAny_standAt (wpAny_bind (wpAny_holding ?_)))
          have r₁' := r₁.adv H₁ A₂
          have rv := (r.adv H A₁).adv H₁ A₂
          have I₂ := (I.adv H A₁).adv H₁ A₂
          cases r₂ with
          | @int _ t =>
          cases r₁' with
          | @ref a _ hn =>
            obtain ⟨items, ⟨m, hp⟩, rs⟩ := H₂.objs _ _ _ ew hn
            have l := rs.length
            simp at l
            refine ki_setAt (n := m) (k := j) hp b2 (by omega) (by omega) ?_
            have hfin : (s₂.heap.update a (Obj.mapSeq (·.setIfInBounds j.toNat x))).PlainList a (items.setIfInBounds j.toNat x) := ⟨_, PySem.IsL.update hp _⟩
            obtain ⟨H₃, A₃⟩ := list_upd (tk := s₂.toks) (ws := ws.set j.toNat v) H₂ hn ew (Heap.SameBut.update ..) hfin (by rw [set_toList]; exact rs.set _ rv)
            exact fun Γ p _ => (Sem.wp_release _ _ _ _ _ _ _ _).mpr (q _ ρ₂ H₃ (I₂.adv H₂ A₃) (((A₁.trans H.len H₁.len A₂).trans H.len H₂.len A₃)).ofE)
        · cases e
      · cases e
    · cases e
  · cases e

theorem set_slice {prog : Program} {w : World} {A : Around} {E : Value → Shared → Prop} {s : Shared} {Q : Unit → Shared → Prop} {l sl b : Addr} {items items2 : Array Value} {n n2 : Nat} (hl : s.heap.get? l = some { cls := .type "list", dict := none, data := .seq items n, slots := #[] }) (hs : s.heap.IsSliceOf sl .none .none .none)
    (hb : s.heap.get? b = some { cls := .type "list", dict := none, data := .seq items2 n2, slots := #[] }) (hne : l ≠ b) (hsz : items.size + items2.size ≤ 1000000)
    (q : ∀ h', h'.PlainList l items2 → Heap.SameBut l s.heap h' → Q () { s with heap := h' }) : wpAny (model prog w) A (setItem (.ref l) (.ref sl) (.ref b)) Q E s := by
  obtain ⟨os, hos, hcs, hds⟩ := id hs
  have hTs : s.TypeIs (.ref sl) "slice" := ⟨os, hos, hcs⟩
  have hL : s.heap.IsList l items := ⟨_, hl, rfl, _, rfl⟩
  have hB : s.heap.IsList b items2 := ⟨_, hb, rfl, _, rfl⟩
  unfold setItem
  try with_reducible refine wpAny_holding ?_
  first | refine wpAny_bind (wpAny_pure ?_) | skip
  refine wpAny_bind (wpAny_sequenceKey hL.typeIs (by decide) ?_)
  refine wpAny_bind (wpAny_callSpecial?_slot (name := Str.ofString "__setitem__") hL.typeIs slot_list_setitem
    (wpAny_call_entry slot_list_setitem hL.typeIs entry_list_setitem ?_ (args_list_setitem _ _ _)))
  show wpAny _ _ (Builtin.List.listSubscript? (.ref sl) >>= _) _ _ s
  refine wpAny_bind ?_
  unfold Builtin.List.listSubscript?
  refine wpAny_bind (wpAny_specialOf hTs slice_no_index ?_)
  simp only [Option.isNone_none, if_true]
  refine wpAny_pure ?_
  show wpAny _ _ (typeOf (.ref sl) >>= _) _ _ s
  refine wpAny_bind (wpAny_typeOf hTs ?_)
  rw [if_neg (by decide)]
  rw [listSliceParts_eq]
  refine wpAny_bind (wpAny_bind (wpAny_field hos hds (x := .none) rfl (wpAny_bind (wpAny_listPart .none ?_))))
  rw [if_neg (by decide)]
  refine wpAny_bind (wpAny_field hos hds (x := .none) rfl (wpAny_bind (wpAny_listPart .none ?_)))
  refine wpAny_bind (wpAny_field hos hds (x := .none) rfl (wpAny_bind (wpAny_listPart .none (wpAny_pure ?_))))
  rw [if_neg (show ¬ (Builtin.List.listSameRef (.ref l) (.ref b) = true) from fun h => hne (eq_of_beq h))]
  refine wpAny_bind ?_
  unfold Builtin.List.listAllItems
  refine wpAny_bind (wpAny_typeOf hB.typeIs ?_)
  rw [if_pos (by decide)]
  refine wpAny_listItems hb rfl ?_
  refine wpAny_bind (wpAny_listItems hl rfl ?_)
  refine wpAny_bind (wpAny_of_eq (sliceIndices_raw none none none items.size (by simp)) ?_)
  have e1 : (sliceBounds none none none items.size) = (0, (items.size : Int), 1) := by simp [sliceBounds]
  rw [e1]
  rw [if_pos (show ((1 : Int) == 1) = true from rfl)]
  refine wpAny_bind (wpAny_rule ?_)
  rw [if_neg (by simp [Builtin.List.listTooLong, sizeLine]; omega)]
  have hf : items.extract 0 (0 : Int).toNat ++ items2 ++ items.extract (max (0 : Int) (items.size : Int)).toNat = items2 := by
    have : (max (0 : Int) (items.size : Int)).toNat = items.size := by omega
    rw [this]; simp
  refine wpAny_bind (listUpdate_at hl rfl ?_ (by rw [sizeLine_eq]; omega) (by show (items.extract 0 (0 : Int).toNat ++ items2 ++ items.extract (max (0 : Int) (items.size : Int)).toNat).size ≤ _; rw [hf, sizeLine_eq]; omega))
  refine wpAny_bind (wpAny_letGo ?_)
  have hfin := PySem.IsL.update hl (fun xs : Array Value => xs.extract 0 (0 : Int).toNat ++ items2 ++ xs.extract (max (0 : Int) (items.size : Int)).toNat)
  rw [hf] at hfin
  exact wpAny_pure ⟨.none, rfl, wpAny_pure (q _ ⟨_, hfin⟩ (Heap.SameBut.update ..))⟩

theorem den_slA {o : Expr} {p pos : Pos} {fo : SE} (ho : DenE c k vars sc o fo) : DenA c k vars sc (.Subscript o (.Slice none none none p) pos) (stSl fo) := by
  intro env A s F ρ loc σ v x loc' σ' Q E hs hA H I r e q
  unfold stSl at e
  split at e
  · rename_i n σ₁ e1
    split at e
    · rename_i vs
      split at e
      · rename_i ws ew
        split at e
        · rename_i hb
          have hb := Nat.le_of_ble_eq_true hb
          unfold lmax at hb
          cases e
          rw [assign_Subscript]
          refine wpAny_bind (wpAny_holding (ho env A s F ρ loc σ _ σ₁ _ _ hs hA H I e1 fun y s₁ ρ₁ H₁ A₁ r₁ => wpAny_bind (wpAny_holding ?_)))
          refine wpAny_Slice ?_
          rw [evalPart_none]
          refine wpAny_pure (wpAny_pure (wpAny_pure (wpAny_bind (wpAny_standAt (wpAny_bind (wpAny_holding ?_))))))
          have hk := push_keep s₁.heap { cls := .type "slice", data := .fields #[.none, .none, .none] }
          have A₂ : Adv ρ₁ σ₁ s₁ ρ₁ σ₁ { s₁ with heap := s₁.heap.push { cls := .type "slice", data := .fields #[.none, .none, .none] } } NoW := Adv.ext hk
          have H₂ : HInv c.lay F c.h₀ ρ₁ σ₁ (s₁.heap.push { cls := .type "slice", data := .fields #[.none, .none, .none] }) := H₁.ext hk
          have r₁' := r₁.adv H₁ A₂
          have rv := (r.adv H A₁).adv H₁ A₂
          have I₂ := (I.adv H A₁).adv H₁ A₂
          cases r₁' with
          | @ref a _ hn =>
            obtain ⟨items, ⟨m, hp⟩, rs⟩ := H₂.objs _ _ _ ew hn
            have l := rs.length
            cases rv with
            | @lst _ b items2 fb hpb rsb =>
              obtain ⟨m2, hpb⟩ := hpb
              have l2 := rsb.length
              simp at l l2
              refine set_slice hp (.new _ _ _ _) hpb (fun z => fb.2 (z ▸ List.mem_of_getElem? hn)) (by omega) fun h' hp' hs' => ?_
              obtain ⟨H₃, A₃⟩ := list_upd (s := { s₁ with heap := s₁.heap.push { cls := .type "slice", data := .fields #[.none, .none, .none] } }) (tk := s₁.toks) (ws := vs) H₂ hn ew hs' hp' rsb
              exact fun Γ p _ => (Sem.wp_release _ _ _ _ _ _ _ _).mpr (q _ ρ₁ H₃ (I₂.adv H₂ A₃) (((A₁.trans H.len H₁.len A₂).trans H.len H₂.len A₃)).ofE)
        · cases e
      · cases e
    · cases e
  · cases e

theorem set_K {M : Model} {A : Around} {E : Value → Shared → Prop} {s : Shared} {K : Frag} {x C f : Addr} {ox : Obj} {od : Option Obj} {i v : Value} {Q : Unit → Shared → Prop} (X : K.In s.heap) (I : InstAt s.heap x ox C od) (hq : noSeq K C = true) (hs : findIn K (.ref C) "__setitem__" = some (some (.ref f))) (hf : isFn K (.ref f) = true)
    (h : wpAny M A (call (.ref f) [.ref x, i, v]) (fun _ s' => Q () s') E s) : wpAny M A (setItem (.ref x) i v) Q E s := by
  unfold setItem sequenceKey
  refine wpAny_holding (wpAny_bind (wpAny_bind (I.type.here ?_)))
  refine wpAny_bind ((anyM_none X hq).here ?_)
  rw [if_pos (show (!false) = true from rfl)]
  exact wpAny_pure (wpAny_bind (special_fn X I hs (beq_iff_eq.mp hf) (wpAny_mono h (fun _ _ z => wpAny_pure z) fun _ _ z => z)))
theorem del_K {M : Model} {A : Around} {E : Value → Shared → Prop} {s : Shared} {K : Frag} {x C f : Addr} {ox : Obj} {od : Option Obj} {i : Value} {Q : Unit → Shared → Prop} (X : K.In s.heap) (I : InstAt s.heap x ox C od) (hq : noSeq K C = true) (hs : findIn K (.ref C) "__delitem__" = some (some (.ref f))) (hf : isFn K (.ref f) = true)
    (h : wpAny M A (call (.ref f) [.ref x, i]) (fun _ s' => Q () s') E s) : wpAny M A (delItem (.ref x) i) Q E s := by
  unfold delItem sequenceKey
  refine wpAny_holding (wpAny_bind (wpAny_bind (I.type.here ?_)))
  refine wpAny_bind ((anyM_none X hq).here ?_)
  rw [if_pos (show (!false) = true from rfl)]
  exact wpAny_pure (wpAny_bind (special_fn X I hs (beq_iff_eq.mp hf) (wpAny_mono h (fun _ _ z => wpAny_pure z) fun _ _ z => z)))

noncomputable def stM (C : Addr) (F₁ : SF) (fo fi : SE) : SA := fun v loc σ => match fo loc σ with
  | some (a, σ₁) => (match fi loc σ₁ with
    | some (b, σ₂) => if chkI C σ₂ a then (match F₁ [a, b, v] σ₂ with
      | some (_, σ₃) => some (loc, σ₃)
      | none => none) else none
    | none => none)
  | none => none
theorem chkI_at {lay : Addr → List Str} {F : Addr → Prop} {h₀ : Heap} {ρ : List Addr} {σ : Hp} {h : Heap} {C : Addr} {v : V} {x : Value} (H : HInv lay F h₀ ρ σ h) (r : VR lay F ρ h v x) (hc : chkI C σ v = true) : ∃ a dx od, x = .ref a ∧ PySem.W.InstAt h a (instObj C dx) C (some od) := by
  unfold chkI at hc
  split at hc
  · rename_i C' vs ea
    have := Nat.eq_of_beq_eq_true hc
    subst this
    obtain ⟨a, dx, m, xs, rfl, hia, hns, hm, rs⟩ := inst_at H r ea
    obtain ⟨od, hod, hlk⟩ := lookIn_ns (Heap.Ns1.ns hns)
    exact ⟨a, dx, od, rfl, InstAt.ofNs hia hod⟩
  · cases hc
theorem den_setM (O : c.Ok) {C f : Addr} {F₁ : SF} {o i : Expr} {pos : Pos} {fo fi : SE} (ho : DenE c k vars sc o fo) (hi : DenE c k vars sc i fi) (hq : noSeq c.K C = true) (hs' : findIn c.K (.ref C) "__setitem__" = some (some (.ref f))) (hf : isFn c.K (.ref f) = true)
    (hF : FnOk c k (fun xs => call (.ref f) xs) F₁) : DenA c k vars sc (.Subscript o i pos) (stM C F₁ fo fi) := by
  intro env A s F ρ loc σ v x loc' σ' Q E hs hA H I r e q
  unfold stM at e
  split at e
  · rename_i a σ₁ e1
    split at e
    · rename_i b σ₂ e2
      split at e
      · rename_i hc
        split at e
        · rename_i w σ₃ e3
          cases e
          rw [assign_Subscript]
          refine wpAny_bind (wpAny_holding (ho env A s F ρ loc σ _ σ₁ _ _ hs hA H I e1 fun y s₁ ρ₁ H₁ A₁ r₁ => wpAny_bind (wpAny_holding ?_)))
          refine hi env A s₁ F ρ₁ loc σ₁ _ σ₂ _ _ hs hA H₁ (I.adv H A₁) e2 fun z s₂ ρ₂ H₂ A₂ r₂ => wpAny_bind (wpAny_standAt (wpAny_bind (wpAny_holding ?_)))
          have r₁' := r₁.adv H₁ A₂
          have rv := (r.adv H A₁).adv H₁ A₂
          have I₂ := (I.adv H A₁).adv H₁ A₂
          obtain ⟨ad, dx, od, rfl, IA⟩ := chkI_at H₂ r₁' hc
          refine set_K (O.atK H₂) IA hq hs' hf ?_
          refine hF A s₂ F ρ₂ σ₂ [a, b, v] [.ref ad, z, x] w σ' _ _ hA H₂ (.cons r₁' (.cons r₂ (.cons rv .nil))) e3 fun u s₃ ρ₃ H₃ A₃ r₃ => ?_
          exact fun Γ p _ => (Sem.wp_release _ _ _ _ _ _ _ _).mpr (q _ ρ₃ H₃ (I₂.adv H₂ A₃) (((A₁.trans H.len H₁.len A₂).trans H.len H₂.len A₃)).ofE)
        · cases e
      · cases e
    · cases e
  · cases e
noncomputable def delS (C : Addr) (F₁ : SF) (fo fi : SE) : SS := fun loc σ => match fo loc σ with
  | some (a, σ₁) => (match fi loc σ₁ with
    | some (b, σ₂) => if chkI C σ₂ a then (match F₁ [a, b] σ₂ with
      | some (_, σ₃) => some (.next, loc, σ₃)
      | none => none) else none
    | none => none)
  | none => none
theorem den_del (O : c.Ok) {C f : Addr} {F₁ : SF} {o i : Expr} {pos spos : Pos} {fo fi : SE} (ho : DenE c k vars sc o fo) (hi : DenE c k vars sc i fi) (hq : noSeq c.K C = true) (hs' : findIn c.K (.ref C) "__delitem__" = some (some (.ref f))) (hf : isFn c.K (.ref f) = true)
    (hF : FnOk c k (fun xs => call (.ref f) xs) F₁) : DenS c k vars sc (.Delete [.Subscript o i pos] spos) (delS C F₁ fo fi) := by
  intro env A s F ρ loc σ fl loc' σ' Q E hs hA H I e q
  unfold delS at e
  split at e
  · rename_i a σ₁ e1
    split at e
    · rename_i b σ₂ e2
      split at e
      · rename_i hc
        split at e
        · rename_i w σ₃ e3
          cases e
          refine wpAny_Delete ?_
          have key : wpAny (model c.prog c.w) A (delete (.Subscript o i pos) env) (fun _ s₁ => Q .next s₁) E s := by
            refine wpAny_delete_Subscript (ho env A s F ρ loc σ _ σ₁ _ _ hs hA H I e1 fun y s₁ ρ₁ H₁ A₁ r₁ => ?_)
            refine hi env A s₁ F ρ₁ loc σ₁ _ σ₂ _ _ hs hA H₁ (I.adv H A₁) e2 fun z s₂ ρ₂ H₂ A₂ r₂ => ?_
            have r₁' := r₁.adv H₁ A₂
            have I₂ := (I.adv H A₁).adv H₁ A₂
            obtain ⟨ad, dx, od, rfl, IA⟩ := chkI_at H₂ r₁' hc
            refine del_K (O.atK H₂) IA hq hs' hf ?_
            refine hF A s₂ F ρ₂ σ₂ [a, b] [.ref ad, z] w σ' _ _ hA H₂ (.cons r₁' (.cons r₂ .nil)) e3 fun u s₃ ρ₃ H₃ A₃ r₃ => ?_
            exact q .next _ ρ₃ H₃ (I₂.adv H₂ A₃) (((A₁.trans H.len H₁.len A₂).trans H.len H₂.len A₃)).ofE .next
          exact wpAny_bind (wpAny_mono key (fun _ _ h => wpAny_pure h) fun _ _ h => h)
        · cases e
      · cases e
    · cases e
  · cases e

theorem inter_false {env : Env} (hk : env.scope.kind = .function) : interactive env = false := by unfold interactive; rw [hk]; rfl
theorem den_expr {e₀ : Expr} {pos : Pos} {f : SE} (hv : DenE c k vars sc e₀ f) (hs : ∀ env : Env, swapsWith e₀ none pos.line env = pure false) : DenS c k vars sc (.Expr e₀ pos) (exprS f) := by
  intro env A s F ρ loc σ fl loc' σ' Q E hsc hA H I e q
  unfold exprS at e
  split at e
  · rename_i v σ₁ e1
    cases e
    exact wpAny_Expr_any (hv env A s F ρ loc σ v σ' _ _ hsc hA H I e1 fun y s₁ ρ₁ H₁ A₁ r => q .next s₁ ρ₁ H₁ (I.adv H A₁) A₁.ofE .next) (inter_false I.kind) (hs env)
  · cases e
noncomputable def asgT (t : SA) (f : SE) : SS := fun loc σ => match f loc σ with
  | some (v, σ₁) => (match t v loc σ₁ with
    | some (loc', σ') => some (.next, loc', σ')
    | none => none)
  | none => none
theorem den_asgT {t value : Expr} {pos : Pos} {tg : SA} {f : SE} (hv : DenE c k vars sc value f) (ht : DenA c k vars sc t tg) (hst : starFree [t] = true) (hs : ∀ env : Env, env.scope = sc → swapsWithSole [t] value pos.line env = pure false) (hw : ∀ env : Env, env.scope = sc → swappedStores [t] value env = pure none) : DenS c k vars sc (.Assign [t] value pos) (asgT tg f) := by
  intro env A s F ρ loc σ fl loc' σ' Q E hsc hA H I e q
  unfold asgT at e
  split at e
  · rename_i v σ₁ e1
    split at e
    · rename_i l₂ σ₂ e2
      cases e
      refine wpAny_Assign_stores (hv env A s F ρ loc σ v σ₁ _ _ hsc hA H I e1 fun y s₁ ρ₁ H₁ A₁ r => ?_) (hs env hsc) (hw env hsc)
      have he : assignEach [t] env = [(false, assign t env)] := by cases t <;> first | rfl | cases hst
      rw [he]
      exact ht env A s₁ F ρ₁ loc σ₁ v y loc' σ' _ _ hsc hA H₁ (I.adv H A₁) r e2 fun s₂ ρ₂ H₂ I₂ A₂ => q .next s₂ ρ₂ H₂ I₂ (A₁.ofE.trans H.len H₁.len A₂) .next
    · cases e
  · cases e
noncomputable def asg3 (t₁ t₂ t₃ : SA) (f : SE) : SS := fun loc σ => match f loc σ with
  | some (v, σ₁) => (match t₁ v loc σ₁ with
    | some (l₂, σ₂) => (match t₂ v l₂ σ₂ with
      | some (l₃, σ₃) => (match t₃ v l₃ σ₃ with
        | some (l₄, σ₄) => some (.next, l₄, σ₄)
        | none => none)
      | none => none)
    | none => none)
  | none => none
theorem den_asg3 {t₁ t₂ t₃ value : Expr} {pos : Pos} {g₁ g₂ g₃ : SA} {f : SE} (hv : DenE c k vars sc value f) (h₁ : DenA c k vars sc t₁ g₁) (h₂ : DenA c k vars sc t₂ g₂) (h₃ : DenA c k vars sc t₃ g₃) (he : ∀ env : Env, (assignEach [t₁, t₂, t₃] env).map (·.2) = [assign t₁ env, assign t₂ env, assign t₃ env]) (hw : ∀ env : Env, swappedStores [t₁, t₂, t₃] value env = pure none) :
    DenS c k vars sc (.Assign [t₁, t₂, t₃] value pos) (asg3 g₁ g₂ g₃ f) := by
  intro env A s F ρ loc σ fl loc' σ' Q E hsc hA H I e q
  unfold asg3 at e
  split at e
  · rename_i v σ₁ e1
    split at e
    · rename_i l₂ σ₂ e2
      split at e
      · rename_i l₃ σ₃ e3
        split at e
        · rename_i l₄ σ₄ e4
          cases e
          refine wpAny_Assign_three (hv env A s F ρ loc σ v σ₁ _ _ hsc hA H I e1 fun y s₁ ρ₁ H₁ A₁ r => ?_) (he env) (hw env)
          have I₁ := I.adv H A₁
          refine h₁ env A s₁ F ρ₁ loc σ₁ v y l₂ σ₂ _ _ hsc hA H₁ I₁ r e2 fun s₂ ρ₂ H₂ I₂ A₂ => ?_
          have r2 := r.grow (A₂.grow H₁ I₁.ownF)
          refine h₂ env A s₂ F ρ₂ l₂ σ₂ v y l₃ σ₃ _ _ hsc hA H₂ I₂ r2 e3 fun s₃ ρ₃ H₃ I₃ A₃ => ?_
          have r3 := r2.grow (A₃.grow H₂ I₂.ownF)
          exact h₃ env A s₃ F ρ₃ l₃ σ₃ v y loc' σ' _ _ hsc hA H₃ I₃ r3 e4 fun s₄ ρ₄ H₄ I₄ A₄ => q .next s₄ ρ₄ H₄ I₄ (((A₁.ofE.trans H.len H₁.len A₂).trans H.len H₂.len A₃).trans H.len H₃.len A₄) .next
        · cases e
      · cases e
    · cases e
  · cases e

theorem VRs.rev {lay : Addr → List Str} {F : Addr → Prop} {ρ : List Addr} {h : Heap} : ∀ {vs : List V} {xs : List Value}, VRs lay F ρ h vs xs → VRs lay F ρ h vs.reverse xs.reverse
  | _, _, .nil => .nil
  | _, _, .cons a b => by rw [List.reverse_cons, List.reverse_cons]; exact (VRs.rev b).append (.cons a .nil)
noncomputable def setL : List Nat → List V → Loc → Option Loc
  | [], [], loc => some loc
  | i :: is, v :: vs, loc => if i < loc.length then setL is vs (loc.set i (some v)) else none
  | _, _, _ => none
noncomputable def swpS (is : List Nat) (f : SE) : SS := fun loc σ => match f loc σ with
  | some (.tup vs, σ₁) => if Nat.beq vs.length is.length then (match setL is.reverse vs.reverse loc with
    | some loc' => some (.next, loc', σ₁)
    | none => none) else none
  | _ => none
theorem set_names {env : Env} {A : Around} {F : Addr → Prop} {h₀ : Heap} {σ : Hp} {lay : Addr → List Str} {M : Model} {ρ : List Addr} : ∀ (ps : List (Nat × Str)) (vs : List V) (xs : List Value) (loc loc' : Loc) (s : Shared) (Q : Unit → Shared → Prop) (E : Value → Shared → Prop), (∀ p ∈ ps, p ∈ vars) → HInv lay F h₀ ρ σ s.heap → FrI lay vars F ρ env loc s.heap → VRs lay F ρ s.heap vs xs →
    setL (ps.map (·.1)) vs loc = some loc' → (∀ s', HInv lay F h₀ ρ σ s'.heap → FrI lay vars F ρ env loc' s'.heap → Adv ρ σ s ρ σ s' (OwnW env) → Q () s') → wpAny M A (assignInOrder ((ps.map (·.2)).map fun n => bindName env n) xs) Q E s
  | [], vs, xs, loc, loc', s, Q, E, _, H, I, r, e, q => by
    cases vs with
    | nil => cases e; cases r; exact wpAny_pure (q s H I .refl)
    | cons => cases e
  | (i, n) :: ps, vs, xs, loc, loc', s, Q, E, hm, H, I, r, e, q => by
    cases vs with
    | nil => cases e
    | cons v vs =>
      cases r with
      | @cons _ _ x xs r rs =>
        simp only [List.map_cons, setL] at e
        split at e
        · rename_i hi
          refine wpAny_assignInOrder_more (wpAny_bindName (store_var H I (hm _ List.mem_cons_self) hi r fun s₁ H₁ I₁ A₁ => ?_))
          exact set_names ps vs xs _ loc' s₁ Q E (fun p hp => hm p (List.mem_cons_of_mem _ hp)) H₁ I₁ (rs.grow (A₁.grow H I.ownF)) e fun s₂ H₂ I₂ A₂ => q s₂ H₂ I₂ (A₁.trans H.len H₁.len A₂)
        · cases e
theorem den_swap {elts : List Expr} {n : Nat} {tpos pos : Pos} {value : Expr} {f : SE} {is : List Nat} {names : List Str} (hv : DenE c k vars sc value f) (hm : ∀ p ∈ is.zip names, p ∈ vars) (hl : is.length = names.length)
    (hs : ∀ env : Env, env.scope = sc → swapsWithSole [.Tuple elts n tpos] value pos.line env = pure false) (hw : ∀ env : Env, env.scope = sc → swappedStores [.Tuple elts n tpos] value env = pure (some names)) :
    DenS c k vars sc (.Assign [.Tuple elts n tpos] value pos) (swpS is f) := by
  intro env A s F ρ loc σ fl loc' σ' Q E hsc hA H I e q
  unfold swpS at e
  split at e
  · rename_i vs σ₁ e1
    split at e
    · rename_i hn
      have hn := Nat.eq_of_beq_eq_true hn
      split at e
      · rename_i l₂ e2
        cases e
        refine Assign_Tuple_swapped (names := names) (hv env A s F ρ loc σ _ σ' _ _ hsc hA H I e1 fun y s₁ ρ₁ H₁ A₁ r => ?_) (hs env hsc) (hw env hsc)
        cases r with
        | @tup _ a items fr ht rs =>
          have l := rs.length
          simp at l
          rw [show names.length = items.size by omega]
          refine wpAny_unpackItems_tuple hA.1 ht fun h' he => ?_
          have hk : ∀ b o, s₁.heap.get? b = some o → h'.get? b = some o := fun b o e => he b o (Nat.ne_of_lt (Heap.lt_size e)) e
          have A₂ : Adv ρ₁ σ' s₁ ρ₁ σ' { s₁ with heap := h' } NoW := Adv.ext hk
          have H₂ : HInv c.lay F c.h₀ ρ₁ σ' h' := H₁.ext hk
          have I₂ := (I.adv H A₁).adv H₁ A₂
          have rs' := rs.adv H₁ A₂
          have m1 : (is.zip names).reverse.map (·.1) = is.reverse := by rw [List.map_reverse, List.map_fst_zip (by omega)]
          have m2 : (is.zip names).reverse.map (·.2) = names.reverse := by rw [List.map_reverse, List.map_snd_zip (by omega)]
          rw [← m2]
          refine set_names (is.zip names).reverse vs.reverse items.toList.reverse loc loc' { s₁ with heap := h' } _ _ (fun p hp => hm p (List.mem_reverse.mp hp)) H₂ I₂ (VRs.rev rs') (by rw [m1]; exact e2) fun s₃ H₃ I₃ A₃ => ?_
          exact q .next s₃ ρ₁ H₃ I₃ ((A₁.trans H.len H₁.len A₂).ofE.trans H.len H₂.len A₃) .next
      · cases e
    · cases e
  · cases e
end
end Mine
namespace Mine
open PySem PySem.Spec PySem.Calls PyProof.Rows PySem.W
open PySem.Builtin PySem.Builtin.Str

noncomputable def lowF : SF := fun vs σ => match vs with
  | [.str x] => if Nat.ble (Txt.lower x).length smax then some (.str (Txt.lower x), σ) else none
  | _ => none
noncomputable def joiF : SF := fun vs σ => match vs with
  | [.str x, v] => (match lstOf σ v with
    | some ws => (match strsOf ws with
      | some ss => if JoinOk x ss then some (.str (Txt.join x ss), σ) else none
      | none => none)
    | none => none)
  | _ => none
section
variable {c : Cx} {k : Nat} {vars : List (Nat × Str)} {sc : Scope}
theorem meth_lower : MethAt c "lower" (.builtin "str.lower") chkStr := meth_str fun q => GM.lower q
theorem meth_join : MethAt c "join" (.builtin "str.join") chkStr := meth_str fun q => GM.join q
theorem fn_lower : FnOk c k (fun xs => call (.builtin "str.lower") xs) lowF := by
  intro A s F ρ σ vs xs v σ' Q E hA H r e q
  unfold lowF at e
  split at e
  · split at e
    · rename_i hz
      cases e
      have hz := Nat.le_of_ble_eq_true hz
      unfold smax at hz
      cases r with
      | cons r1 r =>
        cases r; cases r1
        exact SC.lower (decide_eq_false (by rw [sizeLine_eq]; omega)) (q _ _ ρ H .toks .str)
    · cases e
  · cases e
theorem strsAre_vals {vs : List Value} {ys : List Str} (h : StrsAre vs ys) : ∃ l : List (Str × Tok), vs = strValues l ∧ l.map (·.1) = ys := by
  induction h with
  | nil => exact ⟨[], rfl, rfl⟩
  | cons y t _ ih => obtain ⟨l, rfl, rfl⟩ := ih; exact ⟨(y, t) :: l, rfl, rfl⟩
theorem fn_join : FnOk c k (fun xs => call (.builtin "str.join") xs) joiF := by
  intro A s F ρ σ vs xs v σ' Q E hA H r e q
  unfold joiF at e
  split at e
  · split at e
    · rename_i ws ew
      split at e
      · rename_i ss es
        split at e
        · rename_i hok
          cases e
          cases r with
          | cons r1 r => cases r with
            | cons r2 r =>
              cases r; cases r1
              obtain ⟨a, items, hx, hp, rs⟩ := list_at H r2 ew
              cases hx
              obtain ⟨l, hl, ht⟩ := strsAre_vals (strs_at rs es)
              have hit : items = (strValues l).toArray := by apply Array.toList_inj.mp; rw [hl]
              rw [hit] at hp
              exact SC.join hp.isList ht hok fun t' tk => q _ _ ρ H .toks .str
        · cases e
      · cases e
    · cases e
  · cases e

noncomputable def BindsD (K : Frag) (fd : FuncData) (names : List Str) (ds : List Value) : Prop :=
  ∀ (M : Model) (A : Around) (s : Shared) (Q : List (Str × Value) → Shared → Prop) (E : Value → Shared → Prop) (xs : List Value), K.In s.heap → xs.length + ds.length = names.length → Q (names.zip (xs ++ ds)) s → wpAny M A (bindArgs fd ⟨xs, []⟩) Q E s
noncomputable def dfF (n : Nat) (ds : List V) (f : SF) : SF := fun vs σ => if Nat.beq vs.length n then f (vs ++ ds) σ else none
theorem code_fnD (O : c.Ok) {f : Addr} {fd : FuncData} {body : List Stmt} {names : List Str} {vars : List (Nat × Str)} {nloc n m : Nat} {fb : SS} {ds : List Value} {dv : List V} (S : FnShape c f fd body names vars nloc) (hb : DenSs c k vars fd.scope body fb)
    (B : BindsD c.K fd names ds) (hm : m = names.length) (hn : n + ds.length = names.length) (hd : ∀ F ρ h, VRs c.lay F ρ h dv ds) : CodeOk c (k + 1) (fun xs => .call (.ref f) ⟨xs, []⟩) (dfF n dv (fnF m nloc false fb)) := by
  intro A s F ρ σ vs xs v σ' R hA H r e q
  unfold dfF at e
  split at e
  · rename_i hl
    have hl := Nat.eq_of_beq_eq_true hl
    unfold fnF at e
    split at e
    · rename_i hl2
      have hl2 := Nat.eq_of_beq_eq_true hl2
      obtain ⟨oc, od, osl, look⟩ := S.look
      refine codeAny_call_function hA.room ((O.atK H) _ _ look) rfl S.co S.gen S.stmts (codeRec_of (O.atK H) S.code) ?_
      have hx : xs.length + ds.length = names.length := by rw [← r.length, hl, hn]
      refine B _ _ _ _ _ xs (O.atK H) hx ?_
      have r' := r.append (hd F ρ s.heap)
      have hx' : (xs ++ ds).length = names.length := by simpa using hx
      simp only [Bool.false_eq_true, if_false] at e
      split at e
      · rename_i v' loc' σ₁ e1
        cases e
        exact code_run O S hb hA H r' hx' e1 fun z s' ρ' H' A' r' => by cases r' with | ret r' => exact q _ s' ρ' H' A' r'
      · rename_i loc' σ₁ e1
        cases e
        exact code_run O S hb hA H r' hx' e1 fun z s' ρ' H' A' r' => by cases r'; exact q _ s' ρ' H' A' .none
      · cases e
    · cases e
  · cases e
end
end Mine
namespace Mine
open PySem PySem.Spec PySem.Calls PyProof.Rows PySem.W

theorem owner_pat : Manifest.owners.lookup (String.ofList ['n', 'r', 'e', 't', 't', 'a', 'P', '.', 'e', 'r'].reverse) = some Manifest.sig_re_Pattern := by kernel_rfl
theorem slot_search : Slot "re.Pattern" "search" "re.Pattern.search" :=
  .of (owner := "re.Pattern") (n := "search") (by rw [typeLookup_type, builtinLookup_eq_fast]; kernel_rfl) (by decide +kernel) (by decide +kernel) (by decide +kernel)
    (by first | exact .inl (by decide +kernel) | exact .inr (by decide +kernel)) (by rw [isSubtype_type]; kernel_rfl)
theorem type_search : typeOf (.builtin "re.Pattern.search") = pure (.type "method_descriptor") := by show builtinType _ = _; rw [builtinType_eq_fast]; kernel_rfl
theorem entry_search : entryFor table "re.Pattern.search" = some Builtin.«re.Pattern.search» := entryFor_of_tree (by kernel_rfl)
theorem pat_getattribute : typeLookup (.type "re.Pattern") "__getattribute__" = pure (some (.builtin "object.__getattribute__")) := by rw [typeLookup_type, builtinLookup_eq_fast]; kernel_rfl
theorem pat_getattr_none : typeLookup (.type "re.Pattern") "__getattr__" = pure none := by rw [typeLookup_type, builtinLookup_eq_fast]; kernel_rfl
theorem canon_obj_getattribute : (Manifest.canonical "object.__getattribute__" != "object.__getattribute__") = false := by decide +kernel
theorem args_search (a b : Value) : argsOk "re.Pattern.search" ⟨[a, b], []⟩ := by
  unfold argsOk; rw [signature?_of (id := "re.Pattern.search") (n := ['h', 'c', 'r', 'a', 'e', 's']) (o := ['n', 'r', 'e', 't', 't', 'a', 'P', '.', 'e', 'r']) (by kernel_rfl) owner_pat]; kernel_rfl

section
variable {M : Model} {A : Around} {E : Value → Shared → Prop} {s : Shared}
theorem getMethod_search {l : Addr} {o : Obj} {pl : Sem Bool} {Q : Value × List Value → Shared → Prop} (ho : s.heap.get? l = some o) (hc : o.cls = .type "re.Pattern") (hd : o.dict = none)
    (h : Q (.builtin "re.Pattern.search", [.ref l]) s) : wpAny M A (getMethod (.ref l) "search" pl) Q E s := by
  have hT : s.TypeIs (.ref l) "re.Pattern" := ⟨o, ho, hc⟩
  unfold getMethod
  refine wpAny_bind (wpAny_specialOf hT pat_getattribute ?_)
  show wpAny M A (if (Manifest.canonical "object.__getattribute__" != "object.__getattribute__") = true then _ else _) Q E s
  rw [canon_obj_getattribute, if_neg Bool.false_ne_true]
  refine wpAny_bind (wpAny_specialOf hT pat_getattr_none ?_)
  refine wpAny_bind (wpAny_specialOf hT slot_search.lookup ?_)
  refine wpAny_bind (wpAny_of_eq type_search ?_)
  refine wpAny_bind (wpAny_load ho ?_)
  rw [hd]
  exact wpAny_bind (wpAny_rule (wpAny_pure h))
end

open PySem.Sre PySem.Builtin.Re in
theorem admitted_none {m : Sre.M} {bad : Nat → Bool} (hset : ∀ c seen, ∃ seen', inSet m.code c m.code.size 5 true seen = .ok (bad c, seen')) :
    ∀ (fuel s : Nat) (seen : Sre.Seen), (∀ i, s ≤ i → i < m.lim → bad (m.text.getD i 0) = false) → ∃ seen', M.admitted m fuel s seen = .ok (none, seen')
  | 0, s, seen, _ => ⟨seen, rfl⟩
  | fuel + 1, s, seen, h => by
    unfold M.admitted
    by_cases hs : s ≥ m.lim
    · rw [if_pos hs]; exact ⟨seen, rfl⟩
    · rw [if_neg hs]
      obtain ⟨seen', e⟩ := hset (m.text.getD s 0) seen
      rw [e, h s (Nat.le_refl _) (Nat.lt_of_not_le hs)]
      exact admitted_none hset fuel (s + 1) seen' fun i h1 h2 => h i (Nat.le_of_succ_le h1) h2

open PySem.Sre PySem.Builtin.Re in
theorem attemptFrom_none {m : Sre.M} {bad : Nat → Bool} {b : Bool} (hset : ∀ c seen, ∃ seen', inSet m.code c m.code.size 5 true seen = .ok (bad c, seen')) (hf : m.hasFirstSet = true) (ht : ∀ i, i < m.lim → bad (m.text.getD i 0) = false) (h1 : m.frames = []) (h2 : m.outcome = none) :
    (m.attemptFrom 0 b).answer = some false ∧ (m.attemptFrom 0 b).frames = [] ∧ (m.attemptFrom 0 b).outcome = none := by
  obtain ⟨seen', e⟩ := admitted_none hset (m.lim + 1 - 0) 0 m.seen fun i _ hi => ht i hi
  have : m.attemptFrom 0 b = ({ m with seen := seen' } : Sre.M).say false := by
    unfold M.attemptFrom
    rw [hf, e]; rfl
  rw [this]
  exact ⟨rfl, h1, h2⟩
noncomputable def firstSet (code : Array Nat) : Bool := (match Sre.ops[code.getD 0 0]? with | some Sre.Op.INFO => true | _ => false) && code.getD 2 0 == 4
open PySem.Sre PySem.Builtin.Re in
theorem search_none {code text : Array Nat} {bad : Nat → Bool} {n : Nat} (hset : ∀ c seen, ∃ seen', inSet code c code.size 5 true seen = .ok (bad c, seen')) (hf : firstSet code = true) (ht : ∀ i, i < text.size → bad (text.getD i 0) = false) :
    (Sre.forSearch code text n 0 text.size false).answer = some false ∧ (Sre.forSearch code text n 0 text.size false).frames = [] ∧ (Sre.forSearch code text n 0 text.size false).outcome = none := by
  unfold forSearch
  by_cases h0 : (decide (0 > text.size) || decide (text.size - 0 < (header code).1)) = true
  · simp only [h0, if_true]
    exact ⟨rfl, rfl, rfl⟩
  · simp only [h0]
    exact attemptFrom_none hset hf ht rfl rfl
open PySem.Sre PySem.Builtin.Re in
theorem runFor_failed {m : Sre.M} (ha : m.answer = some false) (hf : m.frames = []) (ho : m.outcome = none) : ∃ m', M.runFor reTurnSteps m = m' ∧ m'.outcome = some .failed := by
  have h1 : m.step = { m with outcome := some .failed } := by
    unfold M.step; rw [ho, ha, hf]; rfl
  refine ⟨{ m with outcome := some .failed }, ?_, rfl⟩
  show M.runFor 4 m = _
  unfold M.runFor
  rw [ho, h1]
  rfl
theorem rules_loop {M' : Model} {A : Around} {E : Value → Shared → Prop} {Q : PUnit → Shared → Prop} {m' : Sre.M} : ∀ (l : List Nat) (s : Shared), Q PUnit.unit s → wpAny M' A (forIn l PUnit.unit fun i (_ : PUnit) =>
      if m'.seen.has i = true then do
        rule (Sre.names.getD i "")
        pure (ForInStep.yield PUnit.unit)
      else pure (ForInStep.yield PUnit.unit)) Q E s
  | [], s, q => wpAny_pure q
  | i :: l, s, q => by
    rw [List.forIn_cons]
    refine wpAny_bind ?_
    split
    · exact wpAny_bind (wpAny_rule (wpAny_pure (rules_loop l s q)))
    · exact wpAny_pure (rules_loop l s q)
open PySem.Sre PySem.Builtin.Re in
theorem answer_none {M' : Model} {A : Around} {E : Value → Shared → Prop} {s : Shared} {P : Fin → Shared → Prop} {t : ReTarget} {m : Sre.M} (ha : m.answer = some false) (hf : m.frames = []) (ho : m.outcome = none) (q : P (.done (.ret .none)) s) : wpAny M' A (reAnswer t m) P E s := by
  obtain ⟨m', e, hm⟩ := runFor_failed ha hf ho
  unfold reAnswer
  refine wpAny_bind ?_
  unfold reRunToEnd
  have hd : reDrive (2 ^ 64) m = pure m' := by
    have : (2 ^ 64 : Nat) = (2 ^ 64 - 1) + 1 := by decide
    rw [this]
    unfold reDrive
    simp only [e, hm]
    rfl
  rw [hd]
  refine wpAny_bind (wpAny_pure (wpAny_bind (rules_loop _ _ ?_)))
  rw [hm]
  exact wpAny_pure (wpAny_pure q)
open PySem.Sre PySem.Builtin.Re in
theorem target_go {M' : Model} {A : Around} {E : Value → Shared → Prop} {s : Shared} {Q : ReTarget → Shared → Prop} {p ct : Addr} {oP oC : Obj} {fs items : Array Value} {n : Nat} {x : Str} {t : Tok} (hP : s.heap.get? p = some oP) (hd : oP.data = .fields fs) (h5 : fs.getD 5 .none = .ref ct) (h6 : reRawNat (fs.getD 6 .none) = 0) (hC : s.heap.get? ct = some oC) (hcd : oC.data = .seq items n)
    (q : Q { pattern := .ref p, string := .str x t, code := (items.map reRawOf).map (·.toNat), text := x.cps, kind := 0, groups := reRawNat (fs.getD 2 .none), pos := 0, lim := min ((2 : Int) ^ 63 - 1).toNat x.cps.size } s) :
    wpAny M' A (reTarget "re.Pattern.search" "search" ⟨[.ref p, .str x t], []⟩) Q E s := by
  unfold reTarget
  have hn : reNamed "re.Pattern.search" "search" ["string", "pos", "endpos"] 1 [.str x t] [] = pure [some (.str x t), none, none] := rfl
  show wpAny M' A (reNamed "re.Pattern.search" "search" ["string", "pos", "endpos"] 1 [.str x t] [] >>= _) _ _ _
  rw [hn]
  refine wpAny_bind (wpAny_pure (wpAny_bind (wpAny_pure (wpAny_bind (wpAny_pure (wpAny_bind (wpAny_fieldsOf hP hd ?_)))))))
  have ht : reTextOf (.str x t) = pure (x.cps, 0) := rfl
  rw [ht]
  refine wpAny_bind (wpAny_pure ?_)
  dsimp only
  rw [if_neg (show ¬ ((reRawNat (fs.getD 6 .none) == 0 && (0 : Nat) == 1) = true) by simp), if_neg (show ¬ ((reRawNat (fs.getD 6 .none) == 1 && (0 : Nat) == 0) = true) by rw [h6]; decide)]
  have hno : reNoCollectionInside (.str x t) 0 = pure () := rfl
  rw [hno]
  refine wpAny_bind (wpAny_pure (wpAny_bind ?_))
  unfold reRawItems
  rw [h5]
  refine wpAny_bind (wpAny_seqItems hC hcd (wpAny_pure (wpAny_pure ?_)))
  exact q
open PySem.Sre PySem.Builtin.Re in
theorem call_search_none {prog : Program} {w : World} {A : Around} {E Q : Value → Shared → Prop} {s : Shared} {p ct : Addr} {oP oC : Obj} {fs items : Array Value} {n : Nat} {x : Str} {t : Tok} {bad : Nat → Bool} (hP : s.heap.get? p = some oP) (hcl : oP.cls = .type "re.Pattern") (hd : oP.data = .fields fs) (h5 : fs.getD 5 .none = .ref ct) (h6 : reRawNat (fs.getD 6 .none) = 0) (hC : s.heap.get? ct = some oC) (hcd : oC.data = .seq items n)
    (hset : ∀ c seen, ∃ seen', inSet ((items.map reRawOf).map (·.toNat)) c ((items.map reRawOf).map (·.toNat)).size 5 true seen = .ok (bad c, seen')) (hf : firstSet ((items.map reRawOf).map (·.toNat)) = true)
    (hx : x.cps.toList.all (fun c => !bad c) = true) (hz : x.length ≤ smax) (q : Q .none s) : wpAny (model prog w) A (call (.builtin "re.Pattern.search") [.ref p, .str x t]) Q E s := by
  refine wpAny_call_entry slot_search ⟨oP, hP, hcl⟩ entry_search ?_ (args_search _ _)
  unfold Builtin.«re.Pattern.search»
  refine wpAny_bind (target_go hP hd h5 h6 hC hcd ?_)
  have hl : min ((2 : Int) ^ 63 - 1).toNat x.cps.size = x.cps.size := by
    have hz' : x.cps.size ≤ 1000000 := hz
    have : ((2 : Int) ^ 63 - 1).toNat = 9223372036854775807 := by decide
    rw [this]; omega
  rw [hl]
  obtain ⟨a1, a2, a3⟩ := search_none (text := x.cps) (n := reRawNat (fs.getD 2 .none)) hset hf fun i hi => by
    have := List.all_eq_true.mp hx (x.cps.getD i 0) (by
      have e : x.cps.getD i 0 = x.cps[i] := by simp [Array.getD, hi]
      rw [e]; exact Array.mem_toList_iff.mpr (Array.getElem_mem hi))
    simpa using this
  exact answer_none a1 a2 a3 ⟨_, rfl, q⟩

noncomputable def codeN : Array Nat := #[14, 10, 4, 1, 1, 22, 0, 31, 16, 127, 0, 13, 7, 22, 0, 31, 16, 127, 0, 1]
noncomputable def codeV : Array Nat := #[14, 14, 4, 1, 1, 9, 4294966783, 0, 0, 2147483648, 0, 0, 0, 0, 0, 13, 11, 9, 4294966783, 0, 0, 2147483648, 0, 0, 0, 0, 0, 1]
noncomputable def badN (c : Nat) : Bool := (decide (0 ≤ c) && decide (c ≤ 31)) || (c == 127)
noncomputable def badV (c : Nat) : Bool := decide (c < 256) && (codeV.getD (5 + (1 + c / 32)) 0).testBit (c % 32)
open PySem.Sre in
theorem setN (c : Nat) (seen : Sre.Seen) : ∃ seen', inSet codeN c codeN.size 5 true seen = .ok (badN c, seen') := by
  unfold badN
  cases h1 : (decide (0 ≤ c) && decide (c ≤ 31))
  · cases h2 : (c == 127)
    · refine ⟨((seen.add 22).add 16).add 0, ?_⟩
      show (if (decide (0 ≤ c) && decide (c ≤ 31)) = true then Except.ok (true, seen.add 22) else (if (c == 127) = true then Except.ok (true, (seen.add 22).add 16) else Except.ok (!true, ((seen.add 22).add 16).add 0))) = _
      rw [h1, h2]; rfl
    · refine ⟨(seen.add 22).add 16, ?_⟩
      show (if (decide (0 ≤ c) && decide (c ≤ 31)) = true then Except.ok (true, seen.add 22) else (if (c == 127) = true then Except.ok (true, (seen.add 22).add 16) else Except.ok (!true, ((seen.add 22).add 16).add 0))) = _
      rw [h1, h2]; rfl
  · refine ⟨seen.add 22, ?_⟩
    show (if (decide (0 ≤ c) && decide (c ≤ 31)) = true then Except.ok (true, seen.add 22) else (if (c == 127) = true then Except.ok (true, (seen.add 22).add 16) else Except.ok (!true, ((seen.add 22).add 16).add 0))) = _
    rw [h1]; rfl
open PySem.Sre in
theorem setV (c : Nat) (seen : Sre.Seen) : ∃ seen', inSet codeV c codeV.size 5 true seen = .ok (badV c, seen') := by
  unfold badV
  cases h1 : (decide (c < 256) && (codeV.getD (5 + (1 + c / 32)) 0).testBit (c % 32))
  · refine ⟨(seen.add 9).add 0, ?_⟩
    show (if (decide (c < 256) && (codeV.getD (5 + (1 + c / 32)) 0).testBit (c % 32)) = true then Except.ok (true, seen.add 9) else Except.ok (!true, (seen.add 9).add 0)) = _
    rw [h1]; rfl
  · refine ⟨seen.add 9, ?_⟩
    show (if (decide (c < 256) && (codeV.getD (5 + (1 + c / 32)) 0).testBit (c % 32)) = true then Except.ok (true, seen.add 9) else Except.ok (!true, (seen.add 9).add 0)) = _
    rw [h1]; rfl

noncomputable def goodS (bad : Nat → Bool) (x : Str) : Bool := x.cps.toList.all (fun c => !bad c) && Nat.ble x.length smax
structure Pats (c : Cx) (pN pV : Addr) : Prop where
  n : ∃ fs sl ct items m sl', c.K.lookup pN = some ⟨.type "re.Pattern", none, .fields fs, sl⟩ ∧ fs.getD 5 .none = .ref ct ∧ Builtin.Re.reRawNat (fs.getD 6 .none) = 0 ∧ c.K.lookup ct = some ⟨.type "tuple", none, .seq items m, sl'⟩ ∧ (items.map Builtin.Re.reRawOf).map (·.toNat) = codeN
  v : ∃ fs sl ct items m sl', c.K.lookup pV = some ⟨.type "re.Pattern", none, .fields fs, sl⟩ ∧ fs.getD 5 .none = .ref ct ∧ Builtin.Re.reRawNat (fs.getD 6 .none) = 0 ∧ c.K.lookup ct = some ⟨.type "tuple", none, .seq items m, sl'⟩ ∧ (items.map Builtin.Re.reRawOf).map (·.toNat) = codeV
noncomputable def chkP (pN pV : Addr) (_ : Hp) (v : V) : Bool := match v with
  | .g (.ref a) => Nat.beq a pN || Nat.beq a pV
  | _ => false
noncomputable def schF (pN pV : Addr) : SF := fun vs σ => match vs with
  | [.g (.ref a), .str x] => if Nat.beq a pN then (if goodS badN x then some (.none, σ) else none) else if Nat.beq a pV then (if goodS badV x then some (.none, σ) else none) else none
  | _ => none
section
variable {c : Cx} {k : Nat}
theorem meth_search (O : c.Ok) {pN pV : Addr} (P : Pats c pN pV) : MethAt c "search" (.builtin "re.Pattern.search") (chkP pN pV) := by
  intro A s F ρ σ v x pl Q E H r hc q
  unfold chkP at hc
  split at hc
  · rename_i a
    cases r
    rcases Bool.or_eq_true_iff.mp hc with h | h
    · have := Nat.eq_of_beq_eq_true h
      subst this
      obtain ⟨fs, sl, ct, items, m, sl', h1, _⟩ := P.n
      exact getMethod_search ((O.atK H) _ _ h1) rfl rfl q
    · have := Nat.eq_of_beq_eq_true h
      subst this
      obtain ⟨fs, sl, ct, items, m, sl', h1, _⟩ := P.v
      exact getMethod_search ((O.atK H) _ _ h1) rfl rfl q
  · cases hc
theorem fn_search (O : c.Ok) {pN pV : Addr} (P : Pats c pN pV) : FnOk c k (fun xs => call (.builtin "re.Pattern.search") xs) (schF pN pV) := by
  intro A s F ρ σ vs xs v σ' Q E hA H r e q
  unfold schF at e
  split at e
  · rename_i a x
    cases r with
    | cons r1 r => cases r with
      | cons r2 r =>
        cases r; cases r1; cases r2
        split at e
        · rename_i h
          have := Nat.eq_of_beq_eq_true h
          subst this
          split at e
          · rename_i hg
            obtain ⟨g1, g2⟩ := Bool.and_eq_true_iff.mp hg
            cases e
            obtain ⟨fs, sl, ct, items, m, sl', h1, h2, h3, h4, h5⟩ := P.n
            exact call_search_none (bad := badN) ((O.atK H) _ _ h1) rfl rfl h2 h3 ((O.atK H) _ _ h4) rfl (by rw [h5]; exact setN) (by rw [h5]; decide) g1 (Nat.le_of_ble_eq_true g2) (q _ _ ρ H .refl .none)
          · cases e
        · split at e
          · rename_i h
            have := Nat.eq_of_beq_eq_true h
            subst this
            split at e
            · rename_i hg
              obtain ⟨g1, g2⟩ := Bool.and_eq_true_iff.mp hg
              cases e
              obtain ⟨fs, sl, ct, items, m, sl', h1, h2, h3, h4, h5⟩ := P.v
              exact call_search_none (bad := badV) ((O.atK H) _ _ h1) rfl rfl h2 h3 ((O.atK H) _ _ h4) rfl (by rw [h5]; exact setV) (by rw [h5]; decide) g1 (Nat.le_of_ble_eq_true g2) (q _ _ ρ H .refl .none)
            · cases e
          · cases e
  · cases e
end
end Mine
namespace Mine
open PySem PySem.Spec PySem.Calls PyProof.Rows PySem.W

noncomputable def itmS (i : Nat) : SS := fun loc σ => match loc[i]? with
  | some (some .edict) => some (.next, loc, σ)
  | _ => none
section
variable {c : Cx} {k : Nat} {vars : List (Nat × Str)} {sc : Scope}
theorem edict_at {prog : Program} {w : World} {h : Heap} {a : Addr} (ha : h.get? a = some emptyDict) : h.DictAt (PySem.strKind prog w) a [] 0 :=
  ⟨emptyDict, #[], ha, ⟨rfl, rfl, rfl⟩, rfl, fun _ he => by simp at he, .nil, by simp⟩
theorem den_items {i : Nat} {x : Str} {target : Expr} {body : List Stmt} {px apos cpos pos : Pos} (hm : (i, x) ∈ vars) (hd : (x == ("__debug__" : Str)) = false) (hbase : ∀ env : Env, env.scope = sc → attributeBase (.Name x px) "items" env (eval (.Name x px) env) = eval (.Name x px) env) (hline : (apos.endLine == cpos.line) = true)
    (hfs : ∀ (env : Env) (x' : Value), foldedSetIterable (.Call (.Attribute (.Name x px) "items" apos) [] [] cpos) env x' = pure x') :
    DenS c k vars sc (.For target (.Call (.Attribute (.Name x px) "items" apos) [] [] cpos) body [] pos) (itmS i) := by
  intro env A s F ρ loc σ fl loc' σ' Q E hs hA H I e q
  unfold itmS at e
  split at e
  · rename_i hl
    cases e
    have hn : DenE c k vars sc (.Name x px) (nmE i) := den_nm hm hd
    have e0 : nmE i loc σ = some (.edict, σ) := by unfold nmE; rw [hl]
    obtain ⟨y, hy, ry⟩ := I.vals i x _ hm hl
    cases ry with
    | @edict a fa ha hsys =>
      have D := edict_at (prog := c.prog) (w := c.w) ha
      refine wpAny_For (wpAny_Call_items (knd := PySem.strKind c.prog c.w) (kvs := []) hsys (let ⟨o, es, r⟩ := D; ⟨o, es, 0, r⟩) (hbase env hs) hline (fun Q' hq => ?_) ?_) (hfs env)
      · refine wpAny_Name ?_ hd
        rcases hy with ⟨kd, m, hn, hx⟩ | ⟨kd, cl, hc, hx⟩
        · exact wpAny_loadName_local I.kind kd hn hx hq
        · exact wpAny_loadName_cell I.kind kd hc hx hq
      · have hk1 := push_keep s.heap { cls := .type "dict_items", data := .fields #[.ref a] }
        have D1 := edict_at (prog := c.prog) (w := c.w) (hk1 _ _ ha)
        refine wpAny_pyIter_items (knd := PySem.strKind c.prog c.w) (kvs := []) ⟨_, Heap.get?_push_size _ rfl, rfl, rfl⟩ D1 ?_
        have hk2 := push_keep (s.heap.push { cls := .type "dict_items", data := .fields #[.ref a] }) { cls := .type "dict_itemiterator", data := .fields #[.none, .bool false, .ref a, .int 0 0, .int ([] : List (Str × Value)).length 0, .int 0 0, .none, .none] }
        have D2 := edict_at (prog := c.prog) (w := c.w) (hk2 _ _ (hk1 _ _ ha))
        refine codeAny_forLoop_any (fun _ s' => s' = _) (fun n s' hs' => ?_) 0 rfl
        subst hs'
        refine wpAny_pyNext_items_end (knd := PySem.strKind c.prog c.w) (kvs := []) (ok := .none) (ov := .none) (i := 0) hA.1 (Heap.get?_push_size _ rfl) D2 rfl fun h' hx => ?_
        have hk : ∀ b o, s.heap.get? b = some o → h'.get? b = some o := fun b o e => hx b o (Nat.ne_of_lt (by
          have := Heap.lt_size (hk1 b o e); exact this)) (hk2 b o (hk1 b o e))
        refine wpAny_execs_nil ?_
        exact q .next _ ρ (H.ext hk) (I.adv (s' := { s with heap := h' }) H (Adv.ext hk)) (Adv.ext hk) .next
  · cases e
end
end Mine
namespace Mine
open PySem PySem.Spec PySem.Calls PyProof.Rows PySem.W

noncomputable def addF : SF := fun vs σ => match vs with
  | [.int a, .int b] => some (.int (a + b), σ)
  | [.str a, .str b] => addS [.str a, .str b] σ
  | vs => addL vs σ
noncomputable def mulF : SF := fun vs σ => match vs with
  | [.int a, .int b] => int2 mulI [.int a, .int b] σ
  | [.str a, .int b] => mulS [.str a, .int b] σ
  | vs => mulL vs σ
noncomputable def failS : SS := fun _ _ => none
section
variable {c : Cx} {k : Nat} {vars : List (Nat × Str)} {sc : Scope}
theorem fn_addF : FnOk c k (two (binaryOp .Add)) addF := by
  intro A s F ρ σ vs xs v σ' Q E hA H r e q
  unfold addF at e
  split at e
  · exact fn_add A s F ρ σ _ xs v σ' Q E hA H r e q
  · exact fn_addS A s F ρ σ _ xs v σ' Q E hA H r e q
  · exact fn_addL A s F ρ σ _ xs v σ' Q E hA H r e q
theorem fn_mulF : FnOk c k (two (binaryOp .Mult)) mulF := by
  intro A s F ρ σ vs xs v σ' Q E hA H r e q
  unfold mulF at e
  split at e
  · exact fn_mul A s F ρ σ _ xs v σ' Q E hA H r e q
  · exact fn_mulS A s F ρ σ _ xs v σ' Q E hA H r e q
  · exact fn_mulL A s F ρ σ _ xs v σ' Q E hA H r e q
theorem den_fail {st : Stmt} : DenS c k vars sc st failS := by
  intro env A s F ρ loc σ fl loc' σ' Q E hs hA H I e q
  cases e
end

end Mine
namespace Mine
open PySem PySem.Spec PySem.Calls PyProof.Rows PySem.W

mutual
theorem VR.low {lay : Addr → List Str} {F : Addr → Prop} {ρ : List Addr} {h : Heap} {v : V} {x : Value} : VR lay F ρ h v x → v.lowB ρ.length = true
  | .none => rfl
  | .bool => rfl
  | .int => rfl
  | .str => rfl
  | .g => rfl
  | .tup _ _ vs => VRs.low vs
  | .lst _ _ vs => VRs.low vs
  | .obj _ _ _ _ _ vs => VRs.low vs
  | .inst _ _ hn => Nat.ble_eq_true_of_le (List.getElem?_eq_some_iff.mp hn).1
  | .ref hn => Nat.ble_eq_true_of_le (List.getElem?_eq_some_iff.mp hn).1
  | .rng _ _ => rfl
  | .edict _ _ _ => rfl
theorem VRs.low {lay : Addr → List Str} {F : Addr → Prop} {ρ : List Addr} {h : Heap} {vs : List V} {xs : List Value} : VRs lay F ρ h vs xs → V.lowBs ρ.length vs = true
  | .nil => rfl
  | .cons r rs => by simp only [V.lowBs, VR.low r, VRs.low rs, Bool.and_self]
end
noncomputable def SO.items : SO → List V
  | .lst vs => vs
  | .dict _ vs => vs
  | .dead => []
theorem lowBs_iff {n : Nat} : ∀ {vs : List V}, V.lowBs n vs = true ↔ ∀ v ∈ vs, v.lowB n = true
  | [] => by simp [V.lowBs]
  | v :: vs => by simp [V.lowBs, lowBs_iff (vs := vs)]
theorem SO.lowB_iff {n : Nat} {o : SO} : o.lowB n = true ↔ ∀ v ∈ o.items, v.lowB n = true := by
  cases o with
  | lst vs => exact lowBs_iff
  | dict C vs => exact lowBs_iff
  | dead => simp [SO.lowB, SO.items]
theorem HInv.low {lay : Addr → List Str} {F : Addr → Prop} {h₀ : Heap} {ρ : List Addr} {σ : Hp} {h : Heap} (H : HInv lay F h₀ ρ σ h) {n : Nat} {o : SO} (e : σ[n]? = some o) : o.lowB ρ.length = true := by
  obtain ⟨hl, _⟩ := List.getElem?_eq_some_iff.mp e
  have hr : n < ρ.length := H.len ▸ hl
  have r := H.objs n o _ e (List.getElem?_eq_getElem hr)
  cases o with
  | lst vs => obtain ⟨items, _, v⟩ := r; exact v.low
  | dict C vs => obtain ⟨m, xs, _, _, v⟩ := r; exact v.low
  | dead => rfl
noncomputable def Left (σ σ' : Hp) : Prop := ∀ (i : Nat) (o : SO), σ'[i]? = some o → ∀ v ∈ o.items, v.lowB σ.length = true ∨ ∃ (j : Nat) (o' : SO), σ[j]? = some o' ∧ v ∈ o'.items
theorem CodeOk.trG {c : Cx} {k : Nat} {cd : List Value → Code} {f g : SF} (h : CodeOk c k cd f)
    (hg : ∀ vs σ v σ', g vs σ = some (v, σ') → ∃ v₁ σ₁, f vs σ = some (v₁, σ₁) ∧ v = V.frz σ.length σ₁ v₁ ∧ σ' = σ₁.take σ.length ∧ Left σ σ' ∧ (v.lowB σ.length = true ∨ ∃ w ∈ vs, v = w)) : CodeOk c k cd g := by
  intro A s F ρ σ vs xs v σ' R hA H r e q
  obtain ⟨v₁, σ₁, e1, rfl, rfl, hl, hv⟩ := hg vs σ v σ' e
  refine h A s F ρ σ vs xs v₁ σ₁ R hA H r e1 fun z s' ρ' H' A' r' => ?_
  have b1 : (V.frz σ.length σ₁ v₁).lowB σ.length = true := by
    rcases hv with hv | ⟨w, hw, e⟩
    · exact hv
    · rw [e, H.len]; exact lowBs_iff.mp r.low w hw
  have b2 : (σ₁.take σ.length).all (SO.lowB σ.length) = true := by
    refine List.all_eq_true.mpr fun o ho => ?_
    obtain ⟨i, hi, e⟩ := List.getElem_of_mem ho
    refine SO.lowB_iff.mpr fun v hv => ?_
    rcases hl i o (by rw [← e]; exact List.getElem?_eq_getElem hi) v hv with h | ⟨j, o', ej, m⟩
    · exact h
    · rw [H.len]; exact SO.lowB_iff.mp (H.low ej) v m
  obtain ⟨a, b, d⟩ := trunc_ok H H' A' r' (w := V.frz σ.length σ₁ v₁) (σ'' := σ₁.take σ.length) (by unfold trunc; rw [b1, b2]; rfl)
  exact q z s' ρ a b d
theorem CodeOk.ref {c : Cx} {k : Nat} {cd : List Value → Code} {f g : SF} (h : CodeOk c k cd f) (hg : ∀ vs σ v σ', g vs σ = some (v, σ') → f vs σ = some (v, σ')) : CodeOk c k cd g :=
  fun A s F ρ σ vs xs v σ' R hA H r e q => h A s F ρ σ vs xs v σ' R hA H r (hg vs σ v σ' e) q

noncomputable def relabelS (scope sc : Scope) : Scope :=
  relabel scope { scope := sc, locals := 0, globals := 0, cells := [], qual := default, func := none, code := default, frame := default, builtins := 0 }
theorem rel_of {scope sc : Scope} (env : Env) (h : env.scope = sc) : relabel scope env = relabelS scope sc := by
  subst h; rfl
noncomputable def cmpV (varsN : List (Nat × Str)) (is : List Nat) (tgt : SA) (test : ST) (elt : SE) (fi : SE) : SE := cmpE is tgt test elt fi
noncomputable def lcOk (vars varsC : List (Nat × Str)) (sc scope : Scope) (is : List Nat) : Bool :=
  decide (scope.kind = .function) && scope.names.all (fun x => decide (x.2 = .local → scope.names.lookup x.1 = some .local)) && scope.names.all (fun x => decide (x.2 ≠ .cell)) &&
  scope.names.all (fun p => decide (p.2 = .free → vars.any (fun q => decide (q.2 = p.1)) = true ∧ sc.names.lookup p.1 = some .cell)) && varsOk varsC &&
  varsC.all (fun p => (decide ((relabelS scope sc).names.lookup p.2 = some .local) && decide (p.1 ∈ is)) || (decide ((relabelS scope sc).names.lookup p.2 = some .cell) && decide (p ∈ vars) && decide ((p.2, NameKind.free) ∈ scope.names) && decide (sc.names.lookup p.2 = some .cell)))
theorem LcShape.of {vars varsC : List (Nat × Str)} {sc scope : Scope} {is : List Nat} (h : lcOk vars varsC sc scope is = true) : LcShape vars varsC sc scope (relabelS scope sc) is := by
  unfold lcOk at h
  simp only [Bool.and_eq_true, List.all_eq_true, decide_eq_true_eq] at h
  obtain ⟨⟨⟨⟨⟨h1, h2⟩, h3⟩, h4⟩, h5⟩, h6⟩ := h
  refine ⟨h1, h2, h3, rel_of, fun p hp hf => ?_, VarsOk.of h5, fun p hp => ?_⟩
  · obtain ⟨a, b⟩ := h4 p hp hf
    obtain ⟨q, hq, e⟩ := List.any_eq_true.mp a
    have e := of_decide_eq_true e
    exact ⟨q.1, by rw [← e]; exact hq, b⟩
  · have := h6 p hp
    simp only [Bool.or_eq_true, Bool.and_eq_true, decide_eq_true_eq] at this
    rcases this with ⟨a, b⟩ | ⟨⟨⟨a, b⟩, d⟩, f⟩
    · exact .inl ⟨a, b⟩
    · exact .inr ⟨a, b, d, f⟩
section
variable {c : Cx} {k : Nat} {vars varsC : List (Nat × Str)} {sc scope : Scope} {is : List Nat}
theorem den_lcV {elt target iter : Expr} {ifs : List Expr} {pos : Pos} {tgt : SA} {test : ST} {felt fi : SE} (S : lcOk vars varsC sc scope is = true) (hi : DenE c k vars sc iter fi) (ht : DenAL c k varsC (relabelS scope sc) target tgt) (hif : DenIfs c k varsC (relabelS scope sc) ifs test) (he : DenE c k varsC (relabelS scope sc) elt felt)
    (hfs : ∀ (env : Env) (x : Value), foldedSetIterable iter env x = pure x) : DenE c k vars sc (.ListComp elt [⟨target, iter, ifs, 0⟩] scope pos) (cmpV varsC is tgt test felt fi) := den_lc (LcShape.of S) hi ht hif he hfs
theorem den_asgLcV {i : Nat} {y : Str} {py spos : Pos} {elt target iter : Expr} {ifs : List Expr} {pos : Pos} {tgt : SA} {test : ST} {felt fi : SE} (S : lcOk vars varsC sc scope is = true) (hi : DenE c k vars sc iter fi) (ht : DenAL c k varsC (relabelS scope sc) target tgt) (hif : DenIfs c k varsC (relabelS scope sc) ifs test) (he : DenE c k varsC (relabelS scope sc) elt felt)
    (hfs : ∀ (env : Env) (x : Value), foldedSetIterable iter env x = pure x) (hm : (i, y) ∈ vars)
    (hsw : ∀ env : Env, env.scope = sc → swapsWith (.ListComp elt [⟨target, iter, ifs, 0⟩] scope pos) (some (.Name y py)) spos.line env = pure true) :
    DenS c k vars sc (.Assign [.Name y py] (.ListComp elt [⟨target, iter, ifs, 0⟩] scope pos) spos) (asgS i (cmpV varsC is tgt test felt fi)) := den_asgLc (LcShape.of S) hi ht hif he hfs hm hsw
end
end Mine
namespace Mine
open PySem PySem.Spec PySem.Calls PyProof.Rows PySem.W

noncomputable def fdIn (K : Frag) (f : Addr) : FuncData := match K.lookup f with
  | some ⟨_, _, .func fd, _⟩ => fd
  | _ => default
noncomputable def bodyIn (K : Frag) (f : Addr) : List Stmt := match (fdIn K f).body with
  | .stmts b => b
  | _ => []
noncomputable def kindOk (sc : Scope) (x : Str) : Bool := match sc.names.lookup x with
  | some .local => true
  | some .cell => true
  | _ => false
noncomputable def shapeOk (K : Frag) (f : Addr) (names : List Str) (vars : List (Nat × Str)) (nloc : Nat) : Bool := match K.lookup f with
  | some ⟨_, _, .func fd, _⟩ => codeIn K fd.code fd.qualname && (match fd.body with | .stmts _ => true | _ => false) && fd.closure.isEmpty && Nat.beq fd.globals mainGlobals && Nat.beq fd.builtins builtinsNs && !fd.scope.isCoroutine && !fd.scope.isGenerator
      && decide (fd.scope.kind = .function) && decide names.Nodup && varsOk vars && vars.all (fun p => kindOk fd.scope p.2) && (List.range names.length).all (fun i => match names[i]? with | some x => decide ((i, x) ∈ vars) | none => true) && Nat.ble names.length nloc
  | _ => false
theorem FnShape.of {c : Cx} {f : Addr} {names : List Str} {vars : List (Nat × Str)} {nloc : Nat} (h : shapeOk c.K f names vars nloc = true) : FnShape c f (fdIn c.K f) (bodyIn c.K f) names vars nloc := by
  unfold shapeOk at h
  split at h
  · rename_i oc od fd osl hl
    have e1 : fdIn c.K f = fd := by unfold fdIn; rw [hl]
    have e2 : bodyIn c.K f = (match fd.body with | .stmts b => b | _ => []) := by unfold bodyIn; rw [e1]
    rw [e1, e2]
    simp only [Bool.and_eq_true, Bool.not_eq_true', decide_eq_true_eq] at h
    obtain ⟨⟨⟨⟨⟨⟨⟨⟨⟨⟨⟨⟨a1, a2⟩, a3⟩, a4⟩, a5⟩, a6⟩, a7⟩, a8⟩, a9⟩, a10⟩, a11⟩, a12⟩, a13⟩ := h
    refine ⟨⟨oc, od, osl, hl⟩, a1, ?_, List.isEmpty_iff.mp a3, Nat.eq_of_beq_eq_true a4, Nat.eq_of_beq_eq_true a5, a6, a7, a8, a9, VarsOk.of a10, fun p hp => ?_, fun i x hx => ?_, Nat.le_of_ble_eq_true a13⟩
    · split at a2
      · rename_i b hb; rw [hb]
      · cases a2
    · have := List.all_eq_true.mp a11 p hp
      unfold kindOk at this
      split at this
      · rename_i e; exact .inl e
      · rename_i e; exact .inr e
      · cases this
    · obtain ⟨il, _⟩ := List.getElem?_eq_some_iff.mp hx
      have := List.all_eq_true.mp a12 i (List.mem_range.mpr il)
      rw [hx] at this
      exact of_decide_eq_true this
  · cases h
theorem mm {vars : List (Nat × Str)} {p : Nat × Str} (j : Nat) (h : vars[j]? = some p) : p ∈ vars := List.mem_of_getElem? h
end Mine
namespace Mine
open PySem PySem.Spec PySem.Calls PyProof.Rows PySem.W
theorem len1 {α : Type} {xs : List α} (h : xs.length = 1) : ∃ a, xs = [a] := by
  cases xs with
  | nil => cases h
  | cons a r => exact ⟨a, congrArg (List.cons a) (List.eq_nil_of_length_eq_zero (Nat.succ.inj h))⟩
theorem len2 {α : Type} {xs : List α} (h : xs.length = 2) : ∃ a b, xs = [a, b] := by
  cases xs with
  | nil => cases h
  | cons a r => exact (len1 (Nat.succ.inj h)).elim fun b e => ⟨a, b, congrArg (List.cons a) e⟩
theorem len3 {α : Type} {xs : List α} (h : xs.length = 3) : ∃ a b c, xs = [a, b, c] := by
  cases xs with
  | nil => cases h
  | cons a r => exact (len2 (Nat.succ.inj h)).elim fun b e => e.elim fun c e => ⟨a, b, c, congrArg (List.cons a) e⟩
theorem Binds.of1 {K : Frag} {fd : FuncData} {mk : List Value → Args} {x : Str} (h : ∀ a, bindArgs fd (mk [a]) = pure [(x, a)]) : Binds K fd mk [x] false := by
  intro M A s Q E xs X hx q
  obtain ⟨a, rfl⟩ := len1 hx
  exact BindsTo.of_eq (h a) M A E Q q
theorem Binds.of2 {K : Frag} {fd : FuncData} {mk : List Value → Args} {x y : Str} (h : ∀ a b, bindArgs fd (mk [a, b]) = pure [(x, a), (y, b)]) : Binds K fd mk [x, y] false := by
  intro M A s Q E xs X hx q
  obtain ⟨a, b, rfl⟩ := len2 hx
  exact BindsTo.of_eq (h a b) M A E Q q
theorem Binds.of3 {K : Frag} {fd : FuncData} {mk : List Value → Args} {x y z : Str} (h : ∀ a b c, bindArgs fd (mk [a, b, c]) = pure [(x, a), (y, b), (z, c)]) : Binds K fd mk [x, y, z] false := by
  intro M A s Q E xs X hx q
  obtain ⟨a, b, c, rfl⟩ := len3 hx
  exact BindsTo.of_eq (h a b c) M A E Q q
theorem BindsD.of2 {K : Frag} {fd : FuncData} {x y z : Str} {d : Value} (h : ∀ (s : Shared) a b, K.In s.heap → BindsTo s fd ⟨[a, b], []⟩ [(x, a), (y, b), (z, d)]) : BindsD K fd [x, y, z] [d] := by
  intro M A s Q E xs X hx q
  obtain ⟨a, b, rfl⟩ := len2 (Nat.succ.inj hx)
  exact h s a b X M A E Q q
theorem BindsD.of1 {K : Frag} {fd : FuncData} {x z : Str} {d : Value} (h : ∀ (s : Shared) a, K.In s.heap → BindsTo s fd ⟨[a], []⟩ [(x, a), (z, d)]) : BindsD K fd [x, z] [d] := by
  intro M A s Q E xs X hx q
  obtain ⟨a, rfl⟩ := len1 (Nat.succ.inj hx)
  exact h s a X M A E Q q
theorem Binds.of3x {K : Frag} {fd : FuncData} {mk : List Value → Args} {x y z u : Str} (h : ∀ a b c, bindArgs fd (mk [a, b, c]) = (do let d ← newDict #[]; pure [(x, a), (y, b), (z, c), (u, d)])) : Binds K fd mk [x, y, z, u] true := by
  intro M A s Q E xs X hx q
  obtain ⟨a, b, c, rfl⟩ := len3 (Nat.succ.inj hx)
  rw [h a b c]
  exact wpAny_bind (wpAny_newObj_type (wpAny_pure q))
end Mine
namespace Mine
open PySem PySem.Spec PySem.Calls PyProof.Rows PySem.W
structure Ad where
  WS : Nat
  HD : Nat
  pN : Nat
  pV : Nat
noncomputable abbrev ws_init_vars : List (Nat × Str) := [(0, "self"), (1, "ws"), (2, "S"), (3, "T"), (4, "count"), (5, "b"), (6, "n"), (7, "nt"), (8, "ch")]
noncomputable def ws_init_b0 (a : Ad) : SS := seqS (ifS (cmT (op2 (eqF false) (nmE 8) (nmE 2))) (seqS (asgS 6 (op2 addF (nmE 6) (kE (.int 1)))) (seqS (asgS 5 (op2 addF (nmE 5) (kE (.int 1)))) (nilS))) (seqS (ifS (cmT (op2 (eqF false) (nmE 8) (nmE 3))) (seqS (asgS 6 (op2 addF (nmE 6) (kE (.int 1)))) (seqS (asgS 7 (op2 addF (nmE 7) (kE (.int 1)))) (seqS (ifS (cmT (op2 (int2 geI) (nmE 5) (callE lenF [nmE 4]))) (seqS (asgS 4 (op2 addF (nmE 4) (op2 mulF (lstE [kE (.int 0)]) (op2 addF (op2 (int2 subI) (nmE 5) (callE lenF [nmE 4])) (kE (.int 1)))))) (nilS)) (nilS)) (seqS (asgT (stI (nmE 4) (nmE 5)) (op2 addF (op2 idxF (nmE 4) (nmE 5)) (kE (.int 1)))) (seqS (asgS 5 (kE (.int 0))) (nilS)))))) (seqS (brkS) (nilS))) (nilS))) (nilS)
noncomputable def ws_init_sh (a : Ad) : SS := seqS (asgT (stA a.WS 0 (nmE 0)) (nmE 1)) (seqS (swpS [2, 3] (tupE [op1 (clsF a.WS (.str " ")) (kE (.g (.ref a.WS))), op1 (clsF a.WS (.str "\t")) (kE (.g (.ref a.WS)))])) (seqS (asgS 4 (mlstE [])) (seqS (asg3 (nmA 5) (nmA 6) (nmA 7) (kE (.int 0))) (seqS (forS (nmA 8) (ws_init_b0 a) (op1 (atF a.WS 0) (nmE 0))) (seqS (asgT (stA a.WS 1 (nmE 0)) (nmE 6)) (seqS (asgT (stA a.WS 2 (nmE 0)) (nmE 7)) (seqS (asgT (stA a.WS 3 (nmE 0)) (tupE [callE tupF [nmE 4], nmE 5])) (seqS (asgT (stA a.WS 4 (nmE 0)) (op2 (int2 leI) (callE lenF [nmE 4]) (kE (.int 1)))) (nilS)))))))))
noncomputable def ws_init0 (a : Ad) : SF := fnF 2 9 false (ws_init_sh a)
structure Sc where
  cnt : List Int
  b : Nat
  n : Nat
  nt : Nat
noncomputable def padL (c : List Int) (b : Nat) : List Int := if c.length ≤ b then c ++ List.replicate (b - c.length + 1) 0 else c
noncomputable def bump (c : List Int) (b : Nat) : List Int := (padL c b).set b ((padL c b).getD b 0 + 1)
noncomputable def scan : List Nat → Sc → Sc
  | [], s => s
  | ch :: r, s => if ch = 32 then scan r ⟨s.cnt, s.b + 1, s.n + 1, s.nt⟩ else if ch = 9 then scan r ⟨bump s.cnt s.b, 0, s.n + 1, s.nt + 1⟩ else s
noncomputable def scan0 (x : Str) : Sc := scan x.cps.toList ⟨[], 0, 0, 0⟩
noncomputable def wsL (raw : Str) (s : Sc) : List V := [.str raw, .int s.n, .int s.nt, .tup [.tup (s.cnt.map .int), .int s.b], .bool (decide ((s.cnt.length : Int) ≤ 1))]
noncomputable def wsV (a : Ad) (raw : Str) (s : Sc) : V := .obj a.WS (wsL raw s)
noncomputable def ascS (x : Str) : Bool := x.cps.all (· < 128) && Nat.ble x.length 500
noncomputable def Whitespace (a : Ad) : SF := fun vs σ => match vs with
  | [.str x] => if ascS x then some (wsV a x (scan0 x), σ) else none
  | _ => none
noncomputable abbrev ws_longest_vars : List (Nat × Str) := [(0, "self"), (1, "count"), (2, "trailing")]
noncomputable def ws_longest_sh (a : Ad) : SS := seqS (asgT (tupT [nmA 1, nmA 2]) (op1 (atF a.WS 3) (nmE 0))) (seqS (retS (callE maxF [op2 (int2 subI) (callE lenF [nmE 1]) (kE (.int 1)), nmE 2])) (nilS))
noncomputable def ws_longest (a : Ad) : SF := fnF 1 3 false (ws_longest_sh a)
noncomputable abbrev ws_level_vars : List (Nat × Str) := [(0, "self"), (1, "tabsize"), (2, "count"), (3, "trailing"), (4, "il"), (5, "i")]
noncomputable def ws_level_b0 (a : Ad) : SS := seqS (asgS 4 (op2 addF (nmE 4) (op2 mulF (op2 (int2 divI) (nmE 5) (nmE 1)) (op2 idxF (nmE 2) (nmE 5))))) (nilS)
noncomputable def ws_level_sh (a : Ad) : SS := seqS (asgT (tupT [nmA 2, nmA 3]) (op1 (atF a.WS 3) (nmE 0))) (seqS (asgS 4 (kE (.int 0))) (seqS (forS (nmA 5) (ws_level_b0 a) (callE rngF [nmE 1, callE lenF [nmE 2]])) (seqS (retS (op2 addF (nmE 3) (op2 mulF (nmE 1) (op2 addF (nmE 4) (op1 (atF a.WS 2) (nmE 0)))))) (nilS))))
noncomputable def ws_level (a : Ad) : SF := fnF 2 6 false (ws_level_sh a)
noncomputable abbrev ws_equal_vars : List (Nat × Str) := [(0, "self"), (1, "other")]
noncomputable def ws_equal_sh (a : Ad) : SS := seqS (retS (op2 (eqF false) (op1 (atF a.WS 3) (nmE 0)) (op1 (atF a.WS 3) (nmE 1)))) (nilS)
noncomputable def ws_equal (a : Ad) : SF := fnF 2 2 false (ws_equal_sh a)
noncomputable abbrev ws_less_vars : List (Nat × Str) := [(0, "self"), (1, "other"), (2, "n"), (3, "ts")]
noncomputable def ws_less_b0 (a : Ad) : SS := seqS (ifS (cmT (op2 (int2 geI) (methE (chkI a.WS) (ws_level a) (nmE 0) [nmE 3]) (methE (chkI a.WS) (ws_level a) (nmE 1) [nmE 3]))) (seqS (retS (kE (.bool false))) (nilS)) (nilS)) (nilS)
noncomputable def ws_less_sh (a : Ad) : SS := seqS (ifS (cmT (op2 (int2 geI) (op1 (atF a.WS 1) (nmE 0)) (op1 (atF a.WS 1) (nmE 1)))) (seqS (retS (kE (.bool false))) (nilS)) (nilS)) (seqS (ifS (allT .And [cmT (op1 (atF a.WS 4) (nmE 0)), cmT (op1 (atF a.WS 4) (nmE 1))]) (seqS (retS (op2 (int2 leI) (op1 (atF a.WS 2) (nmE 0)) (op1 (atF a.WS 2) (nmE 1)))) (nilS)) (nilS)) (seqS (asgS 2 (op2 addF (callE maxF [methE (chkI a.WS) (ws_longest a) (nmE 0) [], methE (chkI a.WS) (ws_longest a) (nmE 1) []]) (kE (.int 1)))) (seqS (forS (nmA 3) (ws_less_b0 a) (callE rngF [kE (.int 2), op2 addF (nmE 2) (kE (.int 1))])) (seqS (retS (kE (.bool true))) (nilS)))))
noncomputable def ws_less (a : Ad) : SF := fnF 2 4 false (ws_less_sh a)
noncomputable abbrev hd_cst_vars : List (Nat × Str) := [(0, "self"), (1, "value"), (2, "name"), (3, "regex")]
noncomputable def hd_cst_sh (a : Ad) : SS := seqS (ifS (cmT (op2 (isF false) (callE typF [nmE 1]) (kE (.g (.type "str"))))) (seqS (asgS 3 (ifE (cmT (nmE 2)) (kE (.g (.ref a.pN))) (kE (.g (.ref a.pV))))) (seqS (ifS (cmT (methE (chkP a.pN a.pV) (schF a.pN a.pV) (nmE 3) [nmE 1])) (seqS (failS) (nilS)) (nilS)) (seqS (retS (nmE 1)) (nilS)))) (nilS)) (seqS (failS) (nilS))
noncomputable def hd_cst (a : Ad) : SF := fnF 3 4 false (hd_cst_sh a)
noncomputable abbrev hd_init_vars : List (Nat × Str) := [(0, "self"), (1, "headers"), (2, "k"), (3, "v")]
noncomputable def hd_init_b0 (a : Ad) : SS := seqS (exprS (methKwE (chkI a.HD) (hd_cst a) (nmE 0) [nmE 2] true)) (seqS (exprS (methKwE (chkI a.HD) (hd_cst a) (nmE 0) [nmE 3] false)) (nilS))
noncomputable def hd_init_sh (a : Ad) : SS := seqS (asgS 1 (ifE (cmT (op2 (isF true) (nmE 1) (kE .none))) (nmE 1) (mlstE []))) (seqS (ifS (cmT (op2 (isF true) (callE typF [nmE 1]) (kE (.g (.type "list"))))) (seqS (failS) (nilS)) (nilS)) (seqS (asgT (stA a.HD 0 (nmE 0)) (nmE 1)) (seqS (ifS (cmT (kE (.bool true))) (seqS (forS (tupT [nmA 2, nmA 3]) (hd_init_b0 a) (nmE 1)) (nilS)) (nilS)) (nilS))))
noncomputable def hd_init (a : Ad) : SF := fnF 2 4 false (hd_init_sh a)
noncomputable def Headers (a : Ad) : SF := clsC a.HD (dfF 1 [.none] (hd_init a))
noncomputable abbrev hd_delitem_vars : List (Nat × Str) := [(0, "self"), (1, "name")]
noncomputable abbrev hd_delitem_vars0 : List (Nat × Str) := [(2, "kv"), (1, "name")]
noncomputable def hd_delitem_sh (a : Ad) : SS := seqS (asgS 1 (methKwE (chkI a.HD) (hd_cst a) (nmE 0) [methE chkStr lowF (nmE 1) []] true)) (seqS (asgT (stSl (op1 (atF a.HD 0) (nmE 0))) (cmpV hd_delitem_vars0 [2] (nmA 2) (cmT (op2 (eqF true) (methE chkStr lowF (op2 idxF (nmE 2) (kE (.int 0))) []) (nmE 1))) (nmE 2) (op1 (atF a.HD 0) (nmE 0)))) (nilS))
noncomputable def hd_delitem (a : Ad) : SF := fnF 2 3 false (hd_delitem_sh a)
noncomputable abbrev hd_setitem_vars : List (Nat × Str) := [(0, "self"), (1, "name"), (2, "val")]
noncomputable def hd_setitem_sh (a : Ad) : SS := seqS (delS a.HD (hd_delitem a) (nmE 0) (nmE 1)) (seqS (exprS (methE chkRef appF (op1 (atF a.HD 0) (nmE 0)) [tupE [methKwE (chkI a.HD) (hd_cst a) (nmE 0) [nmE 1] true, methKwE (chkI a.HD) (hd_cst a) (nmE 0) [nmE 2] false]])) (nilS))
noncomputable def hd_setitem (a : Ad) : SF := fnF 3 3 false (hd_setitem_sh a)
noncomputable abbrev hd_get_vars : List (Nat × Str) := [(0, "self"), (1, "name"), (2, "default"), (3, "k"), (4, "v")]
noncomputable def hd_get_b0 (a : Ad) : SS := seqS (ifS (cmT (op2 (eqF false) (methE chkStr lowF (nmE 3) []) (nmE 1))) (seqS (retS (nmE 4)) (nilS)) (nilS)) (nilS)
noncomputable def hd_get_sh (a : Ad) : SS := seqS (asgS 1 (methKwE (chkI a.HD) (hd_cst a) (nmE 0) [methE chkStr lowF (nmE 1) []] true)) (seqS (forS (tupT [nmA 3, nmA 4]) (hd_get_b0 a) (op1 (atF a.HD 0) (nmE 0))) (seqS (retS (nmE 2)) (nilS)))
noncomputable def hd_get (a : Ad) : SF := fnF 3 5 false (hd_get_sh a)
noncomputable def hd_get1 (a : Ad) : SF := dfF 2 [.none] (hd_get a)
noncomputable abbrev hd_keys_vars : List (Nat × Str) := [(0, "self")]
noncomputable abbrev hd_keys_vars0 : List (Nat × Str) := [(1, "k"), (2, "v")]
noncomputable def hd_keys_sh (a : Ad) : SS := seqS (retS (cmpV hd_keys_vars0 [1, 2] (tupT [nmA 1, nmA 2]) (ttT) (nmE 1) (op1 (atF a.HD 0) (nmE 0)))) (nilS)
noncomputable def hd_keys (a : Ad) : SF := fnF 1 3 false (hd_keys_sh a)
noncomputable abbrev hd_setdefault_vars : List (Nat × Str) := [(0, "self"), (1, "name"), (2, "value"), (3, "result")]
noncomputable def hd_setdefault_sh (a : Ad) : SS := seqS (asgS 3 (methE (chkI a.HD) (hd_get1 a) (nmE 0) [nmE 1])) (seqS (ifS (cmT (op2 (isF false) (nmE 3) (kE .none))) (seqS (exprS (methE chkRef appF (op1 (atF a.HD 0) (nmE 0)) [tupE [methKwE (chkI a.HD) (hd_cst a) (nmE 0) [nmE 1] true, methKwE (chkI a.HD) (hd_cst a) (nmE 0) [nmE 2] false]])) (seqS (retS (nmE 2)) (nilS))) (seqS (retS (nmE 3)) (nilS))) (nilS))
noncomputable def hd_setdefault (a : Ad) : SF := fnF 3 4 false (hd_setdefault_sh a)
noncomputable abbrev hd_addh_vars : List (Nat × Str) := [(0, "self"), (1, "_name"), (2, "_value"), (3, "_params"), (4, "parts"), (5, "k"), (6, "v")]
noncomputable def hd_addh_sh (a : Ad) : SS := seqS (asgS 4 (mlstE [])) (seqS (ifS (cmT (op2 (isF true) (nmE 2) (kE .none))) (seqS (asgS 2 (methKwE (chkI a.HD) (hd_cst a) (nmE 0) [nmE 2] false)) (seqS (exprS (methE chkRef appF (nmE 4) [nmE 2])) (nilS))) (nilS)) (seqS (itmS 3) (seqS (exprS (methE chkRef appF (op1 (atF a.HD 0) (nmE 0)) [tupE [methKwE (chkI a.HD) (hd_cst a) (nmE 0) [nmE 1] true, methE chkStr joiF (kE (.str "; ")) [nmE 4]]])) (nilS))))
noncomputable def hd_addh0 (a : Ad) : SF := fnF 3 7 true (hd_addh_sh a)
noncomputable def hdrs (a : Ad) (σ : Hp) (v : V) : Option (Nat × List V) := match attrs? σ v with
  | some (C, [.ref m]) => if Nat.beq C a.HD then (match σ[m]? with | some (.lst items) => some (m, items) | _ => none) else none
  | _ => none
noncomputable def addTo (σ : Hp) (m : Nat) (items : List V) (x y : Str) : Option (V × Hp) := if Nat.ble items.length lmax then some (.none, σ.set m (.lst (items ++ [.tup [.str x, .str y]]))) else none
noncomputable def hd_addh (a : Ad) : SF := fun vs σ => match vs with
  | [self, .str x, .none] => (match hdrs a σ self with | some (m, items) => if goodS badN x then addTo σ m items x "" else none | none => none)
  | [self, .str x, .str y] => (match hdrs a σ self with | some (m, items) => if goodS badN x && goodS badV y && Nat.ble y.length 1000 then addTo σ m items x y else none | none => none)
  | _ => none
end Mine
namespace Mine
open PySem PySem.Spec PySem.Calls PyProof.Rows PySem.W
noncomputable abbrev callsF2_vars : List (Nat × Str) := [(0, "script"), (1, "rests")]
noncomputable abbrev callsF2_vars0 : List (Nat × Str) := [(2, "number")]
noncomputable abbrev callsF2_vars1 : List (Nat × Str) := [(3, "rest")]
noncomputable def callsF2_sh (a : Ad) : SS := seqS (asgS 1 (cmpV callsF2_vars0 [2] (nmA 2) (ttT) (op2 (int2 modI) (nmE 2) (kE (.int 32))) (op2 addF (op2 slcF (nmE 0) (kE (.int 8))) (lstE [kE (.int 8), kE (.int 3), kE (.int 8), kE (.int 10), kE (.int 5), kE (.int 14)])))) (seqS (retS (cmpV callsF2_vars1 [3] (nmA 3) (ttT) (tupE [op2 (int2 modI) (nmE 3) (kE (.int 2)), op2 (int2 modI) (op2 (int2 divI) (nmE 3) (kE (.int 2))) (kE (.int 4)), op2 (int2 divI) (nmE 3) (kE (.int 8))]) (nmE 1))) (nilS))
noncomputable def callsF2 (a : Ad) : SF := fnF 1 4 false (callsF2_sh a)
noncomputable abbrev threeF2_vars : List (Nat × Str) := [(0, "one"), (1, "other")]
noncomputable def threeF2_sh (a : Ad) : SS := seqS (retS (callE strF [lstE [methE (chkI a.WS) (ws_less a) (nmE 0) [nmE 1], methE (chkI a.WS) (ws_less a) (nmE 1) [nmE 0], methE (chkI a.WS) (ws_equal a) (nmE 0) [nmE 1]]])) (nilS)
noncomputable def threeF2 (a : Ad) : SF := fnF 2 2 false (threeF2_sh a)
noncomputable abbrev columnsF2_vars : List (Nat × Str) := [(0, "counts"), (1, "columns"), (2, "size"), (3, "column"), (4, "length"), (5, "turn")]
noncomputable def columnsF2_b0 (a : Ad) : SS := seqS (asgS 3 (op2 addF (nmE 3) (nmE 4))) (seqS (asgS 3 (op2 (int2 subI) (op2 addF (nmE 3) (nmE 2)) (op2 (int2 modI) (nmE 3) (nmE 2)))) (nilS))
noncomputable def columnsF2_b1 (a : Ad) : SS := seqS (forS (nmA 5) (columnsF2_b0 a) (callE rngF [op2 idxF (nmE 0) (nmE 4)])) (nilS)
noncomputable def columnsF2_b2 (a : Ad) : SS := seqS (asgS 3 (kE (.int 0))) (seqS (forS (nmA 4) (columnsF2_b1 a) (callE rngF [kE (.int 4)])) (seqS (exprS (methE chkRef appF (nmE 1) [nmE 3])) (nilS)))
noncomputable def columnsF2_sh (a : Ad) : SS := seqS (asgS 1 (mlstE [])) (seqS (forS (nmA 2) (columnsF2_b2 a) (callE rngF [kE (.int 1), kE (.int 6)])) (seqS (retS (nmE 1)) (nilS)))
noncomputable def columnsF20 (a : Ad) : SF := fnF 1 6 false (columnsF2_sh a)
noncomputable def colW (size : Nat) (cs : List Nat) (l : Nat) (col : Nat) : Nat := match cs with
  | [] => col
  | c :: r => colW size r (l + 1) (Nat.repeat (fun x => x + l + size - (x + l) % size) c col)
noncomputable def cols2 (cs : List Nat) : List V := [1, 2, 3, 4, 5].map fun size => .int (colW size cs 0 0)
noncomputable def natsOf : List V → Option (List Nat)
  | [] => some []
  | .int i :: r => if decide (0 ≤ i) && decide (i ≤ 1000) then (match natsOf r with | some l => some (i.toNat :: l) | none => none) else none
  | _ => none
noncomputable def columnsF2 (_ : Ad) : SF := fun vs σ => match vs with
  | [.ref n] => (match σ[n]? with
    | some (.lst [c0, c1, c2, c3]) => (match natsOf [c0, c1, c2, c3] with
      | some cs => some (.lst (cols2 cs), σ)
      | none => none)
    | _ => none)
  | _ => none
noncomputable abbrev toldF2_vars : List (Nat × Str) := [(0, "calls"), (1, "tables"), (2, "indents"), (3, "told"), (4, "which"), (5, "kind"), (6, "length"), (7, "table"), (8, "name"), (9, "before"), (10, "other"), (11, "after"), (12, "columns"), (13, "members")]
noncomputable abbrev toldF2_vars0 : List (Nat × Str) := [(14, "key")]
noncomputable abbrev toldF2_vars1 : List (Nat × Str) := [(15, "size"), (11, "after")]
noncomputable def toldF2_b0 (a : Ad) : SS := seqS (asgS 7 (op2 idxF (nmE 1) (nmE 4))) (seqS (asgS 8 (op2 mulF (kE (.str " ")) (nmE 6))) (seqS (ifS (cmT (op2 (eqF false) (nmE 5) (kE (.int 0)))) (seqS (exprS (methE (chkI a.HD) (hd_addh a) (nmE 7) [nmE 8, kE .none])) (nilS)) (nilS)) (seqS (ifS (cmT (op2 (eqF false) (nmE 5) (kE (.int 1)))) (seqS (asgT (stM a.HD (hd_setitem a) (nmE 7) (nmE 8)) (kE (.str ""))) (nilS)) (nilS)) (seqS (ifS (cmT (op2 (eqF false) (nmE 5) (kE (.int 2)))) (seqS (exprS (methE (chkI a.HD) (hd_setdefault a) (nmE 7) [nmE 8, kE (.str "")])) (nilS)) (nilS)) (seqS (ifS (cmT (op2 (eqF false) (nmE 5) (kE (.int 3)))) (seqS (delS a.HD (hd_delitem a) (nmE 7) (nmE 8)) (nilS)) (nilS)) (seqS (swpS [9, 10] (tupE [op2 idxF (nmE 2) (nmE 4), op2 idxF (nmE 2) (op2 (int2 subI) (kE (.int 1)) (nmE 4))])) (seqS (asgS 11 (callE (Whitespace a) [methE chkStr joiF (kE (.str "")) [cmpV toldF2_vars0 [14] (nmA 14) (ttT) (op2 addF (nmE 14) (kE (.str "\t"))) (methE (chkI a.HD) (hd_keys a) (nmE 7) [])]])) (seqS (asgT (stI (nmE 2) (nmE 4)) (nmE 11)) (seqS (asgS 12 (cmpV toldF2_vars1 [15] (nmA 15) (ttT) (methE (chkI a.WS) (ws_level a) (nmE 11) [nmE 15]) (callE rngF [kE (.int 1), kE (.int 6)]))) (seqS (asgS 13 (tupE [op1 (atF a.WS 1) (nmE 11), op1 (atF a.WS 2) (nmE 11), op1 (atF a.WS 3) (nmE 11), callE strF [op1 (atF a.WS 4) (nmE 11)], nmE 12])) (seqS (exprS (methE chkRef appF (nmE 3) [tupE [nmE 13, callE (threeF2 a) [nmE 9, nmE 11], callE (threeF2 a) [nmE 11, nmE 10]]])) (nilS))))))))))))
noncomputable def toldF2_sh (a : Ad) : SS := seqS (asgS 1 (lstE [callE (Headers a) [], callE (Headers a) []])) (seqS (asgS 2 (mlstE [callE (Whitespace a) [kE (.str "")], callE (Whitespace a) [kE (.str "")]])) (seqS (asgS 3 (mlstE [])) (seqS (forS (tupT [nmA 4, nmA 5, nmA 6]) (toldF2_b0 a) (nmE 0)) (seqS (retS (nmE 3)) (nilS)))))
noncomputable def toldF2 (a : Ad) : SF := trF (fnF 1 16 false (toldF2_sh a))
noncomputable abbrev dueF2_vars : List (Nat × Str) := [(0, "calls"), (1, "tables"), (2, "due"), (3, "which"), (4, "kind"), (5, "length"), (6, "counts"), (7, "had"), (8, "now"), (9, "stand"), (10, "form"), (11, "mine"), (12, "other"), (13, "members"), (14, "lower"), (15, "upper")]
noncomputable abbrev dueF2_vars0 : List (Nat × Str) := [(16, "k"), (6, "counts")]
noncomputable abbrev dueF2_vars1 : List (Nat × Str) := [(17, "k"), (6, "counts")]
noncomputable abbrev dueF2_vars2 : List (Nat × Str) := [(18, "k"), (11, "mine"), (12, "other")]
noncomputable abbrev dueF2_vars3 : List (Nat × Str) := [(19, "k"), (11, "mine"), (12, "other")]
noncomputable def dueF2_b0 (a : Ad) : SS := seqS (asgS 6 (op2 idxF (nmE 1) (nmE 3))) (seqS (asgS 7 (op2 idxF (nmE 6) (nmE 5))) (seqS (asgS 8 (op2 idxF (lstE [op2 addF (nmE 7) (kE (.int 1)), kE (.int 1), callE maxF [nmE 7, kE (.int 1)], kE (.int 0)]) (nmE 4))) (seqS (asgT (stI (nmE 6) (nmE 5)) (nmE 8)) (seqS (asgS 9 (cmpV dueF2_vars0 [16] (nmA 16) (cmT (op2 (int2 gtI) (op2 idxF (nmE 6) (nmE 16)) (kE (.int 0)))) (nmE 16) (callE rngF [kE (.int 4)]))) (seqS (asgS 10 (ifE (cmT (op2 (eqF true) (nmE 9) (lstE []))) (callE tupF [op2 slcF (nmE 6) (op2 addF (callE maxF [nmE 9]) (kE (.int 1)))]) (tupE []))) (seqS (asgT (tupT [nmA 11, nmA 12]) (tupE [callE (columnsF2 a) [nmE 6], callE (columnsF2 a) [op2 idxF (nmE 1) (op2 (int2 subI) (kE (.int 1)) (nmE 3))]])) (seqS (asgS 13 (tupE [callE sumF [cmpV dueF2_vars1 [17] (nmA 17) (ttT) (op2 mulF (op2 idxF (nmE 6) (nmE 17)) (op2 addF (nmE 17) (kE (.int 1)))) (callE rngF [kE (.int 4)])], callE sumF [nmE 6], tupE [nmE 10, kE (.int 0)], callE strF [op2 (int2 ltI) (callE lenF [nmE 10]) (kE (.int 2))], nmE 11])) (seqS (asgS 14 (op2 (eqF false) (cmpV dueF2_vars2 [18] (nmA 18) (cmT (op2 (int2 geI) (op2 idxF (nmE 11) (nmE 18)) (op2 idxF (nmE 12) (nmE 18)))) (nmE 18) (callE rngF [kE (.int 5)])) (lstE []))) (seqS (asgS 15 (op2 (eqF false) (cmpV dueF2_vars3 [19] (nmA 19) (cmT (op2 (int2 leI) (op2 idxF (nmE 11) (nmE 19)) (op2 idxF (nmE 12) (nmE 19)))) (nmE 19) (callE rngF [kE (.int 5)])) (lstE []))) (seqS (exprS (methE chkRef appF (nmE 2) [tupE [nmE 13, callE strF [lstE [op2 (int2 gtI) (nmE 8) (nmE 7), op2 (int2 ltI) (nmE 8) (nmE 7), op2 (eqF false) (nmE 8) (nmE 7)]], callE strF [lstE [nmE 14, nmE 15, op2 (eqF false) (nmE 11) (nmE 12)]]]])) (nilS)))))))))))
noncomputable def dueF2_sh (a : Ad) : SS := seqS (asgS 1 (lstE [mlstE [kE (.int 0), kE (.int 0), kE (.int 0), kE (.int 0)], mlstE [kE (.int 0), kE (.int 0), kE (.int 0), kE (.int 0)]])) (seqS (asgS 2 (mlstE [])) (seqS (forS (tupT [nmA 3, nmA 4, nmA 5]) (dueF2_b0 a) (nmE 0)) (seqS (retS (nmE 2)) (nilS))))
noncomputable def dueF2 (a : Ad) : SF := trF (fnF 1 20 false (dueF2_sh a))
noncomputable abbrev lawF2_vars : List (Nat × Str) := [(0, "script"), (1, "calls")]
noncomputable def lawF2_sh (a : Ad) : SS := seqS (asgS 1 (callE (callsF2 a) [nmE 0])) (seqS (retS (op2 (eqF false) (callE (toldF2 a) [nmE 1]) (callE (dueF2 a) [nmE 1]))) (nilS))
noncomputable def lawF2 (a : Ad) : SF := fnF 1 2 false (lawF2_sh a)
end Mine
namespace Mine
open PySem PySem.Spec PySem.Calls PyProof.Rows PySem.W
theorem str_blank : (Str.ofString " ") = ⟨#[32]⟩ := by decide +kernel
theorem str_tab : (Str.ofString "\t") = ⟨#[9]⟩ := by decide +kernel
theorem eq_sign (c d : Nat) : ((⟨#[c]⟩ : Str) == ⟨#[d]⟩) = decide (c = d) := by
  by_cases h : c = d
  · subst h; simp
  · rw [decide_eq_false h]; exact beq_eq_false_iff_ne.mpr fun z => h (by injection z with z; simpa using z)
theorem okI_nat (n : Nat) (h : n ≤ 100000) : okI (n : Int) = true := by unfold okI; exact decide_eq_true (by omega)
theorem ble_lmax (k : Nat) (h : k ≤ 100000) : Nat.ble k lmax = true := Nat.ble_eq_true_of_le (by unfold lmax; omega)
theorem ixOf_nat (i n : Nat) (h : i < n) : ixOf (i : Int) n = some i := by
  unfold ixOf
  rw [if_pos (decide_eq_true (by omega)), if_pos (decide_eq_true (by omega))]; rfl

theorem scan_tab (a : Ad) (self : V) (x : Str) (s : Sc) (m : Nat) (τ : Hp) (hm : τ[m]? = some (.lst (s.cnt.map .int))) (hb5 : s.b ≤ 500) (hc : s.cnt.length ≤ 501) : ∃ m' τ',
    ws_init_b0 a [some self, some (.str x), some (.str " "), some (.str "\t"), some (.ref m), some (.int s.b), some (.int s.n), some (.int s.nt), some (.str ⟨#[9]⟩)] τ
      = some (.next, [some self, some (.str x), some (.str " "), some (.str "\t"), some (.ref m'), some (.int 0), some (.int (s.n + 1)), some (.int (s.nt + 1)), some (.str ⟨#[9]⟩)], τ')
      ∧ ((m' = m ∧ τ' = τ.set m (.lst ((bump s.cnt s.b).map .int))) ∨ (m' = τ.length ∧ τ' = τ ++ [.lst ((bump s.cnt s.b).map .int)])) := by
  by_cases hp : s.cnt.length ≤ s.b
  · have hge : (s.b : Int) ≥ (s.cnt.length : Int) := by omega
    have hcnt : ((s.b : Int) - (s.cnt.length : Int) + 1).toNat = s.b - s.cnt.length + 1 := by omega
    have r1 : (-1000 : Int) < (s.b : Int) - (s.cnt.length : Int) + 1 := by omega
    have r2 : (s.b : Int) - (s.cnt.length : Int) + 1 < 1000 := by omega
    have hpd : (s.cnt.map V.int) ++ List.replicate (s.b - s.cnt.length + 1) (V.int 0) = (padL s.cnt s.b).map .int := by simp [padL, hp]
    have hpl : (padL s.cnt s.b).length = s.b + 1 := by simp [padL, hp]; omega
    have hsz : s.cnt.length + (s.b - s.cnt.length + 1) = s.b + 1 := by omega
    have hlen : s.cnt.length ≤ lmax := by unfold lmax; omega
    have hlen2 : s.b + 1 ≤ lmax := by unfold lmax; omega
    have hok := okI_nat s.b (by omega)
    have hbump : (padL s.cnt s.b).set s.b ((padL s.cnt s.b).getD s.b 0 + 1) = bump s.cnt s.b := rfl
    generalize padL s.cnt s.b = p at hpd hpl hbump
    have hix := ixOf_nat s.b p.length (by omega)
    have hx : p[s.b]? = some (p.getD s.b 0) := by rw [List.getD_eq_getElem?_getD, List.getElem?_eq_getElem (by omega)]; rfl
    have r3 : (s.b : Int) < (p.length : Int) := by omega
    have r4 : s.b < p.length := by omega
    refine ⟨τ.length, τ ++ [.lst ((bump s.cnt s.b).map .int)], ?_, .inr ⟨rfl, rfl⟩⟩
    rw [← hbump]
    generalize p.getD s.b 0 = y at hx
    simp [ws_init_b0, seqS, ifS, cmT, op2, nmE, eqF, str_blank, str_tab, trV, asgS, addF, kE, nilS, eq_sign, int2, geI, callE, argsE, lenF, lstOf, addL, mulF, mulL, lstE, subI, asgT, stI, idxF, hm, hlen, hge, r1, r2, hcnt, hsz, hlen2, hpd, hok, hix, hx, r3, r4]
    have hy : p[s.b] = y := by have := List.getElem?_eq_getElem r4; rw [hx] at this; exact (Option.some.inj this).symm
    rw [hy]
  · have hge : ¬ (s.b : Int) ≥ (s.cnt.length : Int) := by omega
    have hpd : padL s.cnt s.b = s.cnt := by simp [padL, hp]
    have hlen : s.cnt.length ≤ lmax := by unfold lmax; omega
    have hok := okI_nat s.b (by omega)
    have hbump : s.cnt.set s.b (s.cnt.getD s.b 0 + 1) = bump s.cnt s.b := by unfold bump; rw [hpd]
    have hix := ixOf_nat s.b s.cnt.length (by omega)
    have hx : s.cnt[s.b]? = some (s.cnt.getD s.b 0) := by rw [List.getD_eq_getElem?_getD, List.getElem?_eq_getElem (by omega)]; rfl
    have r4 : s.b < s.cnt.length := by omega
    refine ⟨m, τ.set m (.lst ((bump s.cnt s.b).map .int)), ?_, .inl ⟨rfl, rfl⟩⟩
    rw [← hbump]
    generalize s.cnt.getD s.b 0 = y at hx
    simp [ws_init_b0, seqS, ifS, cmT, op2, nmE, eqF, str_blank, str_tab, trV, asgS, addF, kE, nilS, eq_sign, int2, geI, callE, argsE, lenF, lstOf, addL, mulF, mulL, lstE, subI, asgT, stI, idxF, hm, hlen, hge, hok, hix, hx, r4]
    have hy : s.cnt[s.b] = y := by have := List.getElem?_eq_getElem r4; rw [hx] at this; exact (Option.some.inj this).symm
    rw [hy]

theorem scan_loop (a : Ad) (self : V) (x : Str) (L : Nat) : ∀ (cs : List Nat) (s : Sc) (m : Nat) (τ : Hp) (c8 : Option V),
    L ≤ m → τ[m]? = some (.lst (s.cnt.map .int)) → s.b + cs.length ≤ 500 → s.cnt.length ≤ 501 →
    ∃ m' τ' c8', forL (nmA 8) (ws_init_b0 a) (cs.map fun c => .str ⟨#[c]⟩) [some self, some (.str x), some (.str " "), some (.str "\t"), some (.ref m), some (.int s.b), some (.int s.n), some (.int s.nt), c8] τ
      = some (.next, [some self, some (.str x), some (.str " "), some (.str "\t"), some (.ref m'), some (.int (scan cs s).b), some (.int (scan cs s).n), some (.int (scan cs s).nt), c8'], τ')
      ∧ L ≤ m' ∧ τ'[m']? = some (.lst ((scan cs s).cnt.map .int)) ∧ τ'.take L = τ.take L ∧ τ.length ≤ τ'.length ∧ (scan cs s).cnt.length ≤ 501 := by
  intro cs
  induction cs with
  | nil => intro s m τ c8 hL hm hb hc; exact ⟨m, τ, c8, rfl, hL, hm, rfl, Nat.le_refl _, hc⟩
  | cons c cs ih =>
    intro s m τ c8 hL hm hb hc
    have hml : m < τ.length := (List.getElem?_eq_some_iff.mp hm).1
    simp only [List.length_cons] at hb
    simp only [List.map_cons, forL, nmA, List.length_cons, List.length_nil, List.set_cons_succ, List.set_cons_zero]
    by_cases h32 : c = 32
    · subst h32
      obtain ⟨m', τ', c8', e, r⟩ := ih ⟨s.cnt, s.b + 1, s.n + 1, s.nt⟩ m τ (some (.str ⟨#[32]⟩)) hL hm (by simp only; omega) hc
      refine ⟨m', τ', c8', ?_, r⟩
      rw [scan, if_pos rfl, ← e]
      simp [ws_init_b0, seqS, ifS, cmT, op2, nmE, eqF, str_blank, trV, asgS, addF, kE, nilS]
    · by_cases h9 : c = 9
      · subst h9
        obtain ⟨m1, τ1, eb, hcase⟩ := scan_tab a self x s m τ hm (by omega) hc
        have hbl : (bump s.cnt s.b).length ≤ 501 := by simp only [bump, padL]; split <;> simp <;> omega
        have h1 : L ≤ m1 ∧ τ1[m1]? = some (.lst ((bump s.cnt s.b).map .int)) ∧ τ1.take L = τ.take L ∧ τ.length ≤ τ1.length := by
          rcases hcase with ⟨rfl, rfl⟩ | ⟨rfl, rfl⟩
          · exact ⟨hL, by rw [List.getElem?_set_self hml], by rw [List.take_set_of_le hL], by simp⟩
          · exact ⟨by omega, by simp, by rw [List.take_append_of_le_length (by omega)], by simp⟩
        obtain ⟨a1, a2, a3, a4⟩ := h1
        obtain ⟨m', τ', c8', e, e1, e2, e3, e4, e5⟩ := ih ⟨bump s.cnt s.b, 0, s.n + 1, s.nt + 1⟩ m1 τ1 (some (.str ⟨#[9]⟩)) a1 a2 (by simp only; omega) hbl
        rw [scan, if_neg h32, if_pos rfl]
        refine ⟨m', τ', c8', ?_, e1, e2, e3.trans a3, Nat.le_trans a4 e4, e5⟩
        rw [← e]
        simp only [eb, if_true, show (8 < 0 + 1 + 1 + 1 + 1 + 1 + 1 + 1 + 1 + 1) from by decide]
        rfl
      · refine ⟨m, τ, some (.str ⟨#[c]⟩), ?_, hL, ?_, rfl, Nat.le_refl _, ?_⟩
        · rw [scan, if_neg h32, if_neg h9]
          simp [ws_init_b0, seqS, ifS, cmT, op2, nmE, eqF, str_blank, str_tab, trV, h32, h9, brkS, eq_sign]
        · rw [scan, if_neg h32, if_neg h9]; exact hm
        · rw [scan, if_neg h32, if_neg h9]; exact hc
end Mine
namespace Mine
open PySem PySem.Spec PySem.Calls PyProof.Rows PySem.W

theorem lt_of_get {α : Type} {l : List α} {n : Nat} {x : α} (h : l[n]? = some x) : n < l.length := (List.getElem?_eq_some_iff.mp h).1
theorem ws_init_run (a : Ad) (x : Str) (hx : ascS x = true) (σ : Hp) (n : Nat) (hn : σ[n]? = some (.dict a.WS [])) :
    ∃ σ₁, ws_init0 a [.inst a.WS n, .str x] σ = some (.none, σ₁) ∧ σ.length ≤ σ₁.length ∧ σ₁.take σ.length = σ.set n (.dict a.WS (wsL x (scan0 x))) := by
  obtain ⟨h1, h2⟩ := Bool.and_eq_true_iff.mp hx
  have h2 : x.cps.size ≤ 500 := Nat.le_of_ble_eq_true h2
  have hl : n < σ.length := lt_of_get hn
  have e0 : ((σ.set n (.dict a.WS [.str x])) ++ [.lst []])[σ.length]? = some (.lst (([] : List Int).map V.int)) := by simp
  have h3 : (⟨[], 0, 0, 0⟩ : Sc).b + x.cps.toList.length ≤ 500 := by simp [h2]
  obtain ⟨m', τ', c8', e, e1, e2, e3, e4, e5⟩ := scan_loop a (.inst a.WS n) x σ.length x.cps.toList ⟨[], 0, 0, 0⟩ σ.length ((σ.set n (.dict a.WS [.str x])) ++ [.lst []]) none (Nat.le_refl _) e0 h3 (by simp)
  have hq : scan x.cps.toList ⟨[], 0, 0, 0⟩ = scan0 x := rfl
  rw [hq] at e e2 e5
  have hml : m' < τ'.length := lt_of_get e2
  have e3' : τ'.take σ.length = σ.set n (.dict a.WS [.str x]) := by rw [e3, List.take_append_of_le_length (by simp)]; exact List.take_of_length_le (by simp)
  have hn' : τ'[n]? = some (.dict a.WS [.str x]) := by
    have : (τ'.take σ.length)[n]? = τ'[n]? := by rw [List.getElem?_take_of_lt hl]
    rw [← this, e3']; simp [hl]
  have hnl : n < τ'.length := lt_of_get hn'
  have hne : n ≠ m' := fun z => by omega
  have hcl : (scan0 x).cnt.length ≤ lmax := by unfold lmax; omega
  have hsrc : ∀ τ : Hp, srcOf τ (.str x) = some (x.cps.toList.map fun c => .str ⟨#[c]⟩, none) := fun τ => by
    simp only [srcOf]; rw [if_pos h1]
  generalize hB : ws_init_b0 a = B at e
  have hs1 : ∀ y : SO, (List.set σ n y)[n]? = some y := fun y => by rw [List.getElem?_set_self hl]
  have hs2 : ∀ (y : SO) (r : Hp), (List.set σ n y ++ r)[n]? = some y := fun y r => by rw [List.getElem?_append_left (by simpa using hl), hs1]
  have hs3 : ∀ y : SO, (List.set τ' n y)[n]? = some y := fun y => by rw [List.getElem?_set_self hnl]
  have hs4 : ∀ y : SO, (List.set τ' n y)[m']? = some (.lst ((scan0 x).cnt.map V.int)) := fun y => by rw [List.getElem?_set_ne hne, e2]
  refine ⟨τ'.set n (.dict a.WS (wsL x (scan0 x))), ?_, ?_, ?_⟩
  · unfold ws_init0 fnF
    rw [if_pos (by rfl)]
    simp only [ws_init_sh, hB]
    simp [locOf, seqS, asgT, stA, nmE, hn, swpS, tupE, argsE, op1, clsF, kE, setL, asgS, mlstE, asg3, nmA, forS, atF, attrs?, hs1, hs2, V.notG, hsrc, lend, giveBack]
    simp at e
    rw [e]
    simp [hn', nmE, seqS, asgT, stA, tupE, callE, argsE, lenF, lstOf, hcl, e2, tupF, op2, int2, leI, kE, nilS, wsL, hs3, hs4]
  · simp; have := e4; simp at this; omega
  · rw [List.take_set]
    rw [e3']; simp

theorem scan_int_low (n : Nat) (s : Sc) (x : Str) : V.lowBs n (wsL x s) = true := by
  have : ∀ l : List Int, V.lowBs n (l.map V.int) = true := fun l => by induction l with
    | nil => rfl
    | cons i l ih => simp [V.lowBs, V.lowB, ih]
  simp [wsL, V.lowBs, V.lowB, this]
theorem ref_Whitespace (a : Ad) (vs : List V) (σ : Hp) (v : V) (σ' : Hp) (h : Whitespace a vs σ = some (v, σ')) : ∃ v₁ σ₁, clsC a.WS (ws_init0 a) vs σ = some (v₁, σ₁) ∧ v = V.frz σ.length σ₁ v₁ ∧ σ' = σ₁.take σ.length ∧ Left σ σ' ∧ (v.lowB σ.length = true ∨ ∃ w ∈ vs, v = w) := by
  unfold Whitespace at h
  split at h
  · rename_i x
    split at h
    · rename_i hx
      cases h
      obtain ⟨σ₁, e, l, t⟩ := ws_init_run a x hx (σ ++ [.dict a.WS []]) σ.length (by simp)
      have ht : σ₁.take (σ.length + 1) = σ ++ [.dict a.WS (wsL x (scan0 x))] := by
        have := t; simp at this; rw [this]
      have hg : σ₁[σ.length]? = some (.dict a.WS (wsL x (scan0 x))) := by
        have : (σ₁.take (σ.length + 1))[σ.length]? = σ₁[σ.length]? := List.getElem?_take_of_lt (Nat.lt_succ_self _)
        rw [← this, ht]; simp
      have hk : σ₁.take σ.length = σ := by
        have : (σ₁.take (σ.length + 1)).take σ.length = σ₁.take σ.length := by rw [List.take_take]; congr 1; omega
        rw [← this, ht]; simp
      refine ⟨.inst a.WS σ.length, σ₁, ?_, ?_, hk.symm, ?_, .inl ?_⟩
      · unfold clsC; rw [e]
      · simp [V.frz, hg, wsV]
      · intro i o eo v hv; exact .inr ⟨i, o, eo, hv⟩
      · simp [wsV, V.lowB, scan_int_low]
    · cases h
  · cases h
end Mine
namespace Mine
open PySem PySem.Spec PySem.Calls PyProof.Rows PySem.W
section
variable (loc : Loc) (σ : Hp) (i : Nat) (v w : V) (f g h : SE) (o : SF) (t t' : ST) (p q : SS) (C : Addr) (vs ws : List V) (fs : List SE)
@[simp] theorem nilS_e : nilS loc σ = some (.next, loc, σ) := rfl
@[simp] theorem brkS_e : brkS loc σ = some (.brk, loc, σ) := rfl
@[simp] theorem failS_e : failS loc σ = none := rfl
@[simp] theorem kE_e : kE v loc σ = some (v, σ) := rfl
@[simp] theorem nmE_e : nmE i loc σ = match loc[i]? with | some (some v) => some (v, σ) | _ => none := rfl
@[simp] theorem seqS_e : seqS p q loc σ = match p loc σ with | some (.next, loc₁, σ₁) => q loc₁ σ₁ | r => r := rfl
@[simp] theorem ifS_e : ifS t p q loc σ = match t loc σ with | some (true, σ₁) => p loc σ₁ | some (false, σ₁) => q loc σ₁ | none => none := rfl
@[simp] theorem ifE_e : ifE t f g loc σ = match t loc σ with | some (true, σ₁) => f loc σ₁ | some (false, σ₁) => g loc σ₁ | none => none := rfl
@[simp] theorem cmT_e : cmT f loc σ = match f loc σ with | some (a, σ₁) => (match trV a with | some b => some (b, σ₁) | none => none) | none => none := rfl
@[simp] theorem notT_e : notT t loc σ = match t loc σ with | some (b, σ₁) => some (!b, σ₁) | none => none := rfl
@[simp] theorem op1_e : op1 o f loc σ = match f loc σ with | some (a, σ₁) => o [a] σ₁ | none => none := rfl
@[simp] theorem op2_e : op2 o f g loc σ = match f loc σ with | some (a, σ₁) => (match g loc σ₁ with | some (b, σ₂) => o [a, b] σ₂ | none => none) | none => none := rfl
@[simp] theorem argsE_nil : argsE [] loc σ = some ([], σ) := rfl
@[simp] theorem argsE_cons : argsE (f :: fs) loc σ = match f loc σ with | some (a, σ₁) => (match argsE fs loc σ₁ with | some (as, σ₂) => some (a :: as, σ₂) | none => none) | none => none := rfl
@[simp] theorem callE_e : callE o fs loc σ = match argsE fs loc σ with | some (vs, σ₁) => o vs σ₁ | none => none := rfl
@[simp] theorem tupE_e : tupE fs loc σ = match argsE fs loc σ with | some (vs, σ₁) => some (.tup vs, σ₁) | none => none := rfl
@[simp] theorem lstE_e : lstE fs loc σ = match argsE fs loc σ with | some (vs, σ₁) => some (.lst vs, σ₁) | none => none := rfl
@[simp] theorem mlstE_e : mlstE fs loc σ = match argsE fs loc σ with | some (vs, σ₁) => some (.ref σ₁.length, σ₁ ++ [.lst vs]) | none => none := rfl
@[simp] theorem asgS_e : asgS i f loc σ = match f loc σ with | some (v, σ₁) => if i < loc.length then some (.next, loc.set i (some v), σ₁) else none | none => none := rfl
@[simp] theorem retS_e : retS f loc σ = match f loc σ with | some (v, σ₁) => some (.ret v, loc, σ₁) | none => none := rfl
@[simp] theorem exprS_e : exprS f loc σ = match f loc σ with | some (_, σ₁) => some (.next, loc, σ₁) | none => none := rfl
@[simp] theorem nmA_e : nmA i v loc σ = if i < loc.length then some (loc.set i (some v), σ) else none := rfl
@[simp] theorem tupT_e (ts : List SA) : tupT ts (.tup vs) loc σ = tupA ts vs loc σ := rfl
@[simp] theorem tupA_nil : tupA [] [] loc σ = some (loc, σ) := rfl
@[simp] theorem tupA_cons (s : SA) (ts : List SA) : tupA (s :: ts) (v :: vs) loc σ = match s v loc σ with | some (loc₁, σ₁) => tupA ts vs loc₁ σ₁ | none => none := rfl
@[simp] theorem methE_e (chk : Hp → V → Bool) : methE chk o f fs loc σ = match f loc σ with
  | some (a, σ₁) => if chk σ₁ a then (match argsE fs loc σ₁ with
    | some (vs, σ₂) => o ([a] ++ vs) σ₂
    | none => none) else none
  | none => none := rfl
@[simp] theorem methKwE_e (chk : Hp → V → Bool) (b : Bool) : methKwE chk o f fs b loc σ = match f loc σ with
  | some (a, σ₁) => if chk σ₁ a then (match argsE fs loc σ₁ with
    | some (vs, σ₂) => o ([a] ++ vs ++ [.bool b]) σ₂
    | none => none) else none
  | none => none := rfl
@[simp] theorem asgT_e (s : SA) : asgT s f loc σ = match f loc σ with
  | some (v, σ₁) => (match s v loc σ₁ with
    | some (loc', σ') => some (.next, loc', σ')
    | none => none)
  | none => none := rfl
@[simp] theorem ttT_e : ttT loc σ = some (true, σ) := rfl
@[simp] theorem chkStr_e (x : Str) : chkStr σ (.str x) = true := rfl
@[simp] theorem chkRef_e (n : Nat) : chkRef σ (.ref n) = match σ[n]? with | some (.lst _) => true | _ => false := rfl
@[simp] theorem trV_b (b : Bool) : trV (.bool b) = some b := rfl
@[simp] theorem trV_n : trV .none = some false := rfl
@[simp] theorem int2_e (k : Int → Int → Option V) (a b : Int) : int2 k [.int a, .int b] σ = match k a b with | some v => some (v, σ) | none => none := rfl
@[simp] theorem subI_e (a b : Int) : subI a b = some (.int (a - b)) := rfl
@[simp] theorem ltI_e (a b : Int) : ltI a b = some (.bool (decide (a < b))) := rfl
@[simp] theorem leI_e (a b : Int) : leI a b = some (.bool (decide (a ≤ b))) := rfl
@[simp] theorem gtI_e (a b : Int) : gtI a b = some (.bool (decide (a > b))) := rfl
@[simp] theorem geI_e (a b : Int) : geI a b = some (.bool (decide (a ≥ b))) := rfl
@[simp] theorem addF_int (a b : Int) : addF [.int a, .int b] σ = some (.int (a + b), σ) := rfl
@[simp] theorem addF_str (a b : Str) : addF [.str a, .str b] σ = if Nat.ble (a.length + b.length) smax then some (.str (a ++ b), σ) else none := rfl
@[simp] theorem rngF2 (a b : Int) : rngF [.int a, .int b] σ = some (.rng a b, σ) := rfl
@[simp] theorem rngF1 (a : Int) : rngF [.int a] σ = some (.rng 0 a, σ) := rfl
@[simp] theorem maxF2 (a b : Int) : maxF [.int a, .int b] σ = some (.int (if b > a then b else a), σ) := rfl
@[simp] theorem isF_none (n : Bool) : isF n [.none, .none] σ = some (.bool (!n), σ) := by cases n <;> rfl
@[simp] theorem isF_str (n : Bool) (x : Str) : isF n [.str x, .none] σ = some (.bool n, σ) := by cases n <;> rfl
@[simp] theorem typF_str (x : Str) : typF [.str x] σ = some (.g (.type "str"), σ) := rfl
@[simp] theorem clsF_e : clsF C v [.g (.ref C)] σ = some (v, σ) := by simp [clsF]
@[simp] theorem eqF_str (n : Bool) (a b : Str) : eqF n [.str a, .str b] σ = some (.bool (n != (a == b)), σ) := rfl
@[simp] theorem tupF_lst : tupF [.lst vs] σ = if Nat.ble vs.length lmax then some (.tup vs, σ) else none := rfl
@[simp] theorem lenF_lst : lenF [.lst vs] σ = if Nat.ble vs.length lmax then some (.int vs.length, σ) else none := rfl
@[simp] theorem lenF_tup : lenF [.tup vs] σ = if Nat.ble vs.length lmax then some (.int vs.length, σ) else none := rfl
@[simp] theorem appF_e (n : Nat) : appF [.ref n, v] σ = match σ[n]? with
    | some (.lst ws) => if Nat.ble ws.length lmax then some (.none, σ.set n (.lst (ws ++ [v]))) else none
    | _ => none := rfl
end
theorem eqF_int {σ : Hp} (n : Bool) (a b : Int) : eqF n [.int a, .int b] σ = some (.bool (n != (a == b)), σ) := rfl
theorem ble_of {a b : Nat} (h : a ≤ b) : Nat.ble a b = true := Nat.ble_eq_true_of_le h
theorem seq_go {p q : SS} {loc loc₁ : Loc} {σ σ₁ : Hp} {r : Option (Fl × Loc × Hp)} (h : p loc σ = some (.next, loc₁, σ₁)) (k : q loc₁ σ₁ = r) : seqS p q loc σ = r := by
  rw [seqS_e, h]; exact k
theorem for_nil {tgt : SA} {b : SS} {loc : Loc} {σ : Hp} : forL tgt b [] loc σ = some (.next, loc, σ) := rfl
theorem for_step {tgt : SA} {b : SS} {v : V} {vs : List V} {loc loc₁ loc₂ : Loc} {σ σ₁ σ₂ : Hp} {r : Option (Fl × Loc × Hp)} (h : tgt v loc σ = some (loc₁, σ₁)) (hb : b loc₁ σ₁ = some (.next, loc₂, σ₂)) (k : forL tgt b vs loc₂ σ₂ = r) : forL tgt b (v :: vs) loc σ = r := by
  rw [forL, h]; simp only [hb]; exact k
theorem forS_go {tgt : SA} {fb : SS} {fi : SE} {loc : Loc} {σ σ₁ σ₂ : Hp} {v : V} {ws : List V} {b : Option Nat} {fl : Fl} {loc' : Loc} (h1 : fi loc σ = some (v, σ₁)) (h2 : srcOf σ₁ v = some (ws, b)) (h3 : forL tgt fb ws loc (lend b σ₁) = some (fl, loc', σ₂)) : forS tgt fb fi loc σ = some (fl, loc', giveBack b ws σ₂) := by
  unfold forS
  rw [h1]
  simp only [h2, h3]
theorem cmp_go2 {is : List Nat} {tgt : SA} {test : ST} {elt fi : SE} {loc : Loc} {σ σ₁ σ₂ : Hp} {v : V} {ws rs : List V} {b : Option Nat} (h1 : fi loc σ = some (v, σ₁)) (hs : v.notS = true) (h2 : srcOf σ₁ v = some (ws, b)) (hl : ws.length ≤ 1000000) (h3 : cmpL tgt test elt ws (clr is loc) (lend b σ₁) = some (rs, σ₂)) : cmpE is tgt test elt fi loc σ = some (.lst rs, giveBack b ws σ₂) := by
  unfold cmpE
  rw [h1]
  simp only [h2, h3, hs, ble_of hl, if_true]
theorem srcOf_rng {σ : Hp} {a b : Int} (ha : -1000000 ≤ a ∧ a ≤ 1000000) (hb : -1000000 ≤ b ∧ b ≤ 1000000) : srcOf σ (.rng a b) = some (rngL a b, none) := by
  simp only [srcOf, ha.1, ha.2, hb.1, hb.2, decide_true, Bool.and_self, if_true]
end Mine
namespace Mine
open PySem PySem.Spec PySem.Calls PyProof.Rows PySem.W
theorem cst_run (a : Ad) (self : V) (x : Str) (b : Bool) (σ : Hp) (hpv : b = false → Nat.beq a.pV a.pN = false) (h : goodS (if b then badN else badV) x = true) : hd_cst a [self, .str x, .bool b] σ = some (.str x, σ) := by
  cases b
  · have hpv := hpv rfl
    simp at h
    simp [hd_cst, fnF, hd_cst_sh, locOf, isF, chkP, schF, h, hpv]
  · simp at h
    simp [hd_cst, fnF, hd_cst_sh, locOf, isF, chkP, schF, h]
theorem hdrs_atF {a : Ad} {σ : Hp} {self : V} {m : Nat} {items : List V} (h : hdrs a σ self = some (m, items)) : atF a.HD 0 [self] σ = some (.ref m, σ) ∧ chkI a.HD σ self = true ∧ σ[m]? = some (.lst items) := by
  unfold hdrs at h
  split at h
  · rename_i C m' e
    split at h
    · rename_i hC
      split at h
      · rename_i its e2
        cases h
        simp at hC
        refine ⟨by simp [atF, e, hC, V.notG], by simp [chkI, e, hC], e2⟩
      · cases h
    · cases h
  · cases h
theorem hdrs_ext {a : Ad} {σ σ' : Hp} {self : V} {m : Nat} {items : List V} (h : hdrs a σ self = some (m, items)) (hk : ∀ (i : Nat) (o : SO), σ[i]? = some o → σ'[i]? = some o) : hdrs a σ' self = some (m, items) := by
  unfold hdrs at h ⊢
  split at h
  · rename_i C m' e
    split at h
    · rename_i hC
      split at h
      · rename_i its e2
        cases h
        have e' : attrs? σ' self = some (C, [.ref m]) := by
          unfold attrs? at e ⊢
          split at e
          · exact e
          · rename_i C1 n1
            split at e
            · rename_i C2 vs e3
              rw [hk _ _ e3]; exact e
            · cases e
          · cases e
        simp [e', hC, hk _ _ e2]
      · cases h
    · cases h
  · cases h
theorem get_app {σ : Hp} {i : Nat} {o x : SO} (h : σ[i]? = some o) : (σ ++ [x])[i]? = some o := by
  rw [List.getElem?_append_left (lt_of_get h)]; exact h
theorem join1 (y : Str) (h : y.length ≤ 1000) : JoinOk (Str.ofString "; ") [y] ∧ Txt.join (Str.ofString "; ") [y] = y := by
  refine ⟨?_, ?_⟩
  · have : (Str.ofString "; ").length = 2 := by decide +kernel
    simp [JoinOk, this, PySem.Builtin.Str.tooLong, sizeLine]; omega
  · rfl
theorem addh_run (a : Ad) (hpv : Nat.beq a.pV a.pN = false) {self : V} {x y : Str} {o : V} {σ : Hp} {m : Nat} {items : List V} (h : hdrs a σ self = some (m, items)) (hx : goodS badN x = true) (hy : (o = .none ∧ y = "") ∨ (o = .str y ∧ goodS badV y = true ∧ y.length ≤ 1000)) (hl : items.length ≤ lmax) :
    ∃ z, hd_addh0 a [self, .str x, o] σ = some (.none, (σ.set m (.lst (items ++ [.tup [.str x, .str y]]))) ++ [z]) := by
  have h1 : hdrs a (σ ++ [.lst []]) self = some (m, items) := hdrs_ext h fun _ _ e => get_app e
  obtain ⟨g1, g2, g3⟩ := hdrs_atF h1
  obtain ⟨_, _, g0⟩ := hdrs_atF h
  have hm := lt_of_get g0
  rcases hy with ⟨rfl, rfl⟩ | ⟨rfl, hy, hl2⟩
  · have hj : JoinOk (Str.ofString "; ") [] ∧ Txt.join (Str.ofString "; ") [] = Str.ofString "" := ⟨by decide +kernel, by decide +kernel⟩
    have hc := cst_run a self x true (σ ++ [.lst []]) (by simp) (by simpa using hx)
    refine ⟨.lst [], ?_⟩
    simp [hd_addh0, fnF, hd_addh_sh, locOf, itmS, g1, g2, g3, hc, joiF, lstOf, strsOf, hj, hl, List.set_append_left _ _ hm]
  · have hj := join1 y hl2
    have h2 : hdrs a (σ ++ [.lst [.str y]]) self = some (m, items) := hdrs_ext h fun _ _ e => get_app e
    obtain ⟨k1, k2, k3⟩ := hdrs_atF h2
    have hc := cst_run a self x true (σ ++ [.lst [.str y]]) (by simp) (by simpa using hx)
    have hc2 := cst_run a self y false (σ ++ [.lst []]) (fun _ => hpv) (by simpa using hy)
    refine ⟨.lst [.str y], ?_⟩
    have l0 : Nat.ble 0 lmax = true := by decide
    simp [hd_addh0, fnF, hd_addh_sh, locOf, itmS, g1, g2, g3, k1, k2, k3, hc, hc2, joiF, lstOf, strsOf, hj, hl, l0, List.set_append_left _ _ hm]
theorem left_set {σ : Hp} {m : Nat} {items : List V} {w : V} (hm : σ[m]? = some (.lst items)) (hw : w.lowB σ.length = true) : Left σ (σ.set m (.lst (items ++ [w]))) := by
  intro i o eo v hv
  by_cases hi : m = i
  · subst hi
    rw [List.getElem?_set_self (lt_of_get hm)] at eo
    cases eo
    rcases List.mem_append.mp hv with hv | hv
    · exact .inr ⟨m, _, hm, hv⟩
    · cases hv with
      | head => exact .inl hw
      | tail _ q => cases q
  · rw [List.getElem?_set_ne hi] at eo
    exact .inr ⟨i, o, eo, hv⟩
theorem ref_hd_addh (a : Ad) (hpv : Nat.beq a.pV a.pN = false) (vs : List V) (σ : Hp) (v : V) (σ' : Hp) (h : hd_addh a vs σ = some (v, σ')) : ∃ v₁ σ₁, hd_addh0 a vs σ = some (v₁, σ₁) ∧ v = V.frz σ.length σ₁ v₁ ∧ σ' = σ₁.take σ.length ∧ Left σ σ' ∧ (v.lowB σ.length = true ∨ ∃ w ∈ vs, v = w) := by
  have key : ∀ {self : V} {x y : Str} {o : V} {m : Nat} {items : List V}, hdrs a σ self = some (m, items) → goodS badN x = true → ((o = .none ∧ y = "") ∨ (o = .str y ∧ goodS badV y = true ∧ y.length ≤ 1000)) → addTo σ m items x y = some (v, σ') → vs = [self, .str x, o] →
      ∃ v₁ σ₁, hd_addh0 a vs σ = some (v₁, σ₁) ∧ v = V.frz σ.length σ₁ v₁ ∧ σ' = σ₁.take σ.length ∧ Left σ σ' ∧ (v.lowB σ.length = true ∨ ∃ w ∈ vs, v = w) := by
    intro self x y o m items h1 hx hy ht hv
    subst hv
    unfold addTo at ht
    split at ht
    · rename_i hl
      cases ht
      obtain ⟨z, e⟩ := addh_run a hpv h1 hx hy (Nat.le_of_ble_eq_true hl)
      refine ⟨_, _, e, rfl, ?_, left_set (hdrs_atF h1).2.2 rfl, .inl rfl⟩
      rw [List.take_append_of_le_length (by simp), List.take_of_length_le (by simp)]
    · cases ht
  unfold hd_addh at h
  split at h
  · split at h
    · rename_i m items e
      split at h
      · rename_i hx
        exact key e hx (.inl ⟨rfl, rfl⟩) h rfl
      · cases h
    · cases h
  · split at h
    · rename_i m items e
      split at h
      · rename_i hx
        simp only [Bool.and_eq_true] at hx
        exact key e hx.1.1 (.inr ⟨rfl, hx.1.2, Nat.le_of_ble_eq_true hx.2⟩) h rfl
      · cases h
    · cases h
  · cases h
end Mine
namespace Mine
open PySem PySem.Spec PySem.Calls PyProof.Rows PySem.W
theorem repeat_front {α : Type} (f : α → α) (n : Nat) (x : α) : Nat.repeat f (n + 1) x = Nat.repeat f n (f x) := by
  induction n with
  | zero => rfl
  | succ n ih => show f (Nat.repeat f (n + 1) x) = f (Nat.repeat f n (f x)); rw [ih]
noncomputable def turnW (size l x : Nat) : Nat := x + l + size - (x + l) % size
theorem col_inner (a : Ad) (size l : Nat) (hs : 0 < size) (X Y : Option V) : ∀ (ws : List V) (col : Nat) (t5 : Option V) (σ : Hp), ∃ t5',
    forL (nmA 5) (columnsF2_b0 a) ws [X, Y, some (.int size), some (.int col), some (.int l), t5] σ = some (.next, [X, Y, some (.int size), some (.int (Nat.repeat (turnW size l) ws.length col : Nat)), some (.int l), t5'], σ) := by
  intro ws
  induction ws with
  | nil => intro col t5 σ; exact ⟨t5, rfl⟩
  | cons w ws ih =>
    intro col t5 σ
    obtain ⟨t, e⟩ := ih (turnW size l col) (some w) σ
    refine ⟨t, ?_⟩
    rw [List.length_cons, repeat_front]
    refine for_step (loc₁ := [X, Y, some (.int size), some (.int col), some (.int l), some w]) (σ₁ := σ) rfl ?_ e
    have hz : ¬ (size : Int) = 0 := by omega
    simp [columnsF2_b0, modI, hz, turnW]
    rw [Int.fmod_eq_emod_of_nonneg _ (by omega)]
    have : ((col : Int) + l) % size = (((col + l) % size : Nat) : Int) := by rw [Int.natCast_emod, Int.natCast_add]
    rw [this]
    have := Nat.mod_lt (col + l) hs
    generalize (col + l) % size = z at this
    have hz2 : ¬ size = 0 := by omega
    have hq : (col : Int) + l + size - z = ((col + l + size - z : Nat) : Int) := by omega
    simp [hz2, hq]
theorem rngL_len (c : Nat) : (rngL 0 (c : Int)).length = c := by simp [rngL]
theorem col_mid (a : Ad) (size l n : Nat) (hs : 0 < size) (hl : l < 4) (Y t5 : Option V) (cs : List Nat) (h4 : cs.length = 4) (hb : ∀ c ∈ cs, c ≤ 1000) (col : Nat) (σ : Hp) (hn : σ[n]? = some (.lst (cs.map fun (c : Nat) => .int c))) : ∃ t5',
    columnsF2_b1 a [some (.ref n), Y, some (.int size), some (.int col), some (.int l), t5] σ = some (.next, [some (.ref n), Y, some (.int size), some (.int (Nat.repeat (turnW size l) (cs.getD l 0) col : Nat)), some (.int l), t5'], σ) := by
  have hl' : l < cs.length := by omega
  have hc : cs[l] ≤ 1000 := hb _ (List.getElem_mem hl')
  obtain ⟨t, e⟩ := col_inner a size l hs (some (.ref n)) Y (rngL 0 ((cs[l] : Nat) : Int)) col t5 σ
  rw [rngL_len] at e
  refine ⟨t, ?_⟩
  have hg : cs.getD l 0 = cs[l] := by simp [hl']
  have hcd : decide (((cs[l] : Nat) : Int) ≤ 1000000) = true := decide_eq_true (by omega)
  have hcd2 : decide ((-1000000 : Int) ≤ ((cs[l] : Nat) : Int)) = true := decide_eq_true (by omega)
  have hix := ixOf_nat l (cs.map fun (c : Nat) => V.int c).length (by simpa using hl')
  have hok := okI_nat l (by omega)
  rw [hg]
  simp only [columnsF2_b1, seqS_e, forS, callE_e, argsE_cons, argsE_nil, op2_e, nmE_e]
  simp only [List.getElem?_cons_zero, List.getElem?_cons_succ, idxF, hok, lstOf, hn, hix, if_true]
  rw [List.getElem?_map, List.getElem?_eq_getElem hl']
  simp only [Option.map_some, rngF1, srcOf, hcd, hcd2, lend, giveBack]
  simp only [show decide ((-1000000 : Int) ≤ 0) = true from rfl, show decide ((0 : Int) ≤ 1000000) = true from rfl, Bool.and_self, if_true, e, nilS_e]
theorem colW_eq (size : Nat) (c0 c1 c2 c3 : Nat) : colW size [c0, c1, c2, c3] 0 0 = Nat.repeat (turnW size 3) c3 (Nat.repeat (turnW size 2) c2 (Nat.repeat (turnW size 1) c1 (Nat.repeat (turnW size 0) c0 0))) := rfl
theorem col_out (a : Ad) (size n m : Nat) (hs : 0 < size) (hne : m ≠ n) (t3 t4 t5 : Option V) (c0 c1 c2 c3 : Nat) (hb : ∀ c ∈ [c0, c1, c2, c3], c ≤ 1000) (ws : List V) (hw : ws.length ≤ 5) (σ : Hp) (hn : σ[n]? = some (.lst ([c0, c1, c2, c3].map fun (c : Nat) => .int c))) (hm : σ[m]? = some (.lst ws)) : ∃ t3' t4' t5',
    columnsF2_b2 a [some (.ref n), some (.ref m), some (.int size), t3, t4, t5] σ = some (.next, [some (.ref n), some (.ref m), some (.int size), t3', t4', t5'], σ.set m (.lst (ws ++ [.int (colW size [c0, c1, c2, c3] 0 0 : Nat)]))) := by
  have mid := fun l hl t5 col => col_mid a size l n hs hl (some (.ref m)) t5 [c0, c1, c2, c3] rfl hb col σ hn
  obtain ⟨s0, e0⟩ := mid 0 (by omega) t5 0
  obtain ⟨s1, e1⟩ := mid 1 (by omega) s0 (Nat.repeat (turnW size 0) c0 0)
  obtain ⟨s2, e2⟩ := mid 2 (by omega) s1 (Nat.repeat (turnW size 1) c1 (Nat.repeat (turnW size 0) c0 0))
  obtain ⟨s3, e3⟩ := mid 3 (by omega) s2 (Nat.repeat (turnW size 2) c2 (Nat.repeat (turnW size 1) c1 (Nat.repeat (turnW size 0) c0 0)))
  simp at e0 e1 e2 e3
  refine ⟨some (.int (colW size [c0, c1, c2, c3] 0 0 : Nat)), some (.int 3), s3, ?_⟩
  have hr : rngL 0 4 = [.int 0, .int 1, .int 2, .int 3] := rfl
  have hw2 : Nat.ble ws.length lmax = true := ble_lmax _ (by omega)
  refine seq_go (loc₁ := [some (.ref n), some (.ref m), some (.int size), some (.int 0), t4, t5]) (σ₁ := σ) rfl ?_
  refine seq_go (loc₁ := [some (.ref n), some (.ref m), some (.int size), some (.int (colW size [c0, c1, c2, c3] 0 0 : Nat)), some (.int 3), s3]) (σ₁ := σ) ?_ ?_
  · have : forL (nmA 4) (columnsF2_b1 a) (rngL 0 4) [some (.ref n), some (.ref m), some (.int size), some (.int 0), t4, t5] σ = some (.next, [some (.ref n), some (.ref m), some (.int size), some (.int (colW size [c0, c1, c2, c3] 0 0 : Nat)), some (.int 3), s3], σ) := by
      rw [hr]
      refine for_step rfl e0 (for_step rfl e1 (for_step rfl e2 (for_step rfl e3 ?_)))
      rfl
    simp [forS, srcOf, lend, giveBack, this]
  · simp [hm, hw2]
noncomputable def cols2k (k : Nat) (cs : List Nat) : List V := ([1, 2, 3, 4, 5].take k).map fun size => .int (colW size cs 0 0)
theorem cols_run (a : Ad) (n : Nat) (c0 c1 c2 c3 : Nat) (hb : ∀ c ∈ [c0, c1, c2, c3], c ≤ 1000) (σ : Hp) (hn : σ[n]? = some (.lst ([c0, c1, c2, c3].map fun (c : Nat) => .int c))) :
    columnsF20 a [.ref n] σ = some (.ref σ.length, σ ++ [.lst (cols2 [c0, c1, c2, c3])]) := by
  have hne : σ.length ≠ n := by have := lt_of_get hn; omega
  have hL : ∀ ws : List V, (σ ++ [.lst ws])[n]? = some (.lst ([c0, c1, c2, c3].map fun (c : Nat) => .int c)) := fun ws => get_app hn
  have hM : ∀ ws : List V, (σ ++ [SO.lst ws])[σ.length]? = some (.lst ws) := fun ws => by simp
  have hS : ∀ (ws : List V) (z : SO), (σ ++ [SO.lst ws]).set σ.length z = σ ++ [z] := fun ws z => by simp
  have out := fun (size : Nat) (hs : 0 < size) t3 t4 t5 ws hw => col_out a size n σ.length hs hne t3 t4 t5 c0 c1 c2 c3 hb ws hw (σ ++ [.lst ws]) (hL ws) (hM ws)
  simp only [hS] at out
  obtain ⟨p3, p4, p5, e1⟩ := out 1 (by omega) none none none [] (Nat.zero_le _)
  obtain ⟨q3, q4, q5, e2⟩ := out 2 (by omega) p3 p4 p5 (cols2k 1 [c0, c1, c2, c3]) (by simp [cols2k])
  obtain ⟨r3, r4, r5, e3⟩ := out 3 (by omega) q3 q4 q5 (cols2k 2 [c0, c1, c2, c3]) (by simp [cols2k])
  obtain ⟨u3, u4, u5, e4⟩ := out 4 (by omega) r3 r4 r5 (cols2k 3 [c0, c1, c2, c3]) (by simp [cols2k])
  obtain ⟨v3, v4, v5, e5⟩ := out 5 (by omega) u3 u4 u5 (cols2k 4 [c0, c1, c2, c3]) (by simp [cols2k])
  have hr : rngL 1 6 = [.int 1, .int 2, .int 3, .int 4, .int 5] := rfl
  have hf : forL (nmA 2) (columnsF2_b2 a) (rngL 1 6) [some (.ref n), some (.ref σ.length), none, none, none, none] (σ ++ [.lst []]) = some (.next, [some (.ref n), some (.ref σ.length), some (.int 5), v3, v4, v5], σ ++ [.lst (cols2 [c0, c1, c2, c3])]) := by
    rw [hr]
    refine for_step rfl e1 (for_step rfl e2 (for_step rfl e3 (for_step rfl e4 (for_step rfl e5 ?_))))
    rfl
  simp [columnsF20, fnF, columnsF2_sh, locOf, forS, srcOf, lend, giveBack, hf]
theorem natsOf4 {v0 v1 v2 v3 : V} {cs : List Nat} (h : natsOf [v0, v1, v2, v3] = some cs) : ∃ c0 c1 c2 c3 : Nat, [v0, v1, v2, v3] = [c0, c1, c2, c3].map (fun (c : Nat) => V.int c) ∧ cs = [c0, c1, c2, c3] ∧ ∀ c ∈ [c0, c1, c2, c3], c ≤ 1000 := by
  have one : ∀ {v : V} {r : List V} {cs : List Nat}, natsOf (v :: r) = some cs → ∃ (c : Nat) (cs' : List Nat), v = .int c ∧ c ≤ 1000 ∧ natsOf r = some cs' ∧ cs = c :: cs' := by
    intro v r cs h
    cases v <;> simp [natsOf] at h
    rename_i i
    obtain ⟨⟨h1, h2⟩, h3⟩ := h
    cases e : natsOf r with
    | none => rw [e] at h3; simp at h3
    | some l =>
      rw [e] at h3; simp at h3
      exact ⟨i.toNat, l, by congr 1; omega, by omega, rfl, h3.symm⟩
  obtain ⟨c0, r0, rfl, b0, e0, rfl⟩ := one h
  obtain ⟨c1, r1, rfl, b1, e1, rfl⟩ := one e0
  obtain ⟨c2, r2, rfl, b2, e2, rfl⟩ := one e1
  obtain ⟨c3, r3, rfl, b3, e3, rfl⟩ := one e2
  simp [natsOf] at e3
  subst e3
  exact ⟨c0, c1, c2, c3, rfl, rfl, by simp [b0, b1, b2, b3]⟩
theorem ref_columnsF2 (a : Ad) (vs : List V) (σ : Hp) (v : V) (σ' : Hp) (h : columnsF2 a vs σ = some (v, σ')) : ∃ v₁ σ₁, columnsF20 a vs σ = some (v₁, σ₁) ∧ v = V.frz σ.length σ₁ v₁ ∧ σ' = σ₁.take σ.length ∧ Left σ σ' ∧ (v.lowB σ.length = true ∨ ∃ w ∈ vs, v = w) := by
  unfold columnsF2 at h
  split at h
  · rename_i n
    split at h
    · rename_i v0 v1 v2 v3 hn
      split at h
      · rename_i cs hc
        cases h
        obtain ⟨c0, c1, c2, c3, e, rfl, hb⟩ := natsOf4 hc
        rw [e] at hn
        refine ⟨_, _, cols_run a n c0 c1 c2 c3 hb σ hn, ?_, ?_, fun i o eo v hv => .inr ⟨i, o, eo, hv⟩, .inl ?_⟩
        · simp [V.frz]
        · simp
        · simp [cols2, V.lowB, V.lowBs]
      · cases h
    · cases h
  · cases h
end Mine
namespace Mine
open PySem PySem.Spec PySem.Calls PyProof.Rows PySem.W
noncomputable abbrev ad2 : Ad := ⟨100, 250, 114, 119⟩
noncomputable def lay2 (C : Addr) : List Str := if Nat.beq C 100 then ["raw", "n", "nt", "norm", "is_simple"] else if Nat.beq C 250 then ["_headers"] else []
noncomputable abbrev cx2 (w : World) (h₀ : Heap) (mg mb : Str → Option Value) : Cx := { prog := PySem.Challenge.rw_pe0265_02.row.prog, w, K := K2 w.params, h₀, lay := lay2, mg, mb }
section
variable {w : World} {h₀ : Heap} {mg mb : Str → Option Value}
noncomputable abbrev lay_WS : List Str := ["raw", "n", "nt", "norm", "is_simple"]
noncomputable abbrev lay_HD : List Str := ["_headers"]
theorem nl_WS : ((cx2 w h₀ mg mb).lay ad2.WS).length ≤ 1000 := by show lay_WS.length ≤ 1000; decide
theorem nl_HD : ((cx2 w h₀ mg mb).lay ad2.HD).length ≤ 1000 := by show lay_HD.length ≤ 1000; decide
theorem nd_WS : ((cx2 w h₀ mg mb).lay ad2.WS).Nodup := by show (["raw", "n", "nt", "norm", "is_simple"] : List Str).Nodup; decide
theorem nd_HD : ((cx2 w h₀ mg mb).lay ad2.HD).Nodup := by show (["_headers"] : List Str).Nodup; decide
theorem sa_WS : findIn (cx2 w h₀ mg mb).K (.ref ad2.WS) "__setattr__" = some (some (.builtin "object.__setattr__")) ∧ plainOver (cx2 w h₀ mg mb).K ad2.WS = true ∧ hasDictIn (cx2 w h₀ mg mb).K ad2.WS = true ∧ ((cx2 w h₀ mg mb).lay ad2.WS).Nodup := ⟨by kernel_rfl, by kernel_rfl, by kernel_rfl, nd_WS⟩
theorem sa_HD : findIn (cx2 w h₀ mg mb).K (.ref ad2.HD) "__setattr__" = some (some (.builtin "object.__setattr__")) ∧ plainOver (cx2 w h₀ mg mb).K ad2.HD = true ∧ hasDictIn (cx2 w h₀ mg mb).K ad2.HD = true ∧ ((cx2 w h₀ mg mb).lay ad2.HD).Nodup := ⟨by kernel_rfl, by kernel_rfl, by kernel_rfl, nd_HD⟩
theorem hd_noSeq : noSeq (cx2 w h₀ mg mb).K ad2.HD = true := by kernel_rfl
theorem hd_fset : findIn (cx2 w h₀ mg mb).K (.ref ad2.HD) "__setitem__" = some (some (.ref 163)) := by kernel_rfl
theorem hd_fsetf : isFn (cx2 w h₀ mg mb).K (.ref 163) = true := by kernel_rfl
theorem hd_fdel : findIn (cx2 w h₀ mg mb).K (.ref ad2.HD) "__delitem__" = some (some (.ref 168)) := by kernel_rfl
theorem hd_fdelf : isFn (cx2 w h₀ mg mb).K (.ref 168) = true := by kernel_rfl
theorem pats : Pats (cx2 w h₀ mg mb) ad2.pN ad2.pV := ⟨⟨_, _, _, _, _, _, rfl, rfl, rfl, rfl, by kernel_rfl⟩, ⟨_, _, _, _, _, _, rfl, rfl, rfl, rfl, by kernel_rfl⟩⟩
theorem nb_len : nsIn (cx2 w h₀ mg mb).K mainGlobals "len" = some none := by kernel_rfl
theorem bb_len : bootBuiltins "len" = some (.builtin "len") := by kernel_rfl
theorem nn_len : ("len" : Str) ≠ "__name__" := by decide
theorem nb_tuple : nsIn (cx2 w h₀ mg mb).K mainGlobals "tuple" = some none := by kernel_rfl
theorem bb_tuple : bootBuiltins "tuple" = some (.type "tuple") := by kernel_rfl
theorem nn_tuple : ("tuple" : Str) ≠ "__name__" := by decide
theorem nb_range : nsIn (cx2 w h₀ mg mb).K mainGlobals "range" = some none := by kernel_rfl
theorem bb_range : bootBuiltins "range" = some (.type "range") := by kernel_rfl
theorem nn_range : ("range" : Str) ≠ "__name__" := by decide
theorem nb_max : nsIn (cx2 w h₀ mg mb).K mainGlobals "max" = some none := by kernel_rfl
theorem bb_max : bootBuiltins "max" = some (.builtin "max") := by kernel_rfl
theorem nn_max : ("max" : Str) ≠ "__name__" := by decide
theorem nb_sum : nsIn (cx2 w h₀ mg mb).K mainGlobals "sum" = some none := by kernel_rfl
theorem bb_sum : bootBuiltins "sum" = some (.builtin "sum") := by kernel_rfl
theorem nn_sum : ("sum" : Str) ≠ "__name__" := by decide
theorem nb_str : nsIn (cx2 w h₀ mg mb).K mainGlobals "str" = some none := by kernel_rfl
theorem bb_str : bootBuiltins "str" = some (.type "str") := by kernel_rfl
theorem nn_str : ("str" : Str) ≠ "__name__" := by decide
theorem nb_type : nsIn (cx2 w h₀ mg mb).K mainGlobals "type" = some none := by kernel_rfl
theorem bb_type : bootBuiltins "type" = some (.type "type") := by kernel_rfl
theorem nn_type : ("type" : Str) ≠ "__name__" := by decide
theorem nb_list : nsIn (cx2 w h₀ mg mb).K mainGlobals "list" = some none := by kernel_rfl
theorem bb_list : bootBuiltins "list" = some (.type "list") := by kernel_rfl
theorem nn_list : ("list" : Str) ≠ "__name__" := by decide
theorem g_name_disallowed_re : nsIn (cx2 w h₀ mg mb).K mainGlobals "_name_disallowed_re" = some (some (.ref ad2.pN)) := by kernel_rfl
theorem g_value_disallowed_re : nsIn (cx2 w h₀ mg mb).K mainGlobals "_value_disallowed_re" = some (some (.ref ad2.pV)) := by kernel_rfl
theorem g_Whitespace : nsIn (cx2 w h₀ mg mb).K mainGlobals "Whitespace" = some (some (.ref ad2.WS)) := by kernel_rfl
theorem g_Headers : nsIn (cx2 w h₀ mg mb).K mainGlobals "Headers" = some (some (.ref ad2.HD)) := by kernel_rfl
theorem at_headers {k : Nat} (O : (cx2 w h₀ mg mb).Ok) : FnOk (cx2 w h₀ mg mb) k (one fun x => getAttr x "_headers" true) (atF ad2.HD 0) := get_attr O (by kernel_rfl) (by kernel_rfl) (by kernel_rfl) rfl (nd_HD)
theorem sat_headers : takerIn (cx2 w h₀ mg mb).K ad2.HD "_headers" = some none := by kernel_rfl
theorem at_raw {k : Nat} (O : (cx2 w h₀ mg mb).Ok) : FnOk (cx2 w h₀ mg mb) k (one fun x => getAttr x "raw" true) (atF ad2.WS 0) := get_attr O (by kernel_rfl) (by kernel_rfl) (by kernel_rfl) rfl (nd_WS)
theorem sat_raw : takerIn (cx2 w h₀ mg mb).K ad2.WS "raw" = some none := by kernel_rfl
theorem at_n {k : Nat} (O : (cx2 w h₀ mg mb).Ok) : FnOk (cx2 w h₀ mg mb) k (one fun x => getAttr x "n" true) (atF ad2.WS 1) := get_attr O (by kernel_rfl) (by kernel_rfl) (by kernel_rfl) rfl (nd_WS)
theorem sat_n : takerIn (cx2 w h₀ mg mb).K ad2.WS "n" = some none := by kernel_rfl
theorem at_nt {k : Nat} (O : (cx2 w h₀ mg mb).Ok) : FnOk (cx2 w h₀ mg mb) k (one fun x => getAttr x "nt" true) (atF ad2.WS 2) := get_attr O (by kernel_rfl) (by kernel_rfl) (by kernel_rfl) rfl (nd_WS)
theorem sat_nt : takerIn (cx2 w h₀ mg mb).K ad2.WS "nt" = some none := by kernel_rfl
theorem at_norm {k : Nat} (O : (cx2 w h₀ mg mb).Ok) : FnOk (cx2 w h₀ mg mb) k (one fun x => getAttr x "norm" true) (atF ad2.WS 3) := get_attr O (by kernel_rfl) (by kernel_rfl) (by kernel_rfl) rfl (nd_WS)
theorem sat_norm : takerIn (cx2 w h₀ mg mb).K ad2.WS "norm" = some none := by kernel_rfl
theorem at_is_simple {k : Nat} (O : (cx2 w h₀ mg mb).Ok) : FnOk (cx2 w h₀ mg mb) k (one fun x => getAttr x "is_simple" true) (atF ad2.WS 4) := get_attr O (by kernel_rfl) (by kernel_rfl) (by kernel_rfl) rfl (nd_WS)
theorem sat_is_simple : takerIn (cx2 w h₀ mg mb).K ad2.WS "is_simple" = some none := by kernel_rfl
theorem cat_S {k : Nat} (O : (cx2 w h₀ mg mb).Ok) : FnOk (cx2 w h₀ mg mb) k (one fun x => getAttr x "S" true) (clsF ad2.WS (.str " ")) := get_clsattr (mc := .type "type") O (by kernel_rfl) rfl rfl (fun _ _ _ => .str)
theorem cat_T {k : Nat} (O : (cx2 w h₀ mg mb).Ok) : FnOk (cx2 w h₀ mg mb) k (one fun x => getAttr x "T" true) (clsF ad2.WS (.str "\t")) := get_clsattr (mc := .type "type") O (by kernel_rfl) rfl rfl (fun _ _ _ => .str)
theorem den_ws_init (O : (cx2 w h₀ mg mb).Ok) : DenSs (cx2 w h₀ mg mb) 3 ws_init_vars (fdIn (cx2 w h₀ mg mb).K 55).scope (bodyIn (cx2 w h₀ mg mb).K 55) (ws_init_sh ad2) := by
  conv => enter [4]; whnf
  conv => enter [5]; whnf
  refine @den_cons _ _ _ _ _ _ _ _ (@den_asgT _ _ _ _ _ _ _ _ _ (@den_nm _ _ _ _ _ _ _ (mm 1 rfl) rfl) (@den_atA _ _ _ _ O _ _ _ _ _ _ (@den_nm _ _ _ _ _ _ _ (mm 0 rfl) rfl) sa_WS.1 sa_WS.2.1 (sat_raw) sa_WS.2.2.1 sa_WS.2.2.2 rfl nl_WS) rfl (by intro env h; first | rfl | (obtain ⟨⟩ := env; cases h; rfl)) (by intro env h; first | rfl | (obtain ⟨⟩ := env; cases h; rfl))) ?_
  refine @den_cons _ _ _ _ _ _ _ _ (@den_swap _ _ _ _ _ _ _ _ _ _ _ ["S", "T"] (@den_tup _ _ _ _ _ _ _ _ (@den_argC _ _ _ _ _ _ _ _ (@den_at _ _ _ _ _ _ _ _ _ (@den_gl _ _ _ _ O _ _ _ rfl g_Whitespace rfl) (@cat_S _ _ _ _ _ O) (fun _ => rfl)) (@den_argC _ _ _ _ _ _ _ _ (@den_at _ _ _ _ _ _ _ _ _ (@den_gl _ _ _ _ O _ _ _ rfl g_Whitespace rfl) (@cat_T _ _ _ _ _ O) (fun _ => rfl)) (@den_argNil _ _ _ _) rfl) rfl) (by decide)) (by decide) rfl (by intro env h; first | rfl | (obtain ⟨⟩ := env; cases h; rfl)) (by intro env h; first | rfl | (obtain ⟨⟩ := env; cases h; rfl))) ?_
  refine @den_cons _ _ _ _ _ _ _ _ (@den_asg _ _ _ _ _ _ _ _ _ _ (@den_mlst _ _ _ _ _ _ _ (@den_argNil _ _ _ _) (by decide)) (mm 4 rfl) (by intro env h; first | rfl | (obtain ⟨⟩ := env; cases h; rfl))) ?_
  refine @den_cons _ _ _ _ _ _ _ _ (@den_asg3 _ _ _ _ _ _ _ _ _ _ _ _ _ (@den_int _ _ _ _ _ _ _) (@den_nmA _ _ _ _ _ _ _ (mm 5 rfl)) (@den_nmA _ _ _ _ _ _ _ (mm 6 rfl)) (@den_nmA _ _ _ _ _ _ _ (mm 7 rfl)) (fun _ => rfl) (fun _ => rfl)) ?_
  refine @den_cons _ _ _ _ _ _ _ _ (@den_for _ _ _ _ _ _ _ _ _ _ _ (@den_at _ _ _ _ _ _ _ _ _ (@den_nm _ _ _ _ _ _ _ (mm 0 rfl) rfl) (@at_raw _ _ _ _ _ O) (fun _ => rfl)) (@den_nmA _ _ _ _ _ _ _ (mm 8 rfl)) ?_ (fun _ _ => rfl)) ?_
  · refine @den_cons _ _ _ _ _ _ _ _ (@den_if _ _ _ _ _ _ _ _ _ _ _ (@den_cmpT _ _ _ _ _ _ _ _ _ _ _ (@den_nm _ _ _ _ _ _ _ (mm 8 rfl) rfl) (@den_nm _ _ _ _ _ _ _ (mm 2 rfl) rfl) (@fn_eq _ _) rfl) ?_ ?_) ?_
    · refine @den_cons _ _ _ _ _ _ _ _ (@den_asg _ _ _ _ _ _ _ _ _ _ (@den_bin _ _ _ _ _ _ _ _ _ _ _ (@den_nm _ _ _ _ _ _ _ (mm 6 rfl) rfl) (@den_int _ _ _ _ _ _ _) (@fn_addF _ _)) (mm 6 rfl) (by intro env h; first | rfl | (obtain ⟨⟩ := env; cases h; rfl))) ?_
      refine @den_cons _ _ _ _ _ _ _ _ (@den_asg _ _ _ _ _ _ _ _ _ _ (@den_bin _ _ _ _ _ _ _ _ _ _ _ (@den_nm _ _ _ _ _ _ _ (mm 5 rfl) rfl) (@den_int _ _ _ _ _ _ _) (@fn_addF _ _)) (mm 5 rfl) (by intro env h; first | rfl | (obtain ⟨⟩ := env; cases h; rfl))) ?_
      exact @den_nil _ _ _ _
    · refine @den_cons _ _ _ _ _ _ _ _ (@den_if _ _ _ _ _ _ _ _ _ _ _ (@den_cmpT _ _ _ _ _ _ _ _ _ _ _ (@den_nm _ _ _ _ _ _ _ (mm 8 rfl) rfl) (@den_nm _ _ _ _ _ _ _ (mm 3 rfl) rfl) (@fn_eq _ _) rfl) ?_ ?_) ?_
      · refine @den_cons _ _ _ _ _ _ _ _ (@den_asg _ _ _ _ _ _ _ _ _ _ (@den_bin _ _ _ _ _ _ _ _ _ _ _ (@den_nm _ _ _ _ _ _ _ (mm 6 rfl) rfl) (@den_int _ _ _ _ _ _ _) (@fn_addF _ _)) (mm 6 rfl) (by intro env h; first | rfl | (obtain ⟨⟩ := env; cases h; rfl))) ?_
        refine @den_cons _ _ _ _ _ _ _ _ (@den_asg _ _ _ _ _ _ _ _ _ _ (@den_bin _ _ _ _ _ _ _ _ _ _ _ (@den_nm _ _ _ _ _ _ _ (mm 7 rfl) rfl) (@den_int _ _ _ _ _ _ _) (@fn_addF _ _)) (mm 7 rfl) (by intro env h; first | rfl | (obtain ⟨⟩ := env; cases h; rfl))) ?_
        refine @den_cons _ _ _ _ _ _ _ _ (@den_if _ _ _ _ _ _ _ _ _ _ _ (@den_cmpT _ _ _ _ _ _ _ _ _ _ _ (@den_nm _ _ _ _ _ _ _ (mm 5 rfl) rfl) (@den_call _ _ _ _ O _ _ _ _ _ _ _ (@den_bi _ _ _ _ O _ _ _ rfl nb_len bb_len nn_len rfl) Keep.builtin (@fn_len _ _) (@den_argC _ _ _ _ _ _ _ _ (@den_nm _ _ _ _ _ _ _ (mm 4 rfl) rfl) (@den_argNil _ _ _ _) rfl) rfl) (@fn_ge _ _) rfl) ?_ ?_) ?_
        · refine @den_cons _ _ _ _ _ _ _ _ (@den_asg _ _ _ _ _ _ _ _ _ _ (@den_bin _ _ _ _ _ _ _ _ _ _ _ (@den_nm _ _ _ _ _ _ _ (mm 4 rfl) rfl) (@den_bin _ _ _ _ _ _ _ _ _ _ _ (@den_lst _ _ _ _ _ _ _ (@den_argC _ _ _ _ _ _ _ _ (@den_int _ _ _ _ _ _ _) (@den_argNil _ _ _ _) rfl) (by decide)) (@den_bin _ _ _ _ _ _ _ _ _ _ _ (@den_bin _ _ _ _ _ _ _ _ _ _ _ (@den_nm _ _ _ _ _ _ _ (mm 5 rfl) rfl) (@den_call _ _ _ _ O _ _ _ _ _ _ _ (@den_bi _ _ _ _ O _ _ _ rfl nb_len bb_len nn_len rfl) Keep.builtin (@fn_len _ _) (@den_argC _ _ _ _ _ _ _ _ (@den_nm _ _ _ _ _ _ _ (mm 4 rfl) rfl) (@den_argNil _ _ _ _) rfl) rfl) (@fn_sub _ _)) (@den_int _ _ _ _ _ _ _) (@fn_addF _ _)) (@fn_mulF _ _)) (@fn_addF _ _)) (mm 4 rfl) (by intro env h; first | rfl | (obtain ⟨⟩ := env; cases h; rfl))) ?_
          exact @den_nil _ _ _ _
        · exact @den_nil _ _ _ _
        refine @den_cons _ _ _ _ _ _ _ _ (@den_asgT _ _ _ _ _ _ _ _ _ (@den_bin _ _ _ _ _ _ _ _ _ _ _ (@den_idx _ _ _ _ _ _ _ _ _ (@den_nm _ _ _ _ _ _ _ (mm 4 rfl) rfl) (@den_nm _ _ _ _ _ _ _ (mm 5 rfl) rfl) (fun _ _ => rfl)) (@den_int _ _ _ _ _ _ _) (@fn_addF _ _)) (@den_subA _ _ _ _ _ _ _ _ _ (@den_nm _ _ _ _ _ _ _ (mm 4 rfl) rfl) (@den_nm _ _ _ _ _ _ _ (mm 5 rfl) rfl)) rfl (by intro env h; first | rfl | (obtain ⟨⟩ := env; cases h; rfl)) (by intro env h; first | rfl | (obtain ⟨⟩ := env; cases h; rfl))) ?_
        refine @den_cons _ _ _ _ _ _ _ _ (@den_asg _ _ _ _ _ _ _ _ _ _ (@den_int _ _ _ _ _ _ _) (mm 5 rfl) (by intro env h; first | rfl | (obtain ⟨⟩ := env; cases h; rfl))) ?_
        exact @den_nil _ _ _ _
      · refine @den_cons _ _ _ _ _ _ _ _ (@den_brk _ _ _ _ _) ?_
        exact @den_nil _ _ _ _
      exact @den_nil _ _ _ _
    exact @den_nil _ _ _ _
  refine @den_cons _ _ _ _ _ _ _ _ (@den_asgT _ _ _ _ _ _ _ _ _ (@den_nm _ _ _ _ _ _ _ (mm 6 rfl) rfl) (@den_atA _ _ _ _ O _ _ _ _ _ _ (@den_nm _ _ _ _ _ _ _ (mm 0 rfl) rfl) sa_WS.1 sa_WS.2.1 (sat_n) sa_WS.2.2.1 sa_WS.2.2.2 rfl nl_WS) rfl (by intro env h; first | rfl | (obtain ⟨⟩ := env; cases h; rfl)) (by intro env h; first | rfl | (obtain ⟨⟩ := env; cases h; rfl))) ?_
  refine @den_cons _ _ _ _ _ _ _ _ (@den_asgT _ _ _ _ _ _ _ _ _ (@den_nm _ _ _ _ _ _ _ (mm 7 rfl) rfl) (@den_atA _ _ _ _ O _ _ _ _ _ _ (@den_nm _ _ _ _ _ _ _ (mm 0 rfl) rfl) sa_WS.1 sa_WS.2.1 (sat_nt) sa_WS.2.2.1 sa_WS.2.2.2 rfl nl_WS) rfl (by intro env h; first | rfl | (obtain ⟨⟩ := env; cases h; rfl)) (by intro env h; first | rfl | (obtain ⟨⟩ := env; cases h; rfl))) ?_
  refine @den_cons _ _ _ _ _ _ _ _ (@den_asgT _ _ _ _ _ _ _ _ _ (@den_tup _ _ _ _ _ _ _ _ (@den_argC _ _ _ _ _ _ _ _ (@den_call _ _ _ _ O _ _ _ _ _ _ _ (@den_bi _ _ _ _ O _ _ _ rfl nb_tuple bb_tuple nn_tuple rfl) Keep.type (@fn_tup _ _) (@den_argC _ _ _ _ _ _ _ _ (@den_nm _ _ _ _ _ _ _ (mm 4 rfl) rfl) (@den_argNil _ _ _ _) rfl) rfl) (@den_argC _ _ _ _ _ _ _ _ (@den_nm _ _ _ _ _ _ _ (mm 5 rfl) rfl) (@den_argNil _ _ _ _) rfl) rfl) (by decide)) (@den_atA _ _ _ _ O _ _ _ _ _ _ (@den_nm _ _ _ _ _ _ _ (mm 0 rfl) rfl) sa_WS.1 sa_WS.2.1 (sat_norm) sa_WS.2.2.1 sa_WS.2.2.2 rfl nl_WS) rfl (by intro env h; first | rfl | (obtain ⟨⟩ := env; cases h; rfl)) (by intro env h; first | rfl | (obtain ⟨⟩ := env; cases h; rfl))) ?_
  refine @den_cons _ _ _ _ _ _ _ _ (@den_asgT _ _ _ _ _ _ _ _ _ (@den_cmp _ _ _ _ _ _ _ _ _ _ _ (@den_call _ _ _ _ O _ _ _ _ _ _ _ (@den_bi _ _ _ _ O _ _ _ rfl nb_len bb_len nn_len rfl) Keep.builtin (@fn_len _ _) (@den_argC _ _ _ _ _ _ _ _ (@den_nm _ _ _ _ _ _ _ (mm 4 rfl) rfl) (@den_argNil _ _ _ _) rfl) rfl) (@den_int _ _ _ _ _ _ _) (@fn_le _ _) rfl) (@den_atA _ _ _ _ O _ _ _ _ _ _ (@den_nm _ _ _ _ _ _ _ (mm 0 rfl) rfl) sa_WS.1 sa_WS.2.1 (sat_is_simple) sa_WS.2.2.1 sa_WS.2.2.2 rfl nl_WS) rfl (by intro env h; first | rfl | (obtain ⟨⟩ := env; cases h; rfl)) (by intro env h; first | rfl | (obtain ⟨⟩ := env; cases h; rfl))) ?_
  exact @den_nil _ _ _ _
theorem shape_ws_init : FnShape (cx2 w h₀ mg mb) 55 (fdIn (cx2 w h₀ mg mb).K 55) (bodyIn (cx2 w h₀ mg mb).K 55) ["self", "ws"] ws_init_vars 9 := FnShape.of (by kernel_rfl)
theorem code_ws_init (O : (cx2 w h₀ mg mb).Ok) : CodeOk (cx2 w h₀ mg mb) 4 (fun xs => .call (.ref 55) ⟨xs, []⟩) (ws_init0 ad2) :=
  code_fn O shape_ws_init (@den_ws_init _ _ _ _ O) (Binds.of2 (mk := fun xs => ⟨xs, []⟩) fun a b => by kernel_rfl) rfl
theorem ok_Whitespace (O : (cx2 w h₀ mg mb).Ok) : FnOk (cx2 w h₀ mg mb) 5 (fun xs => call (.ref ad2.WS) xs) (Whitespace ad2) :=
  (CodeOk.trG (code_cls O (@code_ws_init _ _ _ _ O) (by kernel_rfl) (by kernel_rfl) (by kernel_rfl)) (ref_Whitespace ad2)).fn
theorem kp_Whitespace : Keep (cx2 w h₀ mg mb) (.ref ad2.WS) := Keep.K (by kernel_rfl)
theorem den_ws_longest (O : (cx2 w h₀ mg mb).Ok) : DenSs (cx2 w h₀ mg mb) 3 ws_longest_vars (fdIn (cx2 w h₀ mg mb).K 62).scope (bodyIn (cx2 w h₀ mg mb).K 62) (ws_longest_sh ad2) := by
  conv => enter [4]; whnf
  conv => enter [5]; whnf
  refine @den_cons _ _ _ _ _ _ _ _ (@den_asgT _ _ _ _ _ _ _ _ _ (@den_at _ _ _ _ _ _ _ _ _ (@den_nm _ _ _ _ _ _ _ (mm 0 rfl) rfl) (@at_norm _ _ _ _ _ O) (fun _ => rfl)) (@den_tupT _ _ _ _ _ _ _ _ _ (@den_asCons _ _ _ _ _ _ _ _ _ (fun _ _ h => h) (@den_nmA _ _ _ _ _ _ _ (mm 1 rfl)) (@den_asCons _ _ _ _ _ _ _ _ _ (fun _ _ h => h) (@den_nmA _ _ _ _ _ _ _ (mm 2 rfl)) (@den_asNil _ _ _ _ _) rfl) rfl) rfl rfl) rfl (by intro env h; first | rfl | (obtain ⟨⟩ := env; cases h; rfl)) (by intro env h; first | rfl | (obtain ⟨⟩ := env; cases h; rfl))) ?_
  refine @den_cons _ _ _ _ _ _ _ _ (@den_ret _ _ _ _ _ _ _ (@den_call _ _ _ _ O _ _ _ _ _ _ _ (@den_bi _ _ _ _ O _ _ _ rfl nb_max bb_max nn_max rfl) Keep.builtin (@fn_max _ _) (@den_argC _ _ _ _ _ _ _ _ (@den_bin _ _ _ _ _ _ _ _ _ _ _ (@den_call _ _ _ _ O _ _ _ _ _ _ _ (@den_bi _ _ _ _ O _ _ _ rfl nb_len bb_len nn_len rfl) Keep.builtin (@fn_len _ _) (@den_argC _ _ _ _ _ _ _ _ (@den_nm _ _ _ _ _ _ _ (mm 1 rfl) rfl) (@den_argNil _ _ _ _) rfl) rfl) (@den_int _ _ _ _ _ _ _) (@fn_sub _ _)) (@den_argC _ _ _ _ _ _ _ _ (@den_nm _ _ _ _ _ _ _ (mm 2 rfl) rfl) (@den_argNil _ _ _ _) rfl) rfl) rfl)) ?_
  exact @den_nil _ _ _ _
theorem shape_ws_longest : FnShape (cx2 w h₀ mg mb) 62 (fdIn (cx2 w h₀ mg mb).K 62) (bodyIn (cx2 w h₀ mg mb).K 62) ["self"] ws_longest_vars 3 := FnShape.of (by kernel_rfl)
theorem code_ws_longest (O : (cx2 w h₀ mg mb).Ok) : CodeOk (cx2 w h₀ mg mb) 4 (fun xs => .call (.ref 62) ⟨xs, []⟩) (ws_longest ad2) :=
  code_fn O shape_ws_longest (@den_ws_longest _ _ _ _ O) (Binds.of1 (mk := fun xs => ⟨xs, []⟩) fun a => by kernel_rfl) rfl
theorem ok_ws_longest (O : (cx2 w h₀ mg mb).Ok) : FnOk (cx2 w h₀ mg mb) 4 (fun xs => call (.ref 62) xs) (ws_longest ad2) := (@code_ws_longest _ _ _ _ O).fn
theorem kp_ws_longest : Keep (cx2 w h₀ mg mb) (.ref 62) := Keep.K (by kernel_rfl)
theorem me_ws_longest (O : (cx2 w h₀ mg mb).Ok) : MethAt (cx2 w h₀ mg mb) "longest_run_of_spaces" (.ref 62) (chkI ad2.WS) := meth_inst O (by kernel_rfl) (by kernel_rfl) (by kernel_rfl) (by show ("longest_run_of_spaces" : Str) ∉ (lay_WS : List Str); decide)
theorem den_ws_level (O : (cx2 w h₀ mg mb).Ok) : DenSs (cx2 w h₀ mg mb) 3 ws_level_vars (fdIn (cx2 w h₀ mg mb).K 69).scope (bodyIn (cx2 w h₀ mg mb).K 69) (ws_level_sh ad2) := by
  conv => enter [4]; whnf
  conv => enter [5]; whnf
  refine @den_cons _ _ _ _ _ _ _ _ (@den_asgT _ _ _ _ _ _ _ _ _ (@den_at _ _ _ _ _ _ _ _ _ (@den_nm _ _ _ _ _ _ _ (mm 0 rfl) rfl) (@at_norm _ _ _ _ _ O) (fun _ => rfl)) (@den_tupT _ _ _ _ _ _ _ _ _ (@den_asCons _ _ _ _ _ _ _ _ _ (fun _ _ h => h) (@den_nmA _ _ _ _ _ _ _ (mm 2 rfl)) (@den_asCons _ _ _ _ _ _ _ _ _ (fun _ _ h => h) (@den_nmA _ _ _ _ _ _ _ (mm 3 rfl)) (@den_asNil _ _ _ _ _) rfl) rfl) rfl rfl) rfl (by intro env h; first | rfl | (obtain ⟨⟩ := env; cases h; rfl)) (by intro env h; first | rfl | (obtain ⟨⟩ := env; cases h; rfl))) ?_
  refine @den_cons _ _ _ _ _ _ _ _ (@den_asg _ _ _ _ _ _ _ _ _ _ (@den_int _ _ _ _ _ _ _) (mm 4 rfl) (by intro env h; first | rfl | (obtain ⟨⟩ := env; cases h; rfl))) ?_
  refine @den_cons _ _ _ _ _ _ _ _ (@den_for _ _ _ _ _ _ _ _ _ _ _ (@den_call _ _ _ _ O _ _ _ _ _ _ _ (@den_bi _ _ _ _ O _ _ _ rfl nb_range bb_range nn_range rfl) Keep.type (@fn_rng _ _) (@den_argC _ _ _ _ _ _ _ _ (@den_nm _ _ _ _ _ _ _ (mm 1 rfl) rfl) (@den_argC _ _ _ _ _ _ _ _ (@den_call _ _ _ _ O _ _ _ _ _ _ _ (@den_bi _ _ _ _ O _ _ _ rfl nb_len bb_len nn_len rfl) Keep.builtin (@fn_len _ _) (@den_argC _ _ _ _ _ _ _ _ (@den_nm _ _ _ _ _ _ _ (mm 2 rfl) rfl) (@den_argNil _ _ _ _) rfl) rfl) (@den_argNil _ _ _ _) rfl) rfl) rfl) (@den_nmA _ _ _ _ _ _ _ (mm 5 rfl)) ?_ (fun _ _ => rfl)) ?_
  · refine @den_cons _ _ _ _ _ _ _ _ (@den_asg _ _ _ _ _ _ _ _ _ _ (@den_bin _ _ _ _ _ _ _ _ _ _ _ (@den_nm _ _ _ _ _ _ _ (mm 4 rfl) rfl) (@den_bin _ _ _ _ _ _ _ _ _ _ _ (@den_bin _ _ _ _ _ _ _ _ _ _ _ (@den_nm _ _ _ _ _ _ _ (mm 5 rfl) rfl) (@den_nm _ _ _ _ _ _ _ (mm 1 rfl) rfl) (@fn_div _ _)) (@den_idx _ _ _ _ _ _ _ _ _ (@den_nm _ _ _ _ _ _ _ (mm 2 rfl) rfl) (@den_nm _ _ _ _ _ _ _ (mm 5 rfl) rfl) (fun _ _ => rfl)) (@fn_mulF _ _)) (@fn_addF _ _)) (mm 4 rfl) (by intro env h; first | rfl | (obtain ⟨⟩ := env; cases h; rfl))) ?_
    exact @den_nil _ _ _ _
  refine @den_cons _ _ _ _ _ _ _ _ (@den_ret _ _ _ _ _ _ _ (@den_bin _ _ _ _ _ _ _ _ _ _ _ (@den_nm _ _ _ _ _ _ _ (mm 3 rfl) rfl) (@den_bin _ _ _ _ _ _ _ _ _ _ _ (@den_nm _ _ _ _ _ _ _ (mm 1 rfl) rfl) (@den_bin _ _ _ _ _ _ _ _ _ _ _ (@den_nm _ _ _ _ _ _ _ (mm 4 rfl) rfl) (@den_at _ _ _ _ _ _ _ _ _ (@den_nm _ _ _ _ _ _ _ (mm 0 rfl) rfl) (@at_nt _ _ _ _ _ O) (fun _ => rfl)) (@fn_addF _ _)) (@fn_mulF _ _)) (@fn_addF _ _))) ?_
  exact @den_nil _ _ _ _
theorem shape_ws_level : FnShape (cx2 w h₀ mg mb) 69 (fdIn (cx2 w h₀ mg mb).K 69) (bodyIn (cx2 w h₀ mg mb).K 69) ["self", "tabsize"] ws_level_vars 6 := FnShape.of (by kernel_rfl)
theorem code_ws_level (O : (cx2 w h₀ mg mb).Ok) : CodeOk (cx2 w h₀ mg mb) 4 (fun xs => .call (.ref 69) ⟨xs, []⟩) (ws_level ad2) :=
  code_fn O shape_ws_level (@den_ws_level _ _ _ _ O) (Binds.of2 (mk := fun xs => ⟨xs, []⟩) fun a b => by kernel_rfl) rfl
theorem ok_ws_level (O : (cx2 w h₀ mg mb).Ok) : FnOk (cx2 w h₀ mg mb) 4 (fun xs => call (.ref 69) xs) (ws_level ad2) := (@code_ws_level _ _ _ _ O).fn
theorem kp_ws_level : Keep (cx2 w h₀ mg mb) (.ref 69) := Keep.K (by kernel_rfl)
theorem me_ws_level (O : (cx2 w h₀ mg mb).Ok) : MethAt (cx2 w h₀ mg mb) "indent_level" (.ref 69) (chkI ad2.WS) := meth_inst O (by kernel_rfl) (by kernel_rfl) (by kernel_rfl) (by show ("indent_level" : Str) ∉ (lay_WS : List Str); decide)
theorem den_ws_equal (O : (cx2 w h₀ mg mb).Ok) : DenSs (cx2 w h₀ mg mb) 3 ws_equal_vars (fdIn (cx2 w h₀ mg mb).K 76).scope (bodyIn (cx2 w h₀ mg mb).K 76) (ws_equal_sh ad2) := by
  conv => enter [4]; whnf
  conv => enter [5]; whnf
  refine @den_cons _ _ _ _ _ _ _ _ (@den_ret _ _ _ _ _ _ _ (@den_cmp _ _ _ _ _ _ _ _ _ _ _ (@den_at _ _ _ _ _ _ _ _ _ (@den_nm _ _ _ _ _ _ _ (mm 0 rfl) rfl) (@at_norm _ _ _ _ _ O) (fun _ => rfl)) (@den_at _ _ _ _ _ _ _ _ _ (@den_nm _ _ _ _ _ _ _ (mm 1 rfl) rfl) (@at_norm _ _ _ _ _ O) (fun _ => rfl)) (@fn_eq _ _) rfl)) ?_
  exact @den_nil _ _ _ _
theorem shape_ws_equal : FnShape (cx2 w h₀ mg mb) 76 (fdIn (cx2 w h₀ mg mb).K 76) (bodyIn (cx2 w h₀ mg mb).K 76) ["self", "other"] ws_equal_vars 2 := FnShape.of (by kernel_rfl)
theorem code_ws_equal (O : (cx2 w h₀ mg mb).Ok) : CodeOk (cx2 w h₀ mg mb) 4 (fun xs => .call (.ref 76) ⟨xs, []⟩) (ws_equal ad2) :=
  code_fn O shape_ws_equal (@den_ws_equal _ _ _ _ O) (Binds.of2 (mk := fun xs => ⟨xs, []⟩) fun a b => by kernel_rfl) rfl
theorem ok_ws_equal (O : (cx2 w h₀ mg mb).Ok) : FnOk (cx2 w h₀ mg mb) 4 (fun xs => call (.ref 76) xs) (ws_equal ad2) := (@code_ws_equal _ _ _ _ O).fn
theorem kp_ws_equal : Keep (cx2 w h₀ mg mb) (.ref 76) := Keep.K (by kernel_rfl)
theorem me_ws_equal (O : (cx2 w h₀ mg mb).Ok) : MethAt (cx2 w h₀ mg mb) "equal" (.ref 76) (chkI ad2.WS) := meth_inst O (by kernel_rfl) (by kernel_rfl) (by kernel_rfl) (by show ("equal" : Str) ∉ (lay_WS : List Str); decide)
theorem den_ws_less (O : (cx2 w h₀ mg mb).Ok) : DenSs (cx2 w h₀ mg mb) 4 ws_less_vars (fdIn (cx2 w h₀ mg mb).K 90).scope (bodyIn (cx2 w h₀ mg mb).K 90) (ws_less_sh ad2) := by
  conv => enter [4]; whnf
  conv => enter [5]; whnf
  refine @den_cons _ _ _ _ _ _ _ _ (@den_if _ _ _ _ _ _ _ _ _ _ _ (@den_cmpT _ _ _ _ _ _ _ _ _ _ _ (@den_at _ _ _ _ _ _ _ _ _ (@den_nm _ _ _ _ _ _ _ (mm 0 rfl) rfl) (@at_n _ _ _ _ _ O) (fun _ => rfl)) (@den_at _ _ _ _ _ _ _ _ _ (@den_nm _ _ _ _ _ _ _ (mm 1 rfl) rfl) (@at_n _ _ _ _ _ O) (fun _ => rfl)) (@fn_ge _ _) rfl) ?_ ?_) ?_
  · refine @den_cons _ _ _ _ _ _ _ _ (@den_ret _ _ _ _ _ _ _ (@den_bool _ _ _ _ _ _ _)) ?_
    exact @den_nil _ _ _ _
  · exact @den_nil _ _ _ _
  refine @den_cons _ _ _ _ _ _ _ _ (@den_if _ _ _ _ _ _ _ _ _ _ _ (@den_boolT _ _ _ _ _ _ _ _ (@den_allCons _ _ _ _ _ _ _ _ _ (@den_valT _ _ _ _ _ _ (@den_at _ _ _ _ _ _ _ _ _ (@den_nm _ _ _ _ _ _ _ (mm 0 rfl) rfl) (@at_is_simple _ _ _ _ _ O) (fun _ => rfl)) (fun _ _ => rfl)) (@den_allCons _ _ _ _ _ _ _ _ _ (@den_valT _ _ _ _ _ _ (@den_at _ _ _ _ _ _ _ _ _ (@den_nm _ _ _ _ _ _ _ (mm 1 rfl) rfl) (@at_is_simple _ _ _ _ _ O) (fun _ => rfl)) (fun _ _ => rfl)) (@den_allNil _ _ _ _ _)))) ?_ ?_) ?_
  · refine @den_cons _ _ _ _ _ _ _ _ (@den_ret _ _ _ _ _ _ _ (@den_cmp _ _ _ _ _ _ _ _ _ _ _ (@den_at _ _ _ _ _ _ _ _ _ (@den_nm _ _ _ _ _ _ _ (mm 0 rfl) rfl) (@at_nt _ _ _ _ _ O) (fun _ => rfl)) (@den_at _ _ _ _ _ _ _ _ _ (@den_nm _ _ _ _ _ _ _ (mm 1 rfl) rfl) (@at_nt _ _ _ _ _ O) (fun _ => rfl)) (@fn_le _ _) rfl)) ?_
    exact @den_nil _ _ _ _
  · exact @den_nil _ _ _ _
  refine @den_cons _ _ _ _ _ _ _ _ (@den_asg _ _ _ _ _ _ _ _ _ _ (@den_bin _ _ _ _ _ _ _ _ _ _ _ (@den_call _ _ _ _ O _ _ _ _ _ _ _ (@den_bi _ _ _ _ O _ _ _ rfl nb_max bb_max nn_max rfl) Keep.builtin (@fn_max _ _) (@den_argC _ _ _ _ _ _ _ _ (@den_meth _ _ _ _ O _ _ _ _ _ _ _ _ _ _ (@den_nm _ _ _ _ _ _ _ (mm 0 rfl) rfl) (@me_ws_longest _ _ _ _ O) kp_ws_longest (@FnOk.le _ _ _ _ _ (@ok_ws_longest _ _ _ _ O) (by decide)) (@den_argNil _ _ _ _) rfl (fun env _ => ⟨_, rfl⟩)) (@den_argC _ _ _ _ _ _ _ _ (@den_meth _ _ _ _ O _ _ _ _ _ _ _ _ _ _ (@den_nm _ _ _ _ _ _ _ (mm 1 rfl) rfl) (@me_ws_longest _ _ _ _ O) kp_ws_longest (@FnOk.le _ _ _ _ _ (@ok_ws_longest _ _ _ _ O) (by decide)) (@den_argNil _ _ _ _) rfl (fun env _ => ⟨_, rfl⟩)) (@den_argNil _ _ _ _) rfl) rfl) rfl) (@den_int _ _ _ _ _ _ _) (@fn_addF _ _)) (mm 2 rfl) (by intro env h; first | rfl | (obtain ⟨⟩ := env; cases h; rfl))) ?_
  refine @den_cons _ _ _ _ _ _ _ _ (@den_for _ _ _ _ _ _ _ _ _ _ _ (@den_call _ _ _ _ O _ _ _ _ _ _ _ (@den_bi _ _ _ _ O _ _ _ rfl nb_range bb_range nn_range rfl) Keep.type (@fn_rng _ _) (@den_argC _ _ _ _ _ _ _ _ (@den_int _ _ _ _ _ _ _) (@den_argC _ _ _ _ _ _ _ _ (@den_bin _ _ _ _ _ _ _ _ _ _ _ (@den_nm _ _ _ _ _ _ _ (mm 2 rfl) rfl) (@den_int _ _ _ _ _ _ _) (@fn_addF _ _)) (@den_argNil _ _ _ _) rfl) rfl) rfl) (@den_nmA _ _ _ _ _ _ _ (mm 3 rfl)) ?_ (fun _ _ => rfl)) ?_
  · refine @den_cons _ _ _ _ _ _ _ _ (@den_if _ _ _ _ _ _ _ _ _ _ _ (@den_cmpT _ _ _ _ _ _ _ _ _ _ _ (@den_meth _ _ _ _ O _ _ _ _ _ _ _ _ _ _ (@den_nm _ _ _ _ _ _ _ (mm 0 rfl) rfl) (@me_ws_level _ _ _ _ O) kp_ws_level (@FnOk.le _ _ _ _ _ (@ok_ws_level _ _ _ _ O) (by decide)) (@den_argC _ _ _ _ _ _ _ _ (@den_nm _ _ _ _ _ _ _ (mm 3 rfl) rfl) (@den_argNil _ _ _ _) rfl) rfl (fun env _ => ⟨_, rfl⟩)) (@den_meth _ _ _ _ O _ _ _ _ _ _ _ _ _ _ (@den_nm _ _ _ _ _ _ _ (mm 1 rfl) rfl) (@me_ws_level _ _ _ _ O) kp_ws_level (@FnOk.le _ _ _ _ _ (@ok_ws_level _ _ _ _ O) (by decide)) (@den_argC _ _ _ _ _ _ _ _ (@den_nm _ _ _ _ _ _ _ (mm 3 rfl) rfl) (@den_argNil _ _ _ _) rfl) rfl (fun env _ => ⟨_, rfl⟩)) (@fn_ge _ _) rfl) ?_ ?_) ?_
    · refine @den_cons _ _ _ _ _ _ _ _ (@den_ret _ _ _ _ _ _ _ (@den_bool _ _ _ _ _ _ _)) ?_
      exact @den_nil _ _ _ _
    · exact @den_nil _ _ _ _
    exact @den_nil _ _ _ _
  refine @den_cons _ _ _ _ _ _ _ _ (@den_ret _ _ _ _ _ _ _ (@den_bool _ _ _ _ _ _ _)) ?_
  exact @den_nil _ _ _ _
theorem shape_ws_less : FnShape (cx2 w h₀ mg mb) 90 (fdIn (cx2 w h₀ mg mb).K 90) (bodyIn (cx2 w h₀ mg mb).K 90) ["self", "other"] ws_less_vars 4 := FnShape.of (by kernel_rfl)
theorem code_ws_less (O : (cx2 w h₀ mg mb).Ok) : CodeOk (cx2 w h₀ mg mb) 5 (fun xs => .call (.ref 90) ⟨xs, []⟩) (ws_less ad2) :=
  code_fn O shape_ws_less (@den_ws_less _ _ _ _ O) (Binds.of2 (mk := fun xs => ⟨xs, []⟩) fun a b => by kernel_rfl) rfl
theorem ok_ws_less (O : (cx2 w h₀ mg mb).Ok) : FnOk (cx2 w h₀ mg mb) 5 (fun xs => call (.ref 90) xs) (ws_less ad2) := (@code_ws_less _ _ _ _ O).fn
theorem kp_ws_less : Keep (cx2 w h₀ mg mb) (.ref 90) := Keep.K (by kernel_rfl)
theorem me_ws_less (O : (cx2 w h₀ mg mb).Ok) : MethAt (cx2 w h₀ mg mb) "less" (.ref 90) (chkI ad2.WS) := meth_inst O (by kernel_rfl) (by kernel_rfl) (by kernel_rfl) (by show ("less" : Str) ∉ (lay_WS : List Str); decide)
theorem den_hd_cst (O : (cx2 w h₀ mg mb).Ok) : DenSs (cx2 w h₀ mg mb) 3 hd_cst_vars (fdIn (cx2 w h₀ mg mb).K 149).scope (bodyIn (cx2 w h₀ mg mb).K 149) (hd_cst_sh ad2) := by
  conv => enter [4]; whnf
  conv => enter [5]; whnf
  refine @den_cons _ _ _ _ _ _ _ _ (@den_if _ _ _ _ _ _ _ _ _ _ _ (@den_cmpT _ _ _ _ _ _ _ _ _ _ _ (@den_call _ _ _ _ O _ _ _ _ _ _ _ (@den_bi _ _ _ _ O _ _ _ rfl nb_type bb_type nn_type rfl) Keep.type (@fn_typ _ _) (@den_argC _ _ _ _ _ _ _ _ (@den_nm _ _ _ _ _ _ _ (mm 1 rfl) rfl) (@den_argNil _ _ _ _) rfl) rfl) (@den_bi _ _ _ _ O _ _ _ rfl nb_str bb_str nn_str rfl) (@fn_is _ _) rfl) ?_ ?_) ?_
  · refine @den_cons _ _ _ _ _ _ _ _ (@den_asg _ _ _ _ _ _ _ _ _ _ (@den_ifE _ _ _ _ _ _ _ _ _ _ _ (@den_valT _ _ _ _ _ _ (@den_nm _ _ _ _ _ _ _ (mm 2 rfl) rfl) (fun _ _ => rfl)) (@den_gl _ _ _ _ O _ _ _ rfl g_name_disallowed_re rfl) (@den_gl _ _ _ _ O _ _ _ rfl g_value_disallowed_re rfl)) (mm 3 rfl) (by intro env h; first | rfl | (obtain ⟨⟩ := env; cases h; rfl))) ?_
    refine @den_cons _ _ _ _ _ _ _ _ (@den_if _ _ _ _ _ _ _ _ _ _ _ (@den_valT _ _ _ _ _ _ (@den_meth _ _ _ _ O _ _ _ _ _ _ _ _ _ _ (@den_nm _ _ _ _ _ _ _ (mm 3 rfl) rfl) (@meth_search _ O _ _ pats) Keep.builtin (@fn_search _ _ O _ _ pats) (@den_argC _ _ _ _ _ _ _ _ (@den_nm _ _ _ _ _ _ _ (mm 1 rfl) rfl) (@den_argNil _ _ _ _) rfl) rfl (fun env _ => ⟨_, rfl⟩)) (fun _ _ => rfl)) ?_ ?_) ?_
    · refine @den_cons _ _ _ _ _ _ _ _ (@den_fail _ _ _ _ _) ?_
      exact @den_nil _ _ _ _
    · exact @den_nil _ _ _ _
    refine @den_cons _ _ _ _ _ _ _ _ (@den_ret _ _ _ _ _ _ _ (@den_nm _ _ _ _ _ _ _ (mm 1 rfl) rfl)) ?_
    exact @den_nil _ _ _ _
  · exact @den_nil _ _ _ _
  refine @den_cons _ _ _ _ _ _ _ _ (@den_fail _ _ _ _ _) ?_
  exact @den_nil _ _ _ _
theorem shape_hd_cst : FnShape (cx2 w h₀ mg mb) 149 (fdIn (cx2 w h₀ mg mb).K 149) (bodyIn (cx2 w h₀ mg mb).K 149) ["self", "value", "name"] hd_cst_vars 4 := FnShape.of (by kernel_rfl)
theorem code_hd_cst (O : (cx2 w h₀ mg mb).Ok) : CodeOk (cx2 w h₀ mg mb) 4 (fun xs => .call (.ref 149) ⟨xs.dropLast, [("name", xs.getLastD .none)]⟩) (hd_cst ad2) :=
  code_fn O shape_hd_cst (@den_hd_cst _ _ _ _ O) (Binds.of3 (mk := fun xs => ⟨xs.dropLast, [("name", xs.getLastD .none)]⟩) fun a b c => by kernel_rfl) rfl
theorem ok_hd_cst (O : (cx2 w h₀ mg mb).Ok) : FnOk (cx2 w h₀ mg mb) 4 (kw1 (.ref 149) "name") (hd_cst ad2) := (@code_hd_cst _ _ _ _ O).kw
theorem kp_hd_cst : Keep (cx2 w h₀ mg mb) (.ref 149) := Keep.K (by kernel_rfl)
theorem me_hd_cst (O : (cx2 w h₀ mg mb).Ok) : MethAt (cx2 w h₀ mg mb) "_convert_string_type" (.ref 149) (chkI ad2.HD) := meth_inst O (by kernel_rfl) (by kernel_rfl) (by kernel_rfl) (by show ("_convert_string_type" : Str) ∉ (lay_HD : List Str); decide)
theorem den_hd_init (O : (cx2 w h₀ mg mb).Ok) : DenSs (cx2 w h₀ mg mb) 4 hd_init_vars (fdIn (cx2 w h₀ mg mb).K 142).scope (bodyIn (cx2 w h₀ mg mb).K 142) (hd_init_sh ad2) := by
  conv => enter [4]; whnf
  conv => enter [5]; whnf
  refine @den_cons _ _ _ _ _ _ _ _ (@den_asg _ _ _ _ _ _ _ _ _ _ (@den_ifE _ _ _ _ _ _ _ _ _ _ _ (@den_cmpT _ _ _ _ _ _ _ _ _ _ _ (@den_nm _ _ _ _ _ _ _ (mm 1 rfl) rfl) (@den_none _ _ _ _ _ _) (@fn_isNot _ _) rfl) (@den_nm _ _ _ _ _ _ _ (mm 1 rfl) rfl) (@den_mlst _ _ _ _ _ _ _ (@den_argNil _ _ _ _) (by decide))) (mm 1 rfl) (by intro env h; first | rfl | (obtain ⟨⟩ := env; cases h; rfl))) ?_
  refine @den_cons _ _ _ _ _ _ _ _ (@den_if _ _ _ _ _ _ _ _ _ _ _ (@den_cmpT _ _ _ _ _ _ _ _ _ _ _ (@den_call _ _ _ _ O _ _ _ _ _ _ _ (@den_bi _ _ _ _ O _ _ _ rfl nb_type bb_type nn_type rfl) Keep.type (@fn_typ _ _) (@den_argC _ _ _ _ _ _ _ _ (@den_nm _ _ _ _ _ _ _ (mm 1 rfl) rfl) (@den_argNil _ _ _ _) rfl) rfl) (@den_bi _ _ _ _ O _ _ _ rfl nb_list bb_list nn_list rfl) (@fn_isNot _ _) rfl) ?_ ?_) ?_
  · refine @den_cons _ _ _ _ _ _ _ _ (@den_fail _ _ _ _ _) ?_
    exact @den_nil _ _ _ _
  · exact @den_nil _ _ _ _
  refine @den_cons _ _ _ _ _ _ _ _ (@den_asgT _ _ _ _ _ _ _ _ _ (@den_nm _ _ _ _ _ _ _ (mm 1 rfl) rfl) (@den_atA _ _ _ _ O _ _ _ _ _ _ (@den_nm _ _ _ _ _ _ _ (mm 0 rfl) rfl) sa_HD.1 sa_HD.2.1 (sat_headers) sa_HD.2.2.1 sa_HD.2.2.2 rfl nl_HD) rfl (by intro env h; first | rfl | (obtain ⟨⟩ := env; cases h; rfl)) (by intro env h; first | rfl | (obtain ⟨⟩ := env; cases h; rfl))) ?_
  refine @den_cons _ _ _ _ _ _ _ _ (@den_if _ _ _ _ _ _ _ _ _ _ _ (@den_valT _ _ _ _ _ _ (@den_bool _ _ _ _ _ _ _) (fun _ _ => rfl)) ?_ ?_) ?_
  · refine @den_cons _ _ _ _ _ _ _ _ (@den_for _ _ _ _ _ _ _ _ _ _ _ (@den_nm _ _ _ _ _ _ _ (mm 1 rfl) rfl) (@den_tupT _ _ _ _ _ _ _ _ _ (@den_asCons _ _ _ _ _ _ _ _ _ (fun _ _ h => h) (@den_nmA _ _ _ _ _ _ _ (mm 2 rfl)) (@den_asCons _ _ _ _ _ _ _ _ _ (fun _ _ h => h) (@den_nmA _ _ _ _ _ _ _ (mm 3 rfl)) (@den_asNil _ _ _ _ _) rfl) rfl) rfl rfl) ?_ (fun _ _ => rfl)) ?_
    · refine @den_cons _ _ _ _ _ _ _ _ (@den_expr _ _ _ _ _ _ _ (@den_methKw _ _ _ _ O _ _ _ _ _ _ _ _ _ _ _ _ _ _ _ (@den_nm _ _ _ _ _ _ _ (mm 0 rfl) rfl) (@me_hd_cst _ _ _ _ O) kp_hd_cst (@FnOk.le _ _ _ _ _ (@ok_hd_cst _ _ _ _ O) (by decide)) (@den_nm _ _ _ _ _ _ _ (mm 2 rfl) rfl) rfl (fun env _ => ⟨_, rfl⟩)) (fun _ => rfl)) ?_
      refine @den_cons _ _ _ _ _ _ _ _ (@den_expr _ _ _ _ _ _ _ (@den_methKw _ _ _ _ O _ _ _ _ _ _ _ _ _ _ _ _ _ _ _ (@den_nm _ _ _ _ _ _ _ (mm 0 rfl) rfl) (@me_hd_cst _ _ _ _ O) kp_hd_cst (@FnOk.le _ _ _ _ _ (@ok_hd_cst _ _ _ _ O) (by decide)) (@den_nm _ _ _ _ _ _ _ (mm 3 rfl) rfl) rfl (fun env _ => ⟨_, rfl⟩)) (fun _ => rfl)) ?_
      exact @den_nil _ _ _ _
    exact @den_nil _ _ _ _
  · exact @den_nil _ _ _ _
  exact @den_nil _ _ _ _
theorem shape_hd_init : FnShape (cx2 w h₀ mg mb) 142 (fdIn (cx2 w h₀ mg mb).K 142) (bodyIn (cx2 w h₀ mg mb).K 142) ["self", "headers"] hd_init_vars 4 := FnShape.of (by kernel_rfl)
theorem bi_hd_init (s : Shared) (a : Value) (X : (cx2 w h₀ mg mb).K.In s.heap) : BindsTo s (fdIn (cx2 w h₀ mg mb).K 142) ⟨[a], []⟩ [("self", a), ("headers", .none)] := by
  conv => enter [2]; whnf
  exact binds_K (T := 135) X rfl rfl rfl rfl rfl
theorem code_hd_init (O : (cx2 w h₀ mg mb).Ok) : CodeOk (cx2 w h₀ mg mb) 5 (fun xs => .call (.ref 142) ⟨xs, []⟩) (dfF 1 [.none] (hd_init ad2)) :=
  code_fnD O shape_hd_init (@den_hd_init _ _ _ _ O) (BindsD.of1 bi_hd_init) rfl rfl (fun _ _ _ => .cons .none .nil)
theorem ok_Headers (O : (cx2 w h₀ mg mb).Ok) : FnOk (cx2 w h₀ mg mb) 6 (fun xs => call (.ref ad2.HD) xs) (Headers ad2) :=
  (code_cls O (@code_hd_init _ _ _ _ O) (by kernel_rfl) (by kernel_rfl) (by kernel_rfl)).fn
theorem kp_Headers : Keep (cx2 w h₀ mg mb) (.ref ad2.HD) := Keep.K (by kernel_rfl)
theorem den_hd_delitem (O : (cx2 w h₀ mg mb).Ok) : DenSs (cx2 w h₀ mg mb) 4 hd_delitem_vars (fdIn (cx2 w h₀ mg mb).K 168).scope (bodyIn (cx2 w h₀ mg mb).K 168) (hd_delitem_sh ad2) := by
  conv => enter [4]; whnf
  conv => enter [5]; whnf
  refine @den_cons _ _ _ _ _ _ _ _ (@den_asg _ _ _ _ _ _ _ _ _ _ (@den_methKw _ _ _ _ O _ _ _ _ _ _ _ _ _ _ _ _ _ _ _ (@den_nm _ _ _ _ _ _ _ (mm 0 rfl) rfl) (@me_hd_cst _ _ _ _ O) kp_hd_cst (@FnOk.le _ _ _ _ _ (@ok_hd_cst _ _ _ _ O) (by decide)) (@den_meth _ _ _ _ O _ _ _ _ _ _ _ _ _ _ (@den_nm _ _ _ _ _ _ _ (mm 1 rfl) rfl) (@meth_lower _) Keep.builtin (@fn_lower _ _) (@den_argNil _ _ _ _) rfl (fun env _ => ⟨_, rfl⟩)) rfl (fun env _ => ⟨_, rfl⟩)) (mm 1 rfl) (by intro env h; first | rfl | (obtain ⟨⟩ := env; cases h; rfl))) ?_
  refine @den_cons _ _ _ _ _ _ _ _ (@den_asgT _ _ _ _ _ _ _ _ _ (@den_lcV _ _ _ _ _ _ _ _ _ _ _ _ _ _ _ _ (by decide +kernel) (@den_at _ _ _ _ _ _ _ _ _ (@den_nm _ _ _ _ _ _ _ (mm 0 rfl) rfl) (@at_headers _ _ _ _ _ O) (fun _ => rfl)) (@den_nmAL _ _ _ _ _ _ _ (mm 0 rfl) rfl) (@den_if1 _ _ _ _ _ _ (@den_cmpT _ _ _ _ _ _ _ _ _ _ _ (@den_meth _ _ _ _ O _ _ _ _ _ _ _ _ _ _ (@den_idx _ _ _ _ _ _ _ _ _ (@den_nm _ _ _ _ _ _ _ (mm 0 rfl) rfl) (@den_int _ _ _ _ _ _ _) (fun _ _ => rfl)) (@meth_lower _) Keep.builtin (@fn_lower _ _) (@den_argNil _ _ _ _) rfl (fun env _ => ⟨_, rfl⟩)) (@den_nm _ _ _ _ _ _ _ (mm 1 rfl) rfl) (@fn_ne _ _) rfl)) (@den_nm _ _ _ _ _ _ _ (mm 0 rfl) rfl) (fun _ _ => rfl)) (@den_slA _ _ _ _ _ _ _ _ (@den_at _ _ _ _ _ _ _ _ _ (@den_nm _ _ _ _ _ _ _ (mm 0 rfl) rfl) (@at_headers _ _ _ _ _ O) (fun _ => rfl))) rfl (by intro env h; first | rfl | (obtain ⟨⟩ := env; cases h; rfl)) (by intro env h; first | rfl | (obtain ⟨⟩ := env; cases h; rfl))) ?_
  exact @den_nil _ _ _ _
theorem shape_hd_delitem : FnShape (cx2 w h₀ mg mb) 168 (fdIn (cx2 w h₀ mg mb).K 168) (bodyIn (cx2 w h₀ mg mb).K 168) ["self", "name"] hd_delitem_vars 3 := FnShape.of (by kernel_rfl)
theorem code_hd_delitem (O : (cx2 w h₀ mg mb).Ok) : CodeOk (cx2 w h₀ mg mb) 5 (fun xs => .call (.ref 168) ⟨xs, []⟩) (hd_delitem ad2) :=
  code_fn O shape_hd_delitem (@den_hd_delitem _ _ _ _ O) (Binds.of2 (mk := fun xs => ⟨xs, []⟩) fun a b => by kernel_rfl) rfl
theorem ok_hd_delitem (O : (cx2 w h₀ mg mb).Ok) : FnOk (cx2 w h₀ mg mb) 5 (fun xs => call (.ref 168) xs) (hd_delitem ad2) := (@code_hd_delitem _ _ _ _ O).fn
theorem den_hd_setitem (O : (cx2 w h₀ mg mb).Ok) : DenSs (cx2 w h₀ mg mb) 5 hd_setitem_vars (fdIn (cx2 w h₀ mg mb).K 163).scope (bodyIn (cx2 w h₀ mg mb).K 163) (hd_setitem_sh ad2) := by
  conv => enter [4]; whnf
  conv => enter [5]; whnf
  refine @den_cons _ _ _ _ _ _ _ _ (@den_del _ _ _ _ O _ _ _ _ _ _ _ _ _ (@den_nm _ _ _ _ _ _ _ (mm 0 rfl) rfl) (@den_nm _ _ _ _ _ _ _ (mm 1 rfl) rfl) hd_noSeq hd_fdel hd_fdelf (@FnOk.le _ _ _ _ _ (@ok_hd_delitem _ _ _ _ O) (by decide))) ?_
  refine @den_cons _ _ _ _ _ _ _ _ (@den_expr _ _ _ _ _ _ _ (@den_meth _ _ _ _ O _ _ _ _ _ _ _ _ _ _ (@den_at _ _ _ _ _ _ _ _ _ (@den_nm _ _ _ _ _ _ _ (mm 0 rfl) rfl) (@at_headers _ _ _ _ _ O) (fun _ => rfl)) (@meth_append _) Keep.builtin (@fn_app _ _) (@den_argC _ _ _ _ _ _ _ _ (@den_tup _ _ _ _ _ _ _ _ (@den_argC _ _ _ _ _ _ _ _ (@den_methKw _ _ _ _ O _ _ _ _ _ _ _ _ _ _ _ _ _ _ _ (@den_nm _ _ _ _ _ _ _ (mm 0 rfl) rfl) (@me_hd_cst _ _ _ _ O) kp_hd_cst (@FnOk.le _ _ _ _ _ (@ok_hd_cst _ _ _ _ O) (by decide)) (@den_nm _ _ _ _ _ _ _ (mm 1 rfl) rfl) rfl (fun env _ => ⟨_, rfl⟩)) (@den_argC _ _ _ _ _ _ _ _ (@den_methKw _ _ _ _ O _ _ _ _ _ _ _ _ _ _ _ _ _ _ _ (@den_nm _ _ _ _ _ _ _ (mm 0 rfl) rfl) (@me_hd_cst _ _ _ _ O) kp_hd_cst (@FnOk.le _ _ _ _ _ (@ok_hd_cst _ _ _ _ O) (by decide)) (@den_nm _ _ _ _ _ _ _ (mm 2 rfl) rfl) rfl (fun env _ => ⟨_, rfl⟩)) (@den_argNil _ _ _ _) rfl) rfl) (by decide)) (@den_argNil _ _ _ _) rfl) rfl (fun env _ => ⟨_, rfl⟩)) (fun _ => rfl)) ?_
  exact @den_nil _ _ _ _
theorem shape_hd_setitem : FnShape (cx2 w h₀ mg mb) 163 (fdIn (cx2 w h₀ mg mb).K 163) (bodyIn (cx2 w h₀ mg mb).K 163) ["self", "name", "val"] hd_setitem_vars 3 := FnShape.of (by kernel_rfl)
theorem code_hd_setitem (O : (cx2 w h₀ mg mb).Ok) : CodeOk (cx2 w h₀ mg mb) 6 (fun xs => .call (.ref 163) ⟨xs, []⟩) (hd_setitem ad2) :=
  code_fn O shape_hd_setitem (@den_hd_setitem _ _ _ _ O) (Binds.of3 (mk := fun xs => ⟨xs, []⟩) fun a b c => by kernel_rfl) rfl
theorem ok_hd_setitem (O : (cx2 w h₀ mg mb).Ok) : FnOk (cx2 w h₀ mg mb) 6 (fun xs => call (.ref 163) xs) (hd_setitem ad2) := (@code_hd_setitem _ _ _ _ O).fn
theorem den_hd_get (O : (cx2 w h₀ mg mb).Ok) : DenSs (cx2 w h₀ mg mb) 4 hd_get_vars (fdIn (cx2 w h₀ mg mb).K 197).scope (bodyIn (cx2 w h₀ mg mb).K 197) (hd_get_sh ad2) := by
  conv => enter [4]; whnf
  conv => enter [5]; whnf
  refine @den_cons _ _ _ _ _ _ _ _ (@den_asg _ _ _ _ _ _ _ _ _ _ (@den_methKw _ _ _ _ O _ _ _ _ _ _ _ _ _ _ _ _ _ _ _ (@den_nm _ _ _ _ _ _ _ (mm 0 rfl) rfl) (@me_hd_cst _ _ _ _ O) kp_hd_cst (@FnOk.le _ _ _ _ _ (@ok_hd_cst _ _ _ _ O) (by decide)) (@den_meth _ _ _ _ O _ _ _ _ _ _ _ _ _ _ (@den_nm _ _ _ _ _ _ _ (mm 1 rfl) rfl) (@meth_lower _) Keep.builtin (@fn_lower _ _) (@den_argNil _ _ _ _) rfl (fun env _ => ⟨_, rfl⟩)) rfl (fun env _ => ⟨_, rfl⟩)) (mm 1 rfl) (by intro env h; first | rfl | (obtain ⟨⟩ := env; cases h; rfl))) ?_
  refine @den_cons _ _ _ _ _ _ _ _ (@den_for _ _ _ _ _ _ _ _ _ _ _ (@den_at _ _ _ _ _ _ _ _ _ (@den_nm _ _ _ _ _ _ _ (mm 0 rfl) rfl) (@at_headers _ _ _ _ _ O) (fun _ => rfl)) (@den_tupT _ _ _ _ _ _ _ _ _ (@den_asCons _ _ _ _ _ _ _ _ _ (fun _ _ h => h) (@den_nmA _ _ _ _ _ _ _ (mm 3 rfl)) (@den_asCons _ _ _ _ _ _ _ _ _ (fun _ _ h => h) (@den_nmA _ _ _ _ _ _ _ (mm 4 rfl)) (@den_asNil _ _ _ _ _) rfl) rfl) rfl rfl) ?_ (fun _ _ => rfl)) ?_
  · refine @den_cons _ _ _ _ _ _ _ _ (@den_if _ _ _ _ _ _ _ _ _ _ _ (@den_cmpT _ _ _ _ _ _ _ _ _ _ _ (@den_meth _ _ _ _ O _ _ _ _ _ _ _ _ _ _ (@den_nm _ _ _ _ _ _ _ (mm 3 rfl) rfl) (@meth_lower _) Keep.builtin (@fn_lower _ _) (@den_argNil _ _ _ _) rfl (fun env _ => ⟨_, rfl⟩)) (@den_nm _ _ _ _ _ _ _ (mm 1 rfl) rfl) (@fn_eq _ _) rfl) ?_ ?_) ?_
    · refine @den_cons _ _ _ _ _ _ _ _ (@den_ret _ _ _ _ _ _ _ (@den_nm _ _ _ _ _ _ _ (mm 4 rfl) rfl)) ?_
      exact @den_nil _ _ _ _
    · exact @den_nil _ _ _ _
    exact @den_nil _ _ _ _
  refine @den_cons _ _ _ _ _ _ _ _ (@den_ret _ _ _ _ _ _ _ (@den_nm _ _ _ _ _ _ _ (mm 2 rfl) rfl)) ?_
  exact @den_nil _ _ _ _
theorem shape_hd_get : FnShape (cx2 w h₀ mg mb) 197 (fdIn (cx2 w h₀ mg mb).K 197) (bodyIn (cx2 w h₀ mg mb).K 197) ["self", "name", "default"] hd_get_vars 5 := FnShape.of (by kernel_rfl)
theorem bi_hd_get1 (s : Shared) (a b : Value) (X : (cx2 w h₀ mg mb).K.In s.heap) : BindsTo s (fdIn (cx2 w h₀ mg mb).K 197) ⟨[a, b], []⟩ [("self", a), ("name", b), ("default", .none)] := by
  conv => enter [2]; whnf
  exact binds_K (T := 190) X rfl rfl rfl rfl rfl
theorem code_hd_get1 (O : (cx2 w h₀ mg mb).Ok) : CodeOk (cx2 w h₀ mg mb) 5 (fun xs => .call (.ref 197) ⟨xs, []⟩) (hd_get1 ad2) :=
  code_fnD O shape_hd_get (@den_hd_get _ _ _ _ O) (BindsD.of2 bi_hd_get1) rfl rfl (fun _ _ _ => .cons .none .nil)
theorem ok_hd_get1 (O : (cx2 w h₀ mg mb).Ok) : FnOk (cx2 w h₀ mg mb) 5 (fun xs => call (.ref 197) xs) (hd_get1 ad2) := (@code_hd_get1 _ _ _ _ O).fn
theorem kp_hd_get : Keep (cx2 w h₀ mg mb) (.ref 197) := Keep.K (by kernel_rfl)
theorem me_hd_get (O : (cx2 w h₀ mg mb).Ok) : MethAt (cx2 w h₀ mg mb) "get" (.ref 197) (chkI ad2.HD) := meth_inst O (by kernel_rfl) (by kernel_rfl) (by kernel_rfl) (by show ("get" : Str) ∉ (lay_HD : List Str); decide)
theorem den_hd_keys (O : (cx2 w h₀ mg mb).Ok) : DenSs (cx2 w h₀ mg mb) 3 hd_keys_vars (fdIn (cx2 w h₀ mg mb).K 202).scope (bodyIn (cx2 w h₀ mg mb).K 202) (hd_keys_sh ad2) := by
  conv => enter [4]; whnf
  conv => enter [5]; whnf
  refine @den_cons _ _ _ _ _ _ _ _ (@den_ret _ _ _ _ _ _ _ (@den_lcV _ _ _ _ _ _ _ _ _ _ _ _ _ _ _ _ (by decide +kernel) (@den_at _ _ _ _ _ _ _ _ _ (@den_nm _ _ _ _ _ _ _ (mm 0 rfl) rfl) (@at_headers _ _ _ _ _ O) (fun _ => rfl)) (@den_tupT _ _ _ _ _ _ _ _ _ (@den_asCons _ _ _ _ _ _ _ _ _ (fun _ _ h => .inl h) (@den_nmAL _ _ _ _ _ _ _ (mm 0 rfl) rfl) (@den_asCons _ _ _ _ _ _ _ _ _ (fun _ _ h => .inl h) (@den_nmAL _ _ _ _ _ _ _ (mm 1 rfl) rfl) (@den_asNil _ _ _ _ _) rfl) rfl) rfl rfl) (@den_if0 _ _ _ _) (@den_nm _ _ _ _ _ _ _ (mm 0 rfl) rfl) (fun _ _ => rfl))) ?_
  exact @den_nil _ _ _ _
theorem shape_hd_keys : FnShape (cx2 w h₀ mg mb) 202 (fdIn (cx2 w h₀ mg mb).K 202) (bodyIn (cx2 w h₀ mg mb).K 202) ["self"] hd_keys_vars 3 := FnShape.of (by kernel_rfl)
theorem code_hd_keys (O : (cx2 w h₀ mg mb).Ok) : CodeOk (cx2 w h₀ mg mb) 4 (fun xs => .call (.ref 202) ⟨xs, []⟩) (hd_keys ad2) :=
  code_fn O shape_hd_keys (@den_hd_keys _ _ _ _ O) (Binds.of1 (mk := fun xs => ⟨xs, []⟩) fun a => by kernel_rfl) rfl
theorem ok_hd_keys (O : (cx2 w h₀ mg mb).Ok) : FnOk (cx2 w h₀ mg mb) 4 (fun xs => call (.ref 202) xs) (hd_keys ad2) := (@code_hd_keys _ _ _ _ O).fn
theorem kp_hd_keys : Keep (cx2 w h₀ mg mb) (.ref 202) := Keep.K (by kernel_rfl)
theorem me_hd_keys (O : (cx2 w h₀ mg mb).Ok) : MethAt (cx2 w h₀ mg mb) "keys" (.ref 202) (chkI ad2.HD) := meth_inst O (by kernel_rfl) (by kernel_rfl) (by kernel_rfl) (by show ("keys" : Str) ∉ (lay_HD : List Str); decide)
theorem den_hd_setdefault (O : (cx2 w h₀ mg mb).Ok) : DenSs (cx2 w h₀ mg mb) 5 hd_setdefault_vars (fdIn (cx2 w h₀ mg mb).K 240).scope (bodyIn (cx2 w h₀ mg mb).K 240) (hd_setdefault_sh ad2) := by
  conv => enter [4]; whnf
  conv => enter [5]; whnf
  refine @den_cons _ _ _ _ _ _ _ _ (@den_asg _ _ _ _ _ _ _ _ _ _ (@den_meth _ _ _ _ O _ _ _ _ _ _ _ _ _ _ (@den_nm _ _ _ _ _ _ _ (mm 0 rfl) rfl) (@me_hd_get _ _ _ _ O) kp_hd_get (@FnOk.le _ _ _ _ _ (@ok_hd_get1 _ _ _ _ O) (by decide)) (@den_argC _ _ _ _ _ _ _ _ (@den_nm _ _ _ _ _ _ _ (mm 1 rfl) rfl) (@den_argNil _ _ _ _) rfl) rfl (fun env _ => ⟨_, rfl⟩)) (mm 3 rfl) (by intro env h; first | rfl | (obtain ⟨⟩ := env; cases h; rfl))) ?_
  refine @den_cons _ _ _ _ _ _ _ _ (@den_if _ _ _ _ _ _ _ _ _ _ _ (@den_cmpT _ _ _ _ _ _ _ _ _ _ _ (@den_nm _ _ _ _ _ _ _ (mm 3 rfl) rfl) (@den_none _ _ _ _ _ _) (@fn_is _ _) rfl) ?_ ?_) ?_
  · refine @den_cons _ _ _ _ _ _ _ _ (@den_expr _ _ _ _ _ _ _ (@den_meth _ _ _ _ O _ _ _ _ _ _ _ _ _ _ (@den_at _ _ _ _ _ _ _ _ _ (@den_nm _ _ _ _ _ _ _ (mm 0 rfl) rfl) (@at_headers _ _ _ _ _ O) (fun _ => rfl)) (@meth_append _) Keep.builtin (@fn_app _ _) (@den_argC _ _ _ _ _ _ _ _ (@den_tup _ _ _ _ _ _ _ _ (@den_argC _ _ _ _ _ _ _ _ (@den_methKw _ _ _ _ O _ _ _ _ _ _ _ _ _ _ _ _ _ _ _ (@den_nm _ _ _ _ _ _ _ (mm 0 rfl) rfl) (@me_hd_cst _ _ _ _ O) kp_hd_cst (@FnOk.le _ _ _ _ _ (@ok_hd_cst _ _ _ _ O) (by decide)) (@den_nm _ _ _ _ _ _ _ (mm 1 rfl) rfl) rfl (fun env _ => ⟨_, rfl⟩)) (@den_argC _ _ _ _ _ _ _ _ (@den_methKw _ _ _ _ O _ _ _ _ _ _ _ _ _ _ _ _ _ _ _ (@den_nm _ _ _ _ _ _ _ (mm 0 rfl) rfl) (@me_hd_cst _ _ _ _ O) kp_hd_cst (@FnOk.le _ _ _ _ _ (@ok_hd_cst _ _ _ _ O) (by decide)) (@den_nm _ _ _ _ _ _ _ (mm 2 rfl) rfl) rfl (fun env _ => ⟨_, rfl⟩)) (@den_argNil _ _ _ _) rfl) rfl) (by decide)) (@den_argNil _ _ _ _) rfl) rfl (fun env _ => ⟨_, rfl⟩)) (fun _ => rfl)) ?_
    refine @den_cons _ _ _ _ _ _ _ _ (@den_ret _ _ _ _ _ _ _ (@den_nm _ _ _ _ _ _ _ (mm 2 rfl) rfl)) ?_
    exact @den_nil _ _ _ _
  · refine @den_cons _ _ _ _ _ _ _ _ (@den_ret _ _ _ _ _ _ _ (@den_nm _ _ _ _ _ _ _ (mm 3 rfl) rfl)) ?_
    exact @den_nil _ _ _ _
  exact @den_nil _ _ _ _
theorem shape_hd_setdefault : FnShape (cx2 w h₀ mg mb) 240 (fdIn (cx2 w h₀ mg mb).K 240) (bodyIn (cx2 w h₀ mg mb).K 240) ["self", "name", "value"] hd_setdefault_vars 4 := FnShape.of (by kernel_rfl)
theorem code_hd_setdefault (O : (cx2 w h₀ mg mb).Ok) : CodeOk (cx2 w h₀ mg mb) 6 (fun xs => .call (.ref 240) ⟨xs, []⟩) (hd_setdefault ad2) :=
  code_fn O shape_hd_setdefault (@den_hd_setdefault _ _ _ _ O) (Binds.of3 (mk := fun xs => ⟨xs, []⟩) fun a b c => by kernel_rfl) rfl
theorem ok_hd_setdefault (O : (cx2 w h₀ mg mb).Ok) : FnOk (cx2 w h₀ mg mb) 6 (fun xs => call (.ref 240) xs) (hd_setdefault ad2) := (@code_hd_setdefault _ _ _ _ O).fn
theorem kp_hd_setdefault : Keep (cx2 w h₀ mg mb) (.ref 240) := Keep.K (by kernel_rfl)
theorem me_hd_setdefault (O : (cx2 w h₀ mg mb).Ok) : MethAt (cx2 w h₀ mg mb) "setdefault" (.ref 240) (chkI ad2.HD) := meth_inst O (by kernel_rfl) (by kernel_rfl) (by kernel_rfl) (by show ("setdefault" : Str) ∉ (lay_HD : List Str); decide)
theorem den_hd_addh (O : (cx2 w h₀ mg mb).Ok) : DenSs (cx2 w h₀ mg mb) 4 hd_addh_vars (fdIn (cx2 w h₀ mg mb).K 247).scope (bodyIn (cx2 w h₀ mg mb).K 247) (hd_addh_sh ad2) := by
  conv => enter [4]; whnf
  conv => enter [5]; whnf
  refine @den_cons _ _ _ _ _ _ _ _ (@den_asg _ _ _ _ _ _ _ _ _ _ (@den_mlst _ _ _ _ _ _ _ (@den_argNil _ _ _ _) (by decide)) (mm 4 rfl) (by intro env h; first | rfl | (obtain ⟨⟩ := env; cases h; rfl))) ?_
  refine @den_cons _ _ _ _ _ _ _ _ (@den_if _ _ _ _ _ _ _ _ _ _ _ (@den_cmpT _ _ _ _ _ _ _ _ _ _ _ (@den_nm _ _ _ _ _ _ _ (mm 2 rfl) rfl) (@den_none _ _ _ _ _ _) (@fn_isNot _ _) rfl) ?_ ?_) ?_
  · refine @den_cons _ _ _ _ _ _ _ _ (@den_asg _ _ _ _ _ _ _ _ _ _ (@den_methKw _ _ _ _ O _ _ _ _ _ _ _ _ _ _ _ _ _ _ _ (@den_nm _ _ _ _ _ _ _ (mm 0 rfl) rfl) (@me_hd_cst _ _ _ _ O) kp_hd_cst (@FnOk.le _ _ _ _ _ (@ok_hd_cst _ _ _ _ O) (by decide)) (@den_nm _ _ _ _ _ _ _ (mm 2 rfl) rfl) rfl (fun env _ => ⟨_, rfl⟩)) (mm 2 rfl) (by intro env h; first | rfl | (obtain ⟨⟩ := env; cases h; rfl))) ?_
    refine @den_cons _ _ _ _ _ _ _ _ (@den_expr _ _ _ _ _ _ _ (@den_meth _ _ _ _ O _ _ _ _ _ _ _ _ _ _ (@den_nm _ _ _ _ _ _ _ (mm 4 rfl) rfl) (@meth_append _) Keep.builtin (@fn_app _ _) (@den_argC _ _ _ _ _ _ _ _ (@den_nm _ _ _ _ _ _ _ (mm 2 rfl) rfl) (@den_argNil _ _ _ _) rfl) rfl (fun env _ => ⟨_, rfl⟩)) (fun _ => rfl)) ?_
    exact @den_nil _ _ _ _
  · exact @den_nil _ _ _ _
  refine @den_cons _ _ _ _ _ _ _ _ (@den_items _ _ _ _ _ _ _ _ _ _ _ _ (mm 3 rfl) rfl (by intro env h; first | rfl | (obtain ⟨⟩ := env; cases h; rfl)) rfl (fun _ _ => rfl)) ?_
  refine @den_cons _ _ _ _ _ _ _ _ (@den_expr _ _ _ _ _ _ _ (@den_meth _ _ _ _ O _ _ _ _ _ _ _ _ _ _ (@den_at _ _ _ _ _ _ _ _ _ (@den_nm _ _ _ _ _ _ _ (mm 0 rfl) rfl) (@at_headers _ _ _ _ _ O) (fun _ => rfl)) (@meth_append _) Keep.builtin (@fn_app _ _) (@den_argC _ _ _ _ _ _ _ _ (@den_tup _ _ _ _ _ _ _ _ (@den_argC _ _ _ _ _ _ _ _ (@den_methKw _ _ _ _ O _ _ _ _ _ _ _ _ _ _ _ _ _ _ _ (@den_nm _ _ _ _ _ _ _ (mm 0 rfl) rfl) (@me_hd_cst _ _ _ _ O) kp_hd_cst (@FnOk.le _ _ _ _ _ (@ok_hd_cst _ _ _ _ O) (by decide)) (@den_nm _ _ _ _ _ _ _ (mm 1 rfl) rfl) rfl (fun env _ => ⟨_, rfl⟩)) (@den_argC _ _ _ _ _ _ _ _ (@den_meth _ _ _ _ O _ _ _ _ _ _ _ _ _ _ (@den_str _ _ _ _ _ _ _) (@meth_join _) Keep.builtin (@fn_join _ _) (@den_argC _ _ _ _ _ _ _ _ (@den_nm _ _ _ _ _ _ _ (mm 4 rfl) rfl) (@den_argNil _ _ _ _) rfl) rfl (fun env _ => ⟨_, rfl⟩)) (@den_argNil _ _ _ _) rfl) rfl) (by decide)) (@den_argNil _ _ _ _) rfl) rfl (fun env _ => ⟨_, rfl⟩)) (fun _ => rfl)) ?_
  exact @den_nil _ _ _ _
theorem shape_hd_addh : FnShape (cx2 w h₀ mg mb) 247 (fdIn (cx2 w h₀ mg mb).K 247) (bodyIn (cx2 w h₀ mg mb).K 247) ["self", "_name", "_value", "_params"] hd_addh_vars 7 := FnShape.of (by kernel_rfl)
theorem code_hd_addh (O : (cx2 w h₀ mg mb).Ok) : CodeOk (cx2 w h₀ mg mb) 5 (fun xs => .call (.ref 247) ⟨xs, []⟩) (hd_addh0 ad2) :=
  code_fnX O shape_hd_addh (@den_hd_addh _ _ _ _ O) (Binds.of3x fun a b c => by kernel_rfl) rfl
theorem kp_hd_addh : Keep (cx2 w h₀ mg mb) (.ref 247) := Keep.K (by kernel_rfl)
theorem me_hd_addh (O : (cx2 w h₀ mg mb).Ok) : MethAt (cx2 w h₀ mg mb) "add_header" (.ref 247) (chkI ad2.HD) := meth_inst O (by kernel_rfl) (by kernel_rfl) (by kernel_rfl) (by show ("add_header" : Str) ∉ (lay_HD : List Str); decide)
theorem ok_hd_addh (O : (cx2 w h₀ mg mb).Ok) : FnOk (cx2 w h₀ mg mb) 5 (fun xs => call (.ref 247) xs) (hd_addh ad2) := (CodeOk.trG (@code_hd_addh _ _ _ _ O) (ref_hd_addh ad2 rfl)).fn
theorem den_callsF2 (O : (cx2 w h₀ mg mb).Ok) : DenSs (cx2 w h₀ mg mb) 3 callsF2_vars (fdIn (cx2 w h₀ mg mb).K 259).scope (bodyIn (cx2 w h₀ mg mb).K 259) (callsF2_sh ad2) := by
  conv => enter [4]; whnf
  conv => enter [5]; whnf
  refine @den_cons _ _ _ _ _ _ _ _ (@den_asgLcV _ _ _ _ _ _ _ _ _ _ _ _ _ _ _ _ _ _ _ _ (by decide +kernel) (@den_bin _ _ _ _ _ _ _ _ _ _ _ (@den_slice _ _ _ _ _ _ _ _ _ _ (@den_nm _ _ _ _ _ _ _ (mm 0 rfl) rfl) (@den_int _ _ _ _ _ _ _)) (@den_lst _ _ _ _ _ _ _ (@den_argC _ _ _ _ _ _ _ _ (@den_int _ _ _ _ _ _ _) (@den_argC _ _ _ _ _ _ _ _ (@den_int _ _ _ _ _ _ _) (@den_argC _ _ _ _ _ _ _ _ (@den_int _ _ _ _ _ _ _) (@den_argC _ _ _ _ _ _ _ _ (@den_int _ _ _ _ _ _ _) (@den_argC _ _ _ _ _ _ _ _ (@den_int _ _ _ _ _ _ _) (@den_argC _ _ _ _ _ _ _ _ (@den_int _ _ _ _ _ _ _) (@den_argNil _ _ _ _) rfl) rfl) rfl) rfl) rfl) rfl) (by decide)) (@fn_addF _ _)) (@den_nmAL _ _ _ _ _ _ _ (mm 0 rfl) rfl) (@den_if0 _ _ _ _) (@den_bin _ _ _ _ _ _ _ _ _ _ _ (@den_nm _ _ _ _ _ _ _ (mm 0 rfl) rfl) (@den_int _ _ _ _ _ _ _) (@fn_mod _ _)) (fun _ _ => rfl) (mm 1 rfl) (by intro env h; first | rfl | (obtain ⟨⟩ := env; cases h; rfl))) ?_
  refine @den_cons _ _ _ _ _ _ _ _ (@den_ret _ _ _ _ _ _ _ (@den_lcV _ _ _ _ _ _ _ _ _ _ _ _ _ _ _ _ (by decide +kernel) (@den_nm _ _ _ _ _ _ _ (mm 1 rfl) rfl) (@den_nmAL _ _ _ _ _ _ _ (mm 0 rfl) rfl) (@den_if0 _ _ _ _) (@den_tup _ _ _ _ _ _ _ _ (@den_argC _ _ _ _ _ _ _ _ (@den_bin _ _ _ _ _ _ _ _ _ _ _ (@den_nm _ _ _ _ _ _ _ (mm 0 rfl) rfl) (@den_int _ _ _ _ _ _ _) (@fn_mod _ _)) (@den_argC _ _ _ _ _ _ _ _ (@den_bin _ _ _ _ _ _ _ _ _ _ _ (@den_bin _ _ _ _ _ _ _ _ _ _ _ (@den_nm _ _ _ _ _ _ _ (mm 0 rfl) rfl) (@den_int _ _ _ _ _ _ _) (@fn_div _ _)) (@den_int _ _ _ _ _ _ _) (@fn_mod _ _)) (@den_argC _ _ _ _ _ _ _ _ (@den_bin _ _ _ _ _ _ _ _ _ _ _ (@den_nm _ _ _ _ _ _ _ (mm 0 rfl) rfl) (@den_int _ _ _ _ _ _ _) (@fn_div _ _)) (@den_argNil _ _ _ _) rfl) rfl) rfl) (by decide)) (fun _ _ => rfl))) ?_
  exact @den_nil _ _ _ _
theorem shape_callsF2 : FnShape (cx2 w h₀ mg mb) 259 (fdIn (cx2 w h₀ mg mb).K 259) (bodyIn (cx2 w h₀ mg mb).K 259) ["script"] callsF2_vars 4 := FnShape.of (by kernel_rfl)
theorem code_callsF2 (O : (cx2 w h₀ mg mb).Ok) : CodeOk (cx2 w h₀ mg mb) 4 (fun xs => .call (.ref 259) ⟨xs, []⟩) (callsF2 ad2) :=
  code_fn O shape_callsF2 (@den_callsF2 _ _ _ _ O) (Binds.of1 (mk := fun xs => ⟨xs, []⟩) fun a => by kernel_rfl) rfl
theorem ok_callsF2 (O : (cx2 w h₀ mg mb).Ok) : FnOk (cx2 w h₀ mg mb) 4 (fun xs => call (.ref 259) xs) (callsF2 ad2) := (@code_callsF2 _ _ _ _ O).fn
theorem kp_callsF2 : Keep (cx2 w h₀ mg mb) (.ref 259) := Keep.K (by kernel_rfl)
theorem g_law_calls : nsIn (cx2 w h₀ mg mb).K mainGlobals "_law_calls" = some (some (.ref 259)) := by kernel_rfl
theorem den_threeF2 (O : (cx2 w h₀ mg mb).Ok) : DenSs (cx2 w h₀ mg mb) 5 threeF2_vars (fdIn (cx2 w h₀ mg mb).K 266).scope (bodyIn (cx2 w h₀ mg mb).K 266) (threeF2_sh ad2) := by
  conv => enter [4]; whnf
  conv => enter [5]; whnf
  refine @den_cons _ _ _ _ _ _ _ _ (@den_ret _ _ _ _ _ _ _ (@den_call _ _ _ _ O _ _ _ _ _ _ _ (@den_bi _ _ _ _ O _ _ _ rfl nb_str bb_str nn_str rfl) Keep.type (@fn_str _ _) (@den_argC _ _ _ _ _ _ _ _ (@den_lst _ _ _ _ _ _ _ (@den_argC _ _ _ _ _ _ _ _ (@den_meth _ _ _ _ O _ _ _ _ _ _ _ _ _ _ (@den_nm _ _ _ _ _ _ _ (mm 0 rfl) rfl) (@me_ws_less _ _ _ _ O) kp_ws_less (@FnOk.le _ _ _ _ _ (@ok_ws_less _ _ _ _ O) (by decide)) (@den_argC _ _ _ _ _ _ _ _ (@den_nm _ _ _ _ _ _ _ (mm 1 rfl) rfl) (@den_argNil _ _ _ _) rfl) rfl (fun env _ => ⟨_, rfl⟩)) (@den_argC _ _ _ _ _ _ _ _ (@den_meth _ _ _ _ O _ _ _ _ _ _ _ _ _ _ (@den_nm _ _ _ _ _ _ _ (mm 1 rfl) rfl) (@me_ws_less _ _ _ _ O) kp_ws_less (@FnOk.le _ _ _ _ _ (@ok_ws_less _ _ _ _ O) (by decide)) (@den_argC _ _ _ _ _ _ _ _ (@den_nm _ _ _ _ _ _ _ (mm 0 rfl) rfl) (@den_argNil _ _ _ _) rfl) rfl (fun env _ => ⟨_, rfl⟩)) (@den_argC _ _ _ _ _ _ _ _ (@den_meth _ _ _ _ O _ _ _ _ _ _ _ _ _ _ (@den_nm _ _ _ _ _ _ _ (mm 0 rfl) rfl) (@me_ws_equal _ _ _ _ O) kp_ws_equal (@FnOk.le _ _ _ _ _ (@ok_ws_equal _ _ _ _ O) (by decide)) (@den_argC _ _ _ _ _ _ _ _ (@den_nm _ _ _ _ _ _ _ (mm 1 rfl) rfl) (@den_argNil _ _ _ _) rfl) rfl (fun env _ => ⟨_, rfl⟩)) (@den_argNil _ _ _ _) rfl) rfl) rfl) (by decide)) (@den_argNil _ _ _ _) rfl) rfl)) ?_
  exact @den_nil _ _ _ _
theorem shape_threeF2 : FnShape (cx2 w h₀ mg mb) 266 (fdIn (cx2 w h₀ mg mb).K 266) (bodyIn (cx2 w h₀ mg mb).K 266) ["one", "other"] threeF2_vars 2 := FnShape.of (by kernel_rfl)
theorem code_threeF2 (O : (cx2 w h₀ mg mb).Ok) : CodeOk (cx2 w h₀ mg mb) 6 (fun xs => .call (.ref 266) ⟨xs, []⟩) (threeF2 ad2) :=
  code_fn O shape_threeF2 (@den_threeF2 _ _ _ _ O) (Binds.of2 (mk := fun xs => ⟨xs, []⟩) fun a b => by kernel_rfl) rfl
theorem ok_threeF2 (O : (cx2 w h₀ mg mb).Ok) : FnOk (cx2 w h₀ mg mb) 6 (fun xs => call (.ref 266) xs) (threeF2 ad2) := (@code_threeF2 _ _ _ _ O).fn
theorem kp_threeF2 : Keep (cx2 w h₀ mg mb) (.ref 266) := Keep.K (by kernel_rfl)
theorem g_law_three : nsIn (cx2 w h₀ mg mb).K mainGlobals "_law_three" = some (some (.ref 266)) := by kernel_rfl
theorem den_columnsF2 (O : (cx2 w h₀ mg mb).Ok) : DenSs (cx2 w h₀ mg mb) 3 columnsF2_vars (fdIn (cx2 w h₀ mg mb).K 278).scope (bodyIn (cx2 w h₀ mg mb).K 278) (columnsF2_sh ad2) := by
  conv => enter [4]; whnf
  conv => enter [5]; whnf
  refine @den_cons _ _ _ _ _ _ _ _ (@den_asg _ _ _ _ _ _ _ _ _ _ (@den_mlst _ _ _ _ _ _ _ (@den_argNil _ _ _ _) (by decide)) (mm 1 rfl) (by intro env h; first | rfl | (obtain ⟨⟩ := env; cases h; rfl))) ?_
  refine @den_cons _ _ _ _ _ _ _ _ (@den_for _ _ _ _ _ _ _ _ _ _ _ (@den_call _ _ _ _ O _ _ _ _ _ _ _ (@den_bi _ _ _ _ O _ _ _ rfl nb_range bb_range nn_range rfl) Keep.type (@fn_rng _ _) (@den_argC _ _ _ _ _ _ _ _ (@den_int _ _ _ _ _ _ _) (@den_argC _ _ _ _ _ _ _ _ (@den_int _ _ _ _ _ _ _) (@den_argNil _ _ _ _) rfl) rfl) rfl) (@den_nmA _ _ _ _ _ _ _ (mm 2 rfl)) ?_ (fun _ _ => rfl)) ?_
  · refine @den_cons _ _ _ _ _ _ _ _ (@den_asg _ _ _ _ _ _ _ _ _ _ (@den_int _ _ _ _ _ _ _) (mm 3 rfl) (by intro env h; first | rfl | (obtain ⟨⟩ := env; cases h; rfl))) ?_
    refine @den_cons _ _ _ _ _ _ _ _ (@den_for _ _ _ _ _ _ _ _ _ _ _ (@den_call _ _ _ _ O _ _ _ _ _ _ _ (@den_bi _ _ _ _ O _ _ _ rfl nb_range bb_range nn_range rfl) Keep.type (@fn_rng _ _) (@den_argC _ _ _ _ _ _ _ _ (@den_int _ _ _ _ _ _ _) (@den_argNil _ _ _ _) rfl) rfl) (@den_nmA _ _ _ _ _ _ _ (mm 4 rfl)) ?_ (fun _ _ => rfl)) ?_
    · refine @den_cons _ _ _ _ _ _ _ _ (@den_for _ _ _ _ _ _ _ _ _ _ _ (@den_call _ _ _ _ O _ _ _ _ _ _ _ (@den_bi _ _ _ _ O _ _ _ rfl nb_range bb_range nn_range rfl) Keep.type (@fn_rng _ _) (@den_argC _ _ _ _ _ _ _ _ (@den_idx _ _ _ _ _ _ _ _ _ (@den_nm _ _ _ _ _ _ _ (mm 0 rfl) rfl) (@den_nm _ _ _ _ _ _ _ (mm 4 rfl) rfl) (fun _ _ => rfl)) (@den_argNil _ _ _ _) rfl) rfl) (@den_nmA _ _ _ _ _ _ _ (mm 5 rfl)) ?_ (fun _ _ => rfl)) ?_
      · refine @den_cons _ _ _ _ _ _ _ _ (@den_asg _ _ _ _ _ _ _ _ _ _ (@den_bin _ _ _ _ _ _ _ _ _ _ _ (@den_nm _ _ _ _ _ _ _ (mm 3 rfl) rfl) (@den_nm _ _ _ _ _ _ _ (mm 4 rfl) rfl) (@fn_addF _ _)) (mm 3 rfl) (by intro env h; first | rfl | (obtain ⟨⟩ := env; cases h; rfl))) ?_
        refine @den_cons _ _ _ _ _ _ _ _ (@den_asg _ _ _ _ _ _ _ _ _ _ (@den_bin _ _ _ _ _ _ _ _ _ _ _ (@den_bin _ _ _ _ _ _ _ _ _ _ _ (@den_nm _ _ _ _ _ _ _ (mm 3 rfl) rfl) (@den_nm _ _ _ _ _ _ _ (mm 2 rfl) rfl) (@fn_addF _ _)) (@den_bin _ _ _ _ _ _ _ _ _ _ _ (@den_nm _ _ _ _ _ _ _ (mm 3 rfl) rfl) (@den_nm _ _ _ _ _ _ _ (mm 2 rfl) rfl) (@fn_mod _ _)) (@fn_sub _ _)) (mm 3 rfl) (by intro env h; first | rfl | (obtain ⟨⟩ := env; cases h; rfl))) ?_
        exact @den_nil _ _ _ _
      exact @den_nil _ _ _ _
    refine @den_cons _ _ _ _ _ _ _ _ (@den_expr _ _ _ _ _ _ _ (@den_meth _ _ _ _ O _ _ _ _ _ _ _ _ _ _ (@den_nm _ _ _ _ _ _ _ (mm 1 rfl) rfl) (@meth_append _) Keep.builtin (@fn_app _ _) (@den_argC _ _ _ _ _ _ _ _ (@den_nm _ _ _ _ _ _ _ (mm 3 rfl) rfl) (@den_argNil _ _ _ _) rfl) rfl (fun env _ => ⟨_, rfl⟩)) (fun _ => rfl)) ?_
    exact @den_nil _ _ _ _
  refine @den_cons _ _ _ _ _ _ _ _ (@den_ret _ _ _ _ _ _ _ (@den_nm _ _ _ _ _ _ _ (mm 1 rfl) rfl)) ?_
  exact @den_nil _ _ _ _
theorem shape_columnsF2 : FnShape (cx2 w h₀ mg mb) 278 (fdIn (cx2 w h₀ mg mb).K 278) (bodyIn (cx2 w h₀ mg mb).K 278) ["counts"] columnsF2_vars 6 := FnShape.of (by kernel_rfl)
theorem code_columnsF2 (O : (cx2 w h₀ mg mb).Ok) : CodeOk (cx2 w h₀ mg mb) 4 (fun xs => .call (.ref 278) ⟨xs, []⟩) (columnsF20 ad2) :=
  code_fn O shape_columnsF2 (@den_columnsF2 _ _ _ _ O) (Binds.of1 (mk := fun xs => ⟨xs, []⟩) fun a => by kernel_rfl) rfl
theorem kp_columnsF2 : Keep (cx2 w h₀ mg mb) (.ref 278) := Keep.K (by kernel_rfl)
theorem g_law_columns : nsIn (cx2 w h₀ mg mb).K mainGlobals "_law_columns" = some (some (.ref 278)) := by kernel_rfl
theorem ok_columnsF2 (O : (cx2 w h₀ mg mb).Ok) : FnOk (cx2 w h₀ mg mb) 4 (fun xs => call (.ref 278) xs) (columnsF2 ad2) := (CodeOk.trG (@code_columnsF2 _ _ _ _ O) (ref_columnsF2 ad2)).fn
theorem den_toldF2 (O : (cx2 w h₀ mg mb).Ok) : DenSs (cx2 w h₀ mg mb) 6 toldF2_vars (fdIn (cx2 w h₀ mg mb).K 271).scope (bodyIn (cx2 w h₀ mg mb).K 271) (toldF2_sh ad2) := by
  conv => enter [4]; whnf
  conv => enter [5]; whnf
  refine @den_cons _ _ _ _ _ _ _ _ (@den_asg _ _ _ _ _ _ _ _ _ _ (@den_lst _ _ _ _ _ _ _ (@den_argC _ _ _ _ _ _ _ _ (@den_call _ _ _ _ O _ _ _ _ _ _ _ (@den_gl _ _ _ _ O _ _ _ rfl g_Headers rfl) kp_Headers (@FnOk.le _ _ _ _ _ (@ok_Headers _ _ _ _ O) (by decide)) (@den_argNil _ _ _ _) rfl) (@den_argC _ _ _ _ _ _ _ _ (@den_call _ _ _ _ O _ _ _ _ _ _ _ (@den_gl _ _ _ _ O _ _ _ rfl g_Headers rfl) kp_Headers (@FnOk.le _ _ _ _ _ (@ok_Headers _ _ _ _ O) (by decide)) (@den_argNil _ _ _ _) rfl) (@den_argNil _ _ _ _) rfl) rfl) (by decide)) (mm 1 rfl) (by intro env h; first | rfl | (obtain ⟨⟩ := env; cases h; rfl))) ?_
  refine @den_cons _ _ _ _ _ _ _ _ (@den_asg _ _ _ _ _ _ _ _ _ _ (@den_mlst _ _ _ _ _ _ _ (@den_argC _ _ _ _ _ _ _ _ (@den_call _ _ _ _ O _ _ _ _ _ _ _ (@den_gl _ _ _ _ O _ _ _ rfl g_Whitespace rfl) kp_Whitespace (@FnOk.le _ _ _ _ _ (@ok_Whitespace _ _ _ _ O) (by decide)) (@den_argC _ _ _ _ _ _ _ _ (@den_str _ _ _ _ _ _ _) (@den_argNil _ _ _ _) rfl) rfl) (@den_argC _ _ _ _ _ _ _ _ (@den_call _ _ _ _ O _ _ _ _ _ _ _ (@den_gl _ _ _ _ O _ _ _ rfl g_Whitespace rfl) kp_Whitespace (@FnOk.le _ _ _ _ _ (@ok_Whitespace _ _ _ _ O) (by decide)) (@den_argC _ _ _ _ _ _ _ _ (@den_str _ _ _ _ _ _ _) (@den_argNil _ _ _ _) rfl) rfl) (@den_argNil _ _ _ _) rfl) rfl) (by decide)) (mm 2 rfl) (by intro env h; first | rfl | (obtain ⟨⟩ := env; cases h; rfl))) ?_
  refine @den_cons _ _ _ _ _ _ _ _ (@den_asg _ _ _ _ _ _ _ _ _ _ (@den_mlst _ _ _ _ _ _ _ (@den_argNil _ _ _ _) (by decide)) (mm 3 rfl) (by intro env h; first | rfl | (obtain ⟨⟩ := env; cases h; rfl))) ?_
  refine @den_cons _ _ _ _ _ _ _ _ (@den_for _ _ _ _ _ _ _ _ _ _ _ (@den_nm _ _ _ _ _ _ _ (mm 0 rfl) rfl) (@den_tupT _ _ _ _ _ _ _ _ _ (@den_asCons _ _ _ _ _ _ _ _ _ (fun _ _ h => h) (@den_nmA _ _ _ _ _ _ _ (mm 4 rfl)) (@den_asCons _ _ _ _ _ _ _ _ _ (fun _ _ h => h) (@den_nmA _ _ _ _ _ _ _ (mm 5 rfl)) (@den_asCons _ _ _ _ _ _ _ _ _ (fun _ _ h => h) (@den_nmA _ _ _ _ _ _ _ (mm 6 rfl)) (@den_asNil _ _ _ _ _) rfl) rfl) rfl) rfl rfl) ?_ (fun _ _ => rfl)) ?_
  · refine @den_cons _ _ _ _ _ _ _ _ (@den_asg _ _ _ _ _ _ _ _ _ _ (@den_idx _ _ _ _ _ _ _ _ _ (@den_nm _ _ _ _ _ _ _ (mm 1 rfl) rfl) (@den_nm _ _ _ _ _ _ _ (mm 4 rfl) rfl) (fun _ _ => rfl)) (mm 7 rfl) (by intro env h; first | rfl | (obtain ⟨⟩ := env; cases h; rfl))) ?_
    refine @den_cons _ _ _ _ _ _ _ _ (@den_asg _ _ _ _ _ _ _ _ _ _ (@den_bin _ _ _ _ _ _ _ _ _ _ _ (@den_str _ _ _ _ _ _ _) (@den_nm _ _ _ _ _ _ _ (mm 6 rfl) rfl) (@fn_mulF _ _)) (mm 8 rfl) (by intro env h; first | rfl | (obtain ⟨⟩ := env; cases h; rfl))) ?_
    refine @den_cons _ _ _ _ _ _ _ _ (@den_if _ _ _ _ _ _ _ _ _ _ _ (@den_cmpT _ _ _ _ _ _ _ _ _ _ _ (@den_nm _ _ _ _ _ _ _ (mm 5 rfl) rfl) (@den_int _ _ _ _ _ _ _) (@fn_eq _ _) rfl) ?_ ?_) ?_
    · refine @den_cons _ _ _ _ _ _ _ _ (@den_expr _ _ _ _ _ _ _ (@den_meth _ _ _ _ O _ _ _ _ _ _ _ _ _ _ (@den_nm _ _ _ _ _ _ _ (mm 7 rfl) rfl) (@me_hd_addh _ _ _ _ O) kp_hd_addh (@FnOk.le _ _ _ _ _ (@ok_hd_addh _ _ _ _ O) (by decide)) (@den_argC _ _ _ _ _ _ _ _ (@den_nm _ _ _ _ _ _ _ (mm 8 rfl) rfl) (@den_argC _ _ _ _ _ _ _ _ (@den_none _ _ _ _ _ _) (@den_argNil _ _ _ _) rfl) rfl) rfl (fun env _ => ⟨_, rfl⟩)) (fun _ => rfl)) ?_
      exact @den_nil _ _ _ _
    · exact @den_nil _ _ _ _
    refine @den_cons _ _ _ _ _ _ _ _ (@den_if _ _ _ _ _ _ _ _ _ _ _ (@den_cmpT _ _ _ _ _ _ _ _ _ _ _ (@den_nm _ _ _ _ _ _ _ (mm 5 rfl) rfl) (@den_int _ _ _ _ _ _ _) (@fn_eq _ _) rfl) ?_ ?_) ?_
    · refine @den_cons _ _ _ _ _ _ _ _ (@den_asgT _ _ _ _ _ _ _ _ _ (@den_str _ _ _ _ _ _ _) (@den_setM _ _ _ _ O _ _ _ _ _ _ _ _ (@den_nm _ _ _ _ _ _ _ (mm 7 rfl) rfl) (@den_nm _ _ _ _ _ _ _ (mm 8 rfl) rfl) hd_noSeq hd_fset hd_fsetf (@FnOk.le _ _ _ _ _ (@ok_hd_setitem _ _ _ _ O) (by decide))) rfl (by intro env h; first | rfl | (obtain ⟨⟩ := env; cases h; rfl)) (by intro env h; first | rfl | (obtain ⟨⟩ := env; cases h; rfl))) ?_
      exact @den_nil _ _ _ _
    · exact @den_nil _ _ _ _
    refine @den_cons _ _ _ _ _ _ _ _ (@den_if _ _ _ _ _ _ _ _ _ _ _ (@den_cmpT _ _ _ _ _ _ _ _ _ _ _ (@den_nm _ _ _ _ _ _ _ (mm 5 rfl) rfl) (@den_int _ _ _ _ _ _ _) (@fn_eq _ _) rfl) ?_ ?_) ?_
    · refine @den_cons _ _ _ _ _ _ _ _ (@den_expr _ _ _ _ _ _ _ (@den_meth _ _ _ _ O _ _ _ _ _ _ _ _ _ _ (@den_nm _ _ _ _ _ _ _ (mm 7 rfl) rfl) (@me_hd_setdefault _ _ _ _ O) kp_hd_setdefault (@FnOk.le _ _ _ _ _ (@ok_hd_setdefault _ _ _ _ O) (by decide)) (@den_argC _ _ _ _ _ _ _ _ (@den_nm _ _ _ _ _ _ _ (mm 8 rfl) rfl) (@den_argC _ _ _ _ _ _ _ _ (@den_str _ _ _ _ _ _ _) (@den_argNil _ _ _ _) rfl) rfl) rfl (fun env _ => ⟨_, rfl⟩)) (fun _ => rfl)) ?_
      exact @den_nil _ _ _ _
    · exact @den_nil _ _ _ _
    refine @den_cons _ _ _ _ _ _ _ _ (@den_if _ _ _ _ _ _ _ _ _ _ _ (@den_cmpT _ _ _ _ _ _ _ _ _ _ _ (@den_nm _ _ _ _ _ _ _ (mm 5 rfl) rfl) (@den_int _ _ _ _ _ _ _) (@fn_eq _ _) rfl) ?_ ?_) ?_
    · refine @den_cons _ _ _ _ _ _ _ _ (@den_del _ _ _ _ O _ _ _ _ _ _ _ _ _ (@den_nm _ _ _ _ _ _ _ (mm 7 rfl) rfl) (@den_nm _ _ _ _ _ _ _ (mm 8 rfl) rfl) hd_noSeq hd_fdel hd_fdelf (@FnOk.le _ _ _ _ _ (@ok_hd_delitem _ _ _ _ O) (by decide))) ?_
      exact @den_nil _ _ _ _
    · exact @den_nil _ _ _ _
    refine @den_cons _ _ _ _ _ _ _ _ (@den_swap _ _ _ _ _ _ _ _ _ _ _ ["before", "other"] (@den_tup _ _ _ _ _ _ _ _ (@den_argC _ _ _ _ _ _ _ _ (@den_idx _ _ _ _ _ _ _ _ _ (@den_nm _ _ _ _ _ _ _ (mm 2 rfl) rfl) (@den_nm _ _ _ _ _ _ _ (mm 4 rfl) rfl) (fun _ _ => rfl)) (@den_argC _ _ _ _ _ _ _ _ (@den_idx _ _ _ _ _ _ _ _ _ (@den_nm _ _ _ _ _ _ _ (mm 2 rfl) rfl) (@den_bin _ _ _ _ _ _ _ _ _ _ _ (@den_int _ _ _ _ _ _ _) (@den_nm _ _ _ _ _ _ _ (mm 4 rfl) rfl) (@fn_sub _ _)) (fun _ _ => rfl)) (@den_argNil _ _ _ _) rfl) rfl) (by decide)) (by decide) rfl (by intro env h; first | rfl | (obtain ⟨⟩ := env; cases h; rfl)) (by intro env h; first | rfl | (obtain ⟨⟩ := env; cases h; rfl))) ?_
    refine @den_cons _ _ _ _ _ _ _ _ (@den_asg _ _ _ _ _ _ _ _ _ _ (@den_call _ _ _ _ O _ _ _ _ _ _ _ (@den_gl _ _ _ _ O _ _ _ rfl g_Whitespace rfl) kp_Whitespace (@FnOk.le _ _ _ _ _ (@ok_Whitespace _ _ _ _ O) (by decide)) (@den_argC _ _ _ _ _ _ _ _ (@den_meth _ _ _ _ O _ _ _ _ _ _ _ _ _ _ (@den_str _ _ _ _ _ _ _) (@meth_join _) Keep.builtin (@fn_join _ _) (@den_argC _ _ _ _ _ _ _ _ (@den_lcV _ _ _ _ _ _ _ _ _ _ _ _ _ _ _ _ (by decide +kernel) (@den_meth _ _ _ _ O _ _ _ _ _ _ _ _ _ _ (@den_nm _ _ _ _ _ _ _ (mm 7 rfl) rfl) (@me_hd_keys _ _ _ _ O) kp_hd_keys (@FnOk.le _ _ _ _ _ (@ok_hd_keys _ _ _ _ O) (by decide)) (@den_argNil _ _ _ _) rfl (fun env _ => ⟨_, rfl⟩)) (@den_nmAL _ _ _ _ _ _ _ (mm 0 rfl) rfl) (@den_if0 _ _ _ _) (@den_bin _ _ _ _ _ _ _ _ _ _ _ (@den_nm _ _ _ _ _ _ _ (mm 0 rfl) rfl) (@den_str _ _ _ _ _ _ _) (@fn_addF _ _)) (fun _ _ => rfl)) (@den_argNil _ _ _ _) rfl) rfl (fun env _ => ⟨_, rfl⟩)) (@den_argNil _ _ _ _) rfl) rfl) (mm 11 rfl) (by intro env h; first | rfl | (obtain ⟨⟩ := env; cases h; rfl))) ?_
    refine @den_cons _ _ _ _ _ _ _ _ (@den_asgT _ _ _ _ _ _ _ _ _ (@den_nm _ _ _ _ _ _ _ (mm 11 rfl) rfl) (@den_subA _ _ _ _ _ _ _ _ _ (@den_nm _ _ _ _ _ _ _ (mm 2 rfl) rfl) (@den_nm _ _ _ _ _ _ _ (mm 4 rfl) rfl)) rfl (by intro env h; first | rfl | (obtain ⟨⟩ := env; cases h; rfl)) (by intro env h; first | rfl | (obtain ⟨⟩ := env; cases h; rfl))) ?_
    refine @den_cons _ _ _ _ _ _ _ _ (@den_asgLcV _ _ _ _ _ _ _ _ _ _ _ _ _ _ _ _ _ _ _ _ (by decide +kernel) (@den_call _ _ _ _ O _ _ _ _ _ _ _ (@den_bi _ _ _ _ O _ _ _ rfl nb_range bb_range nn_range rfl) Keep.type (@fn_rng _ _) (@den_argC _ _ _ _ _ _ _ _ (@den_int _ _ _ _ _ _ _) (@den_argC _ _ _ _ _ _ _ _ (@den_int _ _ _ _ _ _ _) (@den_argNil _ _ _ _) rfl) rfl) rfl) (@den_nmAL _ _ _ _ _ _ _ (mm 0 rfl) rfl) (@den_if0 _ _ _ _) (@den_meth _ _ _ _ O _ _ _ _ _ _ _ _ _ _ (@den_nm _ _ _ _ _ _ _ (mm 1 rfl) rfl) (@me_ws_level _ _ _ _ O) kp_ws_level (@FnOk.le _ _ _ _ _ (@ok_ws_level _ _ _ _ O) (by decide)) (@den_argC _ _ _ _ _ _ _ _ (@den_nm _ _ _ _ _ _ _ (mm 0 rfl) rfl) (@den_argNil _ _ _ _) rfl) rfl (fun env _ => ⟨_, rfl⟩)) (fun _ _ => rfl) (mm 12 rfl) (by intro env h; first | rfl | (obtain ⟨⟩ := env; cases h; rfl))) ?_
    refine @den_cons _ _ _ _ _ _ _ _ (@den_asg _ _ _ _ _ _ _ _ _ _ (@den_tup _ _ _ _ _ _ _ _ (@den_argC _ _ _ _ _ _ _ _ (@den_at _ _ _ _ _ _ _ _ _ (@den_nm _ _ _ _ _ _ _ (mm 11 rfl) rfl) (@at_n _ _ _ _ _ O) (fun _ => rfl)) (@den_argC _ _ _ _ _ _ _ _ (@den_at _ _ _ _ _ _ _ _ _ (@den_nm _ _ _ _ _ _ _ (mm 11 rfl) rfl) (@at_nt _ _ _ _ _ O) (fun _ => rfl)) (@den_argC _ _ _ _ _ _ _ _ (@den_at _ _ _ _ _ _ _ _ _ (@den_nm _ _ _ _ _ _ _ (mm 11 rfl) rfl) (@at_norm _ _ _ _ _ O) (fun _ => rfl)) (@den_argC _ _ _ _ _ _ _ _ (@den_call _ _ _ _ O _ _ _ _ _ _ _ (@den_bi _ _ _ _ O _ _ _ rfl nb_str bb_str nn_str rfl) Keep.type (@fn_str _ _) (@den_argC _ _ _ _ _ _ _ _ (@den_at _ _ _ _ _ _ _ _ _ (@den_nm _ _ _ _ _ _ _ (mm 11 rfl) rfl) (@at_is_simple _ _ _ _ _ O) (fun _ => rfl)) (@den_argNil _ _ _ _) rfl) rfl) (@den_argC _ _ _ _ _ _ _ _ (@den_nm _ _ _ _ _ _ _ (mm 12 rfl) rfl) (@den_argNil _ _ _ _) rfl) rfl) rfl) rfl) rfl) (by decide)) (mm 13 rfl) (by intro env h; first | rfl | (obtain ⟨⟩ := env; cases h; rfl))) ?_
    refine @den_cons _ _ _ _ _ _ _ _ (@den_expr _ _ _ _ _ _ _ (@den_meth _ _ _ _ O _ _ _ _ _ _ _ _ _ _ (@den_nm _ _ _ _ _ _ _ (mm 3 rfl) rfl) (@meth_append _) Keep.builtin (@fn_app _ _) (@den_argC _ _ _ _ _ _ _ _ (@den_tup _ _ _ _ _ _ _ _ (@den_argC _ _ _ _ _ _ _ _ (@den_nm _ _ _ _ _ _ _ (mm 13 rfl) rfl) (@den_argC _ _ _ _ _ _ _ _ (@den_call _ _ _ _ O _ _ _ _ _ _ _ (@den_gl _ _ _ _ O _ _ _ rfl g_law_three rfl) kp_threeF2 (@FnOk.le _ _ _ _ _ (@ok_threeF2 _ _ _ _ O) (by decide)) (@den_argC _ _ _ _ _ _ _ _ (@den_nm _ _ _ _ _ _ _ (mm 9 rfl) rfl) (@den_argC _ _ _ _ _ _ _ _ (@den_nm _ _ _ _ _ _ _ (mm 11 rfl) rfl) (@den_argNil _ _ _ _) rfl) rfl) rfl) (@den_argC _ _ _ _ _ _ _ _ (@den_call _ _ _ _ O _ _ _ _ _ _ _ (@den_gl _ _ _ _ O _ _ _ rfl g_law_three rfl) kp_threeF2 (@FnOk.le _ _ _ _ _ (@ok_threeF2 _ _ _ _ O) (by decide)) (@den_argC _ _ _ _ _ _ _ _ (@den_nm _ _ _ _ _ _ _ (mm 11 rfl) rfl) (@den_argC _ _ _ _ _ _ _ _ (@den_nm _ _ _ _ _ _ _ (mm 10 rfl) rfl) (@den_argNil _ _ _ _) rfl) rfl) rfl) (@den_argNil _ _ _ _) rfl) rfl) rfl) (by decide)) (@den_argNil _ _ _ _) rfl) rfl (fun env _ => ⟨_, rfl⟩)) (fun _ => rfl)) ?_
    exact @den_nil _ _ _ _
  refine @den_cons _ _ _ _ _ _ _ _ (@den_ret _ _ _ _ _ _ _ (@den_nm _ _ _ _ _ _ _ (mm 3 rfl) rfl)) ?_
  exact @den_nil _ _ _ _
theorem shape_toldF2 : FnShape (cx2 w h₀ mg mb) 271 (fdIn (cx2 w h₀ mg mb).K 271) (bodyIn (cx2 w h₀ mg mb).K 271) ["calls"] toldF2_vars 16 := FnShape.of (by kernel_rfl)
theorem code_toldF2 (O : (cx2 w h₀ mg mb).Ok) : CodeOk (cx2 w h₀ mg mb) 7 (fun xs => .call (.ref 271) ⟨xs, []⟩) (toldF2 ad2) :=
  (code_fn O shape_toldF2 (@den_toldF2 _ _ _ _ O) (Binds.of1 (mk := fun xs => ⟨xs, []⟩) fun a => by kernel_rfl) rfl).tr
theorem ok_toldF2 (O : (cx2 w h₀ mg mb).Ok) : FnOk (cx2 w h₀ mg mb) 7 (fun xs => call (.ref 271) xs) (toldF2 ad2) := (@code_toldF2 _ _ _ _ O).fn
theorem kp_toldF2 : Keep (cx2 w h₀ mg mb) (.ref 271) := Keep.K (by kernel_rfl)
theorem g_law_told : nsIn (cx2 w h₀ mg mb).K mainGlobals "_law_told" = some (some (.ref 271)) := by kernel_rfl
theorem den_dueF2 (O : (cx2 w h₀ mg mb).Ok) : DenSs (cx2 w h₀ mg mb) 4 dueF2_vars (fdIn (cx2 w h₀ mg mb).K 283).scope (bodyIn (cx2 w h₀ mg mb).K 283) (dueF2_sh ad2) := by
  conv => enter [4]; whnf
  conv => enter [5]; whnf
  refine @den_cons _ _ _ _ _ _ _ _ (@den_asg _ _ _ _ _ _ _ _ _ _ (@den_lst _ _ _ _ _ _ _ (@den_argC _ _ _ _ _ _ _ _ (@den_mlst _ _ _ _ _ _ _ (@den_argC _ _ _ _ _ _ _ _ (@den_int _ _ _ _ _ _ _) (@den_argC _ _ _ _ _ _ _ _ (@den_int _ _ _ _ _ _ _) (@den_argC _ _ _ _ _ _ _ _ (@den_int _ _ _ _ _ _ _) (@den_argC _ _ _ _ _ _ _ _ (@den_int _ _ _ _ _ _ _) (@den_argNil _ _ _ _) rfl) rfl) rfl) rfl) (by decide)) (@den_argC _ _ _ _ _ _ _ _ (@den_mlst _ _ _ _ _ _ _ (@den_argC _ _ _ _ _ _ _ _ (@den_int _ _ _ _ _ _ _) (@den_argC _ _ _ _ _ _ _ _ (@den_int _ _ _ _ _ _ _) (@den_argC _ _ _ _ _ _ _ _ (@den_int _ _ _ _ _ _ _) (@den_argC _ _ _ _ _ _ _ _ (@den_int _ _ _ _ _ _ _) (@den_argNil _ _ _ _) rfl) rfl) rfl) rfl) (by decide)) (@den_argNil _ _ _ _) rfl) rfl) (by decide)) (mm 1 rfl) (by intro env h; first | rfl | (obtain ⟨⟩ := env; cases h; rfl))) ?_
  refine @den_cons _ _ _ _ _ _ _ _ (@den_asg _ _ _ _ _ _ _ _ _ _ (@den_mlst _ _ _ _ _ _ _ (@den_argNil _ _ _ _) (by decide)) (mm 2 rfl) (by intro env h; first | rfl | (obtain ⟨⟩ := env; cases h; rfl))) ?_
  refine @den_cons _ _ _ _ _ _ _ _ (@den_for _ _ _ _ _ _ _ _ _ _ _ (@den_nm _ _ _ _ _ _ _ (mm 0 rfl) rfl) (@den_tupT _ _ _ _ _ _ _ _ _ (@den_asCons _ _ _ _ _ _ _ _ _ (fun _ _ h => h) (@den_nmA _ _ _ _ _ _ _ (mm 3 rfl)) (@den_asCons _ _ _ _ _ _ _ _ _ (fun _ _ h => h) (@den_nmA _ _ _ _ _ _ _ (mm 4 rfl)) (@den_asCons _ _ _ _ _ _ _ _ _ (fun _ _ h => h) (@den_nmA _ _ _ _ _ _ _ (mm 5 rfl)) (@den_asNil _ _ _ _ _) rfl) rfl) rfl) rfl rfl) ?_ (fun _ _ => rfl)) ?_
  · refine @den_cons _ _ _ _ _ _ _ _ (@den_asg _ _ _ _ _ _ _ _ _ _ (@den_idx _ _ _ _ _ _ _ _ _ (@den_nm _ _ _ _ _ _ _ (mm 1 rfl) rfl) (@den_nm _ _ _ _ _ _ _ (mm 3 rfl) rfl) (fun _ _ => rfl)) (mm 6 rfl) (by intro env h; first | rfl | (obtain ⟨⟩ := env; cases h; rfl))) ?_
    refine @den_cons _ _ _ _ _ _ _ _ (@den_asg _ _ _ _ _ _ _ _ _ _ (@den_idx _ _ _ _ _ _ _ _ _ (@den_nm _ _ _ _ _ _ _ (mm 6 rfl) rfl) (@den_nm _ _ _ _ _ _ _ (mm 5 rfl) rfl) (fun _ _ => rfl)) (mm 7 rfl) (by intro env h; first | rfl | (obtain ⟨⟩ := env; cases h; rfl))) ?_
    refine @den_cons _ _ _ _ _ _ _ _ (@den_asg _ _ _ _ _ _ _ _ _ _ (@den_idx _ _ _ _ _ _ _ _ _ (@den_lst _ _ _ _ _ _ _ (@den_argC _ _ _ _ _ _ _ _ (@den_bin _ _ _ _ _ _ _ _ _ _ _ (@den_nm _ _ _ _ _ _ _ (mm 7 rfl) rfl) (@den_int _ _ _ _ _ _ _) (@fn_addF _ _)) (@den_argC _ _ _ _ _ _ _ _ (@den_int _ _ _ _ _ _ _) (@den_argC _ _ _ _ _ _ _ _ (@den_call _ _ _ _ O _ _ _ _ _ _ _ (@den_bi _ _ _ _ O _ _ _ rfl nb_max bb_max nn_max rfl) Keep.builtin (@fn_max _ _) (@den_argC _ _ _ _ _ _ _ _ (@den_nm _ _ _ _ _ _ _ (mm 7 rfl) rfl) (@den_argC _ _ _ _ _ _ _ _ (@den_int _ _ _ _ _ _ _) (@den_argNil _ _ _ _) rfl) rfl) rfl) (@den_argC _ _ _ _ _ _ _ _ (@den_int _ _ _ _ _ _ _) (@den_argNil _ _ _ _) rfl) rfl) rfl) rfl) (by decide)) (@den_nm _ _ _ _ _ _ _ (mm 4 rfl) rfl) (fun _ _ => rfl)) (mm 8 rfl) (by intro env h; first | rfl | (obtain ⟨⟩ := env; cases h; rfl))) ?_
    refine @den_cons _ _ _ _ _ _ _ _ (@den_asgT _ _ _ _ _ _ _ _ _ (@den_nm _ _ _ _ _ _ _ (mm 8 rfl) rfl) (@den_subA _ _ _ _ _ _ _ _ _ (@den_nm _ _ _ _ _ _ _ (mm 6 rfl) rfl) (@den_nm _ _ _ _ _ _ _ (mm 5 rfl) rfl)) rfl (by intro env h; first | rfl | (obtain ⟨⟩ := env; cases h; rfl)) (by intro env h; first | rfl | (obtain ⟨⟩ := env; cases h; rfl))) ?_
    refine @den_cons _ _ _ _ _ _ _ _ (@den_asgLcV _ _ _ _ _ _ _ _ _ _ _ _ _ _ _ _ _ _ _ _ (by decide +kernel) (@den_call _ _ _ _ O _ _ _ _ _ _ _ (@den_bi _ _ _ _ O _ _ _ rfl nb_range bb_range nn_range rfl) Keep.type (@fn_rng _ _) (@den_argC _ _ _ _ _ _ _ _ (@den_int _ _ _ _ _ _ _) (@den_argNil _ _ _ _) rfl) rfl) (@den_nmAL _ _ _ _ _ _ _ (mm 0 rfl) rfl) (@den_if1 _ _ _ _ _ _ (@den_cmpT _ _ _ _ _ _ _ _ _ _ _ (@den_idx _ _ _ _ _ _ _ _ _ (@den_nm _ _ _ _ _ _ _ (mm 1 rfl) rfl) (@den_nm _ _ _ _ _ _ _ (mm 0 rfl) rfl) (fun _ _ => rfl)) (@den_int _ _ _ _ _ _ _) (@fn_gt _ _) rfl)) (@den_nm _ _ _ _ _ _ _ (mm 0 rfl) rfl) (fun _ _ => rfl) (mm 9 rfl) (by intro env h; first | rfl | (obtain ⟨⟩ := env; cases h; rfl))) ?_
    refine @den_cons _ _ _ _ _ _ _ _ (@den_asg _ _ _ _ _ _ _ _ _ _ (@den_ifE _ _ _ _ _ _ _ _ _ _ _ (@den_cmpT _ _ _ _ _ _ _ _ _ _ _ (@den_nm _ _ _ _ _ _ _ (mm 9 rfl) rfl) (@den_lst _ _ _ _ _ _ _ (@den_argNil _ _ _ _) (by decide)) (@fn_ne _ _) rfl) (@den_call _ _ _ _ O _ _ _ _ _ _ _ (@den_bi _ _ _ _ O _ _ _ rfl nb_tuple bb_tuple nn_tuple rfl) Keep.type (@fn_tup _ _) (@den_argC _ _ _ _ _ _ _ _ (@den_slice _ _ _ _ _ _ _ _ _ _ (@den_nm _ _ _ _ _ _ _ (mm 6 rfl) rfl) (@den_bin _ _ _ _ _ _ _ _ _ _ _ (@den_call _ _ _ _ O _ _ _ _ _ _ _ (@den_bi _ _ _ _ O _ _ _ rfl nb_max bb_max nn_max rfl) Keep.builtin (@fn_max _ _) (@den_argC _ _ _ _ _ _ _ _ (@den_nm _ _ _ _ _ _ _ (mm 9 rfl) rfl) (@den_argNil _ _ _ _) rfl) rfl) (@den_int _ _ _ _ _ _ _) (@fn_addF _ _))) (@den_argNil _ _ _ _) rfl) rfl) (@den_tup _ _ _ _ _ _ _ _ (@den_argNil _ _ _ _) (by decide))) (mm 10 rfl) (by intro env h; first | rfl | (obtain ⟨⟩ := env; cases h; rfl))) ?_
    refine @den_cons _ _ _ _ _ _ _ _ (@den_asgT _ _ _ _ _ _ _ _ _ (@den_tup _ _ _ _ _ _ _ _ (@den_argC _ _ _ _ _ _ _ _ (@den_call _ _ _ _ O _ _ _ _ _ _ _ (@den_gl _ _ _ _ O _ _ _ rfl g_law_columns rfl) kp_columnsF2 (@FnOk.le _ _ _ _ _ (@ok_columnsF2 _ _ _ _ O) (by decide)) (@den_argC _ _ _ _ _ _ _ _ (@den_nm _ _ _ _ _ _ _ (mm 6 rfl) rfl) (@den_argNil _ _ _ _) rfl) rfl) (@den_argC _ _ _ _ _ _ _ _ (@den_call _ _ _ _ O _ _ _ _ _ _ _ (@den_gl _ _ _ _ O _ _ _ rfl g_law_columns rfl) kp_columnsF2 (@FnOk.le _ _ _ _ _ (@ok_columnsF2 _ _ _ _ O) (by decide)) (@den_argC _ _ _ _ _ _ _ _ (@den_idx _ _ _ _ _ _ _ _ _ (@den_nm _ _ _ _ _ _ _ (mm 1 rfl) rfl) (@den_bin _ _ _ _ _ _ _ _ _ _ _ (@den_int _ _ _ _ _ _ _) (@den_nm _ _ _ _ _ _ _ (mm 3 rfl) rfl) (@fn_sub _ _)) (fun _ _ => rfl)) (@den_argNil _ _ _ _) rfl) rfl) (@den_argNil _ _ _ _) rfl) rfl) (by decide)) (@den_tupT _ _ _ _ _ _ _ _ _ (@den_asCons _ _ _ _ _ _ _ _ _ (fun _ _ h => h) (@den_nmA _ _ _ _ _ _ _ (mm 11 rfl)) (@den_asCons _ _ _ _ _ _ _ _ _ (fun _ _ h => h) (@den_nmA _ _ _ _ _ _ _ (mm 12 rfl)) (@den_asNil _ _ _ _ _) rfl) rfl) rfl rfl) rfl (by intro env h; first | rfl | (obtain ⟨⟩ := env; cases h; rfl)) (by intro env h; first | rfl | (obtain ⟨⟩ := env; cases h; rfl))) ?_
    refine @den_cons _ _ _ _ _ _ _ _ (@den_asg _ _ _ _ _ _ _ _ _ _ (@den_tup _ _ _ _ _ _ _ _ (@den_argC _ _ _ _ _ _ _ _ (@den_call _ _ _ _ O _ _ _ _ _ _ _ (@den_bi _ _ _ _ O _ _ _ rfl nb_sum bb_sum nn_sum rfl) Keep.builtin (@fn_sum _ _) (@den_argC _ _ _ _ _ _ _ _ (@den_lcV _ _ _ _ _ _ _ _ _ _ _ _ _ _ _ _ (by decide +kernel) (@den_call _ _ _ _ O _ _ _ _ _ _ _ (@den_bi _ _ _ _ O _ _ _ rfl nb_range bb_range nn_range rfl) Keep.type (@fn_rng _ _) (@den_argC _ _ _ _ _ _ _ _ (@den_int _ _ _ _ _ _ _) (@den_argNil _ _ _ _) rfl) rfl) (@den_nmAL _ _ _ _ _ _ _ (mm 0 rfl) rfl) (@den_if0 _ _ _ _) (@den_bin _ _ _ _ _ _ _ _ _ _ _ (@den_idx _ _ _ _ _ _ _ _ _ (@den_nm _ _ _ _ _ _ _ (mm 1 rfl) rfl) (@den_nm _ _ _ _ _ _ _ (mm 0 rfl) rfl) (fun _ _ => rfl)) (@den_bin _ _ _ _ _ _ _ _ _ _ _ (@den_nm _ _ _ _ _ _ _ (mm 0 rfl) rfl) (@den_int _ _ _ _ _ _ _) (@fn_addF _ _)) (@fn_mulF _ _)) (fun _ _ => rfl)) (@den_argNil _ _ _ _) rfl) rfl) (@den_argC _ _ _ _ _ _ _ _ (@den_call _ _ _ _ O _ _ _ _ _ _ _ (@den_bi _ _ _ _ O _ _ _ rfl nb_sum bb_sum nn_sum rfl) Keep.builtin (@fn_sum _ _) (@den_argC _ _ _ _ _ _ _ _ (@den_nm _ _ _ _ _ _ _ (mm 6 rfl) rfl) (@den_argNil _ _ _ _) rfl) rfl) (@den_argC _ _ _ _ _ _ _ _ (@den_tup _ _ _ _ _ _ _ _ (@den_argC _ _ _ _ _ _ _ _ (@den_nm _ _ _ _ _ _ _ (mm 10 rfl) rfl) (@den_argC _ _ _ _ _ _ _ _ (@den_int _ _ _ _ _ _ _) (@den_argNil _ _ _ _) rfl) rfl) (by decide)) (@den_argC _ _ _ _ _ _ _ _ (@den_call _ _ _ _ O _ _ _ _ _ _ _ (@den_bi _ _ _ _ O _ _ _ rfl nb_str bb_str nn_str rfl) Keep.type (@fn_str _ _) (@den_argC _ _ _ _ _ _ _ _ (@den_cmp _ _ _ _ _ _ _ _ _ _ _ (@den_call _ _ _ _ O _ _ _ _ _ _ _ (@den_bi _ _ _ _ O _ _ _ rfl nb_len bb_len nn_len rfl) Keep.builtin (@fn_len _ _) (@den_argC _ _ _ _ _ _ _ _ (@den_nm _ _ _ _ _ _ _ (mm 10 rfl) rfl) (@den_argNil _ _ _ _) rfl) rfl) (@den_int _ _ _ _ _ _ _) (@fn_lt _ _) rfl) (@den_argNil _ _ _ _) rfl) rfl) (@den_argC _ _ _ _ _ _ _ _ (@den_nm _ _ _ _ _ _ _ (mm 11 rfl) rfl) (@den_argNil _ _ _ _) rfl) rfl) rfl) rfl) rfl) (by decide)) (mm 13 rfl) (by intro env h; first | rfl | (obtain ⟨⟩ := env; cases h; rfl))) ?_
    refine @den_cons _ _ _ _ _ _ _ _ (@den_asg _ _ _ _ _ _ _ _ _ _ (@den_cmp _ _ _ _ _ _ _ _ _ _ _ (@den_lcV _ _ _ _ _ _ _ _ _ _ _ _ _ _ _ _ (by decide +kernel) (@den_call _ _ _ _ O _ _ _ _ _ _ _ (@den_bi _ _ _ _ O _ _ _ rfl nb_range bb_range nn_range rfl) Keep.type (@fn_rng _ _) (@den_argC _ _ _ _ _ _ _ _ (@den_int _ _ _ _ _ _ _) (@den_argNil _ _ _ _) rfl) rfl) (@den_nmAL _ _ _ _ _ _ _ (mm 0 rfl) rfl) (@den_if1 _ _ _ _ _ _ (@den_cmpT _ _ _ _ _ _ _ _ _ _ _ (@den_idx _ _ _ _ _ _ _ _ _ (@den_nm _ _ _ _ _ _ _ (mm 1 rfl) rfl) (@den_nm _ _ _ _ _ _ _ (mm 0 rfl) rfl) (fun _ _ => rfl)) (@den_idx _ _ _ _ _ _ _ _ _ (@den_nm _ _ _ _ _ _ _ (mm 2 rfl) rfl) (@den_nm _ _ _ _ _ _ _ (mm 0 rfl) rfl) (fun _ _ => rfl)) (@fn_ge _ _) rfl)) (@den_nm _ _ _ _ _ _ _ (mm 0 rfl) rfl) (fun _ _ => rfl)) (@den_lst _ _ _ _ _ _ _ (@den_argNil _ _ _ _) (by decide)) (@fn_eq _ _) rfl) (mm 14 rfl) (by intro env h; first | rfl | (obtain ⟨⟩ := env; cases h; rfl))) ?_
    refine @den_cons _ _ _ _ _ _ _ _ (@den_asg _ _ _ _ _ _ _ _ _ _ (@den_cmp _ _ _ _ _ _ _ _ _ _ _ (@den_lcV _ _ _ _ _ _ _ _ _ _ _ _ _ _ _ _ (by decide +kernel) (@den_call _ _ _ _ O _ _ _ _ _ _ _ (@den_bi _ _ _ _ O _ _ _ rfl nb_range bb_range nn_range rfl) Keep.type (@fn_rng _ _) (@den_argC _ _ _ _ _ _ _ _ (@den_int _ _ _ _ _ _ _) (@den_argNil _ _ _ _) rfl) rfl) (@den_nmAL _ _ _ _ _ _ _ (mm 0 rfl) rfl) (@den_if1 _ _ _ _ _ _ (@den_cmpT _ _ _ _ _ _ _ _ _ _ _ (@den_idx _ _ _ _ _ _ _ _ _ (@den_nm _ _ _ _ _ _ _ (mm 1 rfl) rfl) (@den_nm _ _ _ _ _ _ _ (mm 0 rfl) rfl) (fun _ _ => rfl)) (@den_idx _ _ _ _ _ _ _ _ _ (@den_nm _ _ _ _ _ _ _ (mm 2 rfl) rfl) (@den_nm _ _ _ _ _ _ _ (mm 0 rfl) rfl) (fun _ _ => rfl)) (@fn_le _ _) rfl)) (@den_nm _ _ _ _ _ _ _ (mm 0 rfl) rfl) (fun _ _ => rfl)) (@den_lst _ _ _ _ _ _ _ (@den_argNil _ _ _ _) (by decide)) (@fn_eq _ _) rfl) (mm 15 rfl) (by intro env h; first | rfl | (obtain ⟨⟩ := env; cases h; rfl))) ?_
    refine @den_cons _ _ _ _ _ _ _ _ (@den_expr _ _ _ _ _ _ _ (@den_meth _ _ _ _ O _ _ _ _ _ _ _ _ _ _ (@den_nm _ _ _ _ _ _ _ (mm 2 rfl) rfl) (@meth_append _) Keep.builtin (@fn_app _ _) (@den_argC _ _ _ _ _ _ _ _ (@den_tup _ _ _ _ _ _ _ _ (@den_argC _ _ _ _ _ _ _ _ (@den_nm _ _ _ _ _ _ _ (mm 13 rfl) rfl) (@den_argC _ _ _ _ _ _ _ _ (@den_call _ _ _ _ O _ _ _ _ _ _ _ (@den_bi _ _ _ _ O _ _ _ rfl nb_str bb_str nn_str rfl) Keep.type (@fn_str _ _) (@den_argC _ _ _ _ _ _ _ _ (@den_lst _ _ _ _ _ _ _ (@den_argC _ _ _ _ _ _ _ _ (@den_cmp _ _ _ _ _ _ _ _ _ _ _ (@den_nm _ _ _ _ _ _ _ (mm 8 rfl) rfl) (@den_nm _ _ _ _ _ _ _ (mm 7 rfl) rfl) (@fn_gt _ _) rfl) (@den_argC _ _ _ _ _ _ _ _ (@den_cmp _ _ _ _ _ _ _ _ _ _ _ (@den_nm _ _ _ _ _ _ _ (mm 8 rfl) rfl) (@den_nm _ _ _ _ _ _ _ (mm 7 rfl) rfl) (@fn_lt _ _) rfl) (@den_argC _ _ _ _ _ _ _ _ (@den_cmp _ _ _ _ _ _ _ _ _ _ _ (@den_nm _ _ _ _ _ _ _ (mm 8 rfl) rfl) (@den_nm _ _ _ _ _ _ _ (mm 7 rfl) rfl) (@fn_eq _ _) rfl) (@den_argNil _ _ _ _) rfl) rfl) rfl) (by decide)) (@den_argNil _ _ _ _) rfl) rfl) (@den_argC _ _ _ _ _ _ _ _ (@den_call _ _ _ _ O _ _ _ _ _ _ _ (@den_bi _ _ _ _ O _ _ _ rfl nb_str bb_str nn_str rfl) Keep.type (@fn_str _ _) (@den_argC _ _ _ _ _ _ _ _ (@den_lst _ _ _ _ _ _ _ (@den_argC _ _ _ _ _ _ _ _ (@den_nm _ _ _ _ _ _ _ (mm 14 rfl) rfl) (@den_argC _ _ _ _ _ _ _ _ (@den_nm _ _ _ _ _ _ _ (mm 15 rfl) rfl) (@den_argC _ _ _ _ _ _ _ _ (@den_cmp _ _ _ _ _ _ _ _ _ _ _ (@den_nm _ _ _ _ _ _ _ (mm 11 rfl) rfl) (@den_nm _ _ _ _ _ _ _ (mm 12 rfl) rfl) (@fn_eq _ _) rfl) (@den_argNil _ _ _ _) rfl) rfl) rfl) (by decide)) (@den_argNil _ _ _ _) rfl) rfl) (@den_argNil _ _ _ _) rfl) rfl) rfl) (by decide)) (@den_argNil _ _ _ _) rfl) rfl (fun env _ => ⟨_, rfl⟩)) (fun _ => rfl)) ?_
    exact @den_nil _ _ _ _
  refine @den_cons _ _ _ _ _ _ _ _ (@den_ret _ _ _ _ _ _ _ (@den_nm _ _ _ _ _ _ _ (mm 2 rfl) rfl)) ?_
  exact @den_nil _ _ _ _
theorem shape_dueF2 : FnShape (cx2 w h₀ mg mb) 283 (fdIn (cx2 w h₀ mg mb).K 283) (bodyIn (cx2 w h₀ mg mb).K 283) ["calls"] dueF2_vars 20 := FnShape.of (by kernel_rfl)
theorem code_dueF2 (O : (cx2 w h₀ mg mb).Ok) : CodeOk (cx2 w h₀ mg mb) 5 (fun xs => .call (.ref 283) ⟨xs, []⟩) (dueF2 ad2) :=
  (code_fn O shape_dueF2 (@den_dueF2 _ _ _ _ O) (Binds.of1 (mk := fun xs => ⟨xs, []⟩) fun a => by kernel_rfl) rfl).tr
theorem ok_dueF2 (O : (cx2 w h₀ mg mb).Ok) : FnOk (cx2 w h₀ mg mb) 5 (fun xs => call (.ref 283) xs) (dueF2 ad2) := (@code_dueF2 _ _ _ _ O).fn
theorem kp_dueF2 : Keep (cx2 w h₀ mg mb) (.ref 283) := Keep.K (by kernel_rfl)
theorem g_law_due : nsIn (cx2 w h₀ mg mb).K mainGlobals "_law_due" = some (some (.ref 283)) := by kernel_rfl
theorem den_lawF2 (O : (cx2 w h₀ mg mb).Ok) : DenSs (cx2 w h₀ mg mb) 7 lawF2_vars (fdIn (cx2 w h₀ mg mb).K 290).scope (bodyIn (cx2 w h₀ mg mb).K 290) (lawF2_sh ad2) := by
  conv => enter [4]; whnf
  conv => enter [5]; whnf
  refine @den_cons _ _ _ _ _ _ _ _ (@den_asg _ _ _ _ _ _ _ _ _ _ (@den_call _ _ _ _ O _ _ _ _ _ _ _ (@den_gl _ _ _ _ O _ _ _ rfl g_law_calls rfl) kp_callsF2 (@FnOk.le _ _ _ _ _ (@ok_callsF2 _ _ _ _ O) (by decide)) (@den_argC _ _ _ _ _ _ _ _ (@den_nm _ _ _ _ _ _ _ (mm 0 rfl) rfl) (@den_argNil _ _ _ _) rfl) rfl) (mm 1 rfl) (by intro env h; first | rfl | (obtain ⟨⟩ := env; cases h; rfl))) ?_
  refine @den_cons _ _ _ _ _ _ _ _ (@den_ret _ _ _ _ _ _ _ (@den_cmp _ _ _ _ _ _ _ _ _ _ _ (@den_call _ _ _ _ O _ _ _ _ _ _ _ (@den_gl _ _ _ _ O _ _ _ rfl g_law_told rfl) kp_toldF2 (@FnOk.le _ _ _ _ _ (@ok_toldF2 _ _ _ _ O) (by decide)) (@den_argC _ _ _ _ _ _ _ _ (@den_nm _ _ _ _ _ _ _ (mm 1 rfl) rfl) (@den_argNil _ _ _ _) rfl) rfl) (@den_call _ _ _ _ O _ _ _ _ _ _ _ (@den_gl _ _ _ _ O _ _ _ rfl g_law_due rfl) kp_dueF2 (@FnOk.le _ _ _ _ _ (@ok_dueF2 _ _ _ _ O) (by decide)) (@den_argC _ _ _ _ _ _ _ _ (@den_nm _ _ _ _ _ _ _ (mm 1 rfl) rfl) (@den_argNil _ _ _ _) rfl) rfl) (@fn_eq _ _) rfl)) ?_
  exact @den_nil _ _ _ _
theorem shape_lawF2 : FnShape (cx2 w h₀ mg mb) 290 (fdIn (cx2 w h₀ mg mb).K 290) (bodyIn (cx2 w h₀ mg mb).K 290) ["script"] lawF2_vars 2 := FnShape.of (by kernel_rfl)
theorem code_lawF2 (O : (cx2 w h₀ mg mb).Ok) : CodeOk (cx2 w h₀ mg mb) 8 (fun xs => .call (.ref 290) ⟨xs, []⟩) (lawF2 ad2) :=
  code_fn O shape_lawF2 (@den_lawF2 _ _ _ _ O) (Binds.of1 (mk := fun xs => ⟨xs, []⟩) fun a => by kernel_rfl) rfl
theorem ok_lawF2 (O : (cx2 w h₀ mg mb).Ok) : FnOk (cx2 w h₀ mg mb) 8 (fun xs => call (.ref 290) xs) (lawF2 ad2) := (@code_lawF2 _ _ _ _ O).fn
theorem g_law : nsIn (cx2 w h₀ mg mb).K mainGlobals "law" = some (some (.ref 290)) := by kernel_rfl
end
end Mine
namespace Mine
open PySem PySem.Spec PySem.Calls PyProof.Rows PySem.W

noncomputable def bl (l : Nat) : Str := ⟨(List.replicate l 32).toArray⟩
noncomputable def hdV (ks : List Nat) : List V := ks.map fun l => .tup [.str (bl l), .str ""]
theorem lt4 {l : Nat} (h : l < 4) : l = 0 ∨ l = 1 ∨ l = 2 ∨ l = 3 := by omega
theorem bl_mul {l : Nat} (h : l < 4) : Txt.mul (Str.ofString " ") (l : Int) = bl l := by
  rcases lt4 h with rfl | rfl | rfl | rfl <;> decide +kernel
theorem bl_low {l : Nat} (h : l < 4) : Txt.lower (bl l) = bl l := by
  rcases lt4 h with rfl | rfl | rfl | rfl <;> decide +kernel
theorem bl_good {l : Nat} (h : l < 4) : goodS badN (bl l) = true := by
  rcases lt4 h with rfl | rfl | rfl | rfl <;> decide +kernel
theorem bl_len (l : Nat) : (bl l).length = l := by simp [bl, Str.length]
theorem bl_inj {k l : Nat} : (bl k == bl l) = decide (k = l) := by
  by_cases h : k = l
  · subst h; simp
  · rw [decide_eq_false h]
    refine beq_eq_false_iff_ne.mpr fun z => h ?_
    have := congrArg Str.length z
    rwa [bl_len, bl_len] at this
theorem low_run {l : Nat} (h : l < 4) (σ : Hp) : lowF [.str (bl l)] σ = some (.str (bl l), σ) := by
  have : Nat.ble (bl l).length smax = true := ble_of (by rw [bl_len]; unfold smax; omega)
  simp [lowF, bl_low h, this]
theorem set_same {σ : Hp} {m : Nat} {o : SO} (h : σ[m]? = some o) : σ.set m o = σ := by
  obtain ⟨hl, e⟩ := List.getElem?_eq_some_iff.mp h
  rw [← e, List.set_getElem_self]
theorem good_empty : goodS badV "" = true := by decide +kernel
theorem idx_zero (x y : V) (σ : Hp) : idxF [.tup [x, y], .int 0] σ = some (x, σ) := by simp [idxF, okI, ixOf]

theorem del_cmp {l : Nat} (hl : l < 4) (s0 : Option V) : ∀ (ks : List Nat) (t : Option V) (τ : Hp), (∀ k ∈ ks, k < 4) →
    cmpL (nmA 2) (cmT (op2 (eqF true) (methE chkStr lowF (op2 idxF (nmE 2) (kE (.int 0))) []) (nmE 1))) (nmE 2) (hdV ks) [s0, some (.str (bl l)), t] τ = some (hdV (ks.filter (· ≠ l)), τ) := by
  intro ks
  induction ks with
  | nil => intro t τ _; rfl
  | cons k ks ih =>
    intro t τ hk
    have hk0 : k < 4 := hk k (by simp)
    have ih := ih (some (.tup [.str (bl k), .str ""])) τ fun j hj => hk j (by simp [hj])
    by_cases e : k = l
    · subst e
      simp [hdV, cmpL, idx_zero, low_run hk0] at ih ⊢
      exact ih
    · simp [hdV, cmpL, idx_zero, low_run hk0, bl_inj, e] at ih ⊢
      rw [ih]
theorem del_run (a : Ad) {σ : Hp} {self : V} {m : Nat} {ks : List Nat} {l : Nat} (h : hdrs a σ self = some (m, hdV ks)) (hk : ∀ k ∈ ks, k < 4) (hl : l < 4) (hn : ks.length ≤ 1000) :
    hd_delitem a [self, .str (bl l)] σ = some (.none, σ.set m (.lst (hdV (ks.filter (· ≠ l))))) := by
  obtain ⟨g1, g2, g3⟩ := hdrs_atF h
  have hc := cst_run a self (bl l) true σ (by simp) (by simpa using bl_good hl)
  have hcm := del_cmp hl (some self) ks none (σ.set m .dead) hk
  have hln : (hdV ks).length ≤ 1000 := by simpa [hdV] using hn
  have hln2 : (hdV (ks.filter (· ≠ l))).length ≤ 1000 := by
    simp only [hdV, List.length_map]; exact Nat.le_trans (List.length_filter_le _ _) hn
  have b1 : Nat.ble (hdV ks).length 1000000 = true := ble_of (by omega)
  have b2 : Nat.ble ((hdV ks).length + (hdV (ks.filter (· ≠ l))).length) lmax = true := ble_lmax _ (by omega)
  have sm : (σ.set m .dead).set m (.lst (hdV ks)) = σ := by rw [List.set_set, set_same g3]
  unfold hd_delitem fnF
  rw [if_pos (by rfl)]
  simp only [hd_delitem_sh, cmpV]
  simp only [locOf, seqS_e, asgS_e, methKwE_e, nmE_e, methE_e, argsE_cons, argsE_nil]
  simp [g1, g2, low_run hl, hc, cmpE, V.notS, V.isS, srcOf, g3, b1, clr, lend, giveBack, stSl, b2]
  simp at hcm
  rw [hcm]
  simp [sm, g1, g3]
  simp at b2
  simp [b2]
theorem hdrs_set {a : Ad} {σ : Hp} {self : V} {m : Nat} {items ws : List V} (h : hdrs a σ self = some (m, items)) (hne : ∀ C n, self = .inst C n → n ≠ m) : hdrs a (σ.set m (.lst ws)) self = some (m, ws) := by
  have hm := lt_of_get (hdrs_atF h).2.2
  unfold hdrs at h ⊢
  split at h
  · rename_i C m' e
    split at h
    · rename_i hC
      split at h
      · rename_i its e2
        cases h
        have e' : attrs? (σ.set m (.lst ws)) self = some (C, [.ref m]) := by
          unfold attrs? at e ⊢
          split at e
          · exact e
          · rename_i C1 n1
            rw [List.getElem?_set_ne (fun z => hne C1 n1 rfl z.symm)]
            exact e
          · cases e
        simp [e', hC, hm]
      · cases h
    · cases h
  · cases h
theorem hdV_app (ks : List Nat) (l : Nat) : hdV ks ++ [.tup [.str (bl l), .str ""]] = hdV (ks ++ [l]) := by simp [hdV]
theorem app_line (a : Ad) (hpv : Nat.beq a.pV a.pN = false) {σ : Hp} {self : V} {m : Nat} {ks : List Nat} {l : Nat} (h : hdrs a σ self = some (m, hdV ks)) (hl : l < 4) (hn : ks.length ≤ 1000) (r : List (Option V)) :
    exprS (methE chkRef appF (op1 (atF a.HD 0) (nmE 0)) [tupE [methKwE (chkI a.HD) (hd_cst a) (nmE 0) [nmE 1] true, methKwE (chkI a.HD) (hd_cst a) (nmE 0) [nmE 2] false]]) (some self :: some (.str (bl l)) :: some (.str "") :: r) σ
      = some (.next, some self :: some (.str (bl l)) :: some (.str "") :: r, σ.set m (.lst (hdV (ks ++ [l])))) := by
  obtain ⟨g1, g2, g3⟩ := hdrs_atF h
  have hc := cst_run a self (bl l) true σ (by simp) (by simpa using bl_good hl)
  have hc2 := cst_run a self "" false σ (fun _ => hpv) (by simpa using good_empty)
  have b : (hdV ks).length ≤ lmax := by simp [hdV, lmax]; omega
  simp [g1, g2, g3, hc, hc2, b, hdV_app]
theorem set_run (a : Ad) (hpv : Nat.beq a.pV a.pN = false) {σ : Hp} {self : V} {m : Nat} {ks : List Nat} {l : Nat} (h : hdrs a σ self = some (m, hdV ks)) (hne : ∀ C n, self = .inst C n → n ≠ m) (hk : ∀ k ∈ ks, k < 4) (hl : l < 4) (hn : ks.length ≤ 1000) :
    hd_setitem a [self, .str (bl l), .str ""] σ = some (.none, σ.set m (.lst (hdV (ks.filter (· ≠ l) ++ [l])))) := by
  have hd := del_run a h hk hl hn
  obtain ⟨g1, g2, g3⟩ := hdrs_atF h
  have h1 := hdrs_set (ws := hdV (ks.filter (· ≠ l))) h hne
  have ha := app_line a hpv h1 hl (Nat.le_trans (List.length_filter_le _ _) hn) []
  unfold hd_setitem fnF
  rw [if_pos (by rfl)]
  simp only [hd_setitem_sh]
  rw [seq_go (loc₁ := [some self, some (.str (bl l)), some (.str "")]) (σ₁ := σ.set m (.lst (hdV (ks.filter (· ≠ l))))) (by simp only [delS, locOf, nmE_e]; simp [g2]; simp at hd; rw [hd]) (seq_go ha rfl)]
  simp
theorem get_loop (a : Ad) {l : Nat} (hl : l < 4) (s0 s2 : Option V) : ∀ (ks : List Nat) (t3 t4 : Option V) (τ : Hp), (∀ k ∈ ks, k < 4) → ∃ t3' t4',
    forL (tupT [nmA 3, nmA 4]) (hd_get_b0 a) (hdV ks) [s0, some (.str (bl l)), s2, t3, t4] τ = some (if l ∈ ks then .ret (.str "") else .next, [s0, some (.str (bl l)), s2, t3', t4'], τ) := by
  intro ks
  induction ks with
  | nil => intro t3 t4 τ _; exact ⟨t3, t4, rfl⟩
  | cons k ks ih =>
    intro t3 t4 τ hk
    have hk0 : k < 4 := hk k (by simp)
    obtain ⟨u3, u4, ih⟩ := ih (some (.str (bl k))) (some (.str "")) τ fun j hj => hk j (by simp [hj])
    by_cases e : k = l
    · subst e
      refine ⟨some (.str (bl k)), some (.str ""), ?_⟩
      simp [hdV, forL, hd_get_b0, low_run hk0]
    · refine ⟨u3, u4, ?_⟩
      have e' : ¬ l = k := fun z => e z.symm
      simp [hdV, hd_get_b0] at ih
      simp [hdV, forL, hd_get_b0, low_run hk0, bl_inj, e, e', ih]
theorem get_run (a : Ad) {σ : Hp} {self : V} {m : Nat} {ks : List Nat} {l : Nat} (h : hdrs a σ self = some (m, hdV ks)) (hk : ∀ k ∈ ks, k < 4) (hl : l < 4) :
    hd_get1 a [self, .str (bl l)] σ = some (if l ∈ ks then .str "" else .none, σ) := by
  obtain ⟨g1, g2, g3⟩ := hdrs_atF h
  have hc := cst_run a self (bl l) true σ (by simp) (by simpa using bl_good hl)
  obtain ⟨u3, u4, e⟩ := get_loop a hl (some self) (some .none) ks none none (σ.set m .dead) hk
  have sm : (σ.set m .dead).set m (.lst (hdV ks)) = σ := by rw [List.set_set, set_same g3]
  unfold hd_get1 dfF
  rw [if_pos (by rfl)]
  show hd_get a [self, .str (bl l), .none] σ = _
  unfold hd_get fnF
  rw [if_pos (by rfl)]
  simp only [hd_get_sh]
  rw [seq_go (loc₁ := [some self, some (.str (bl l)), some .none, none, none]) (σ₁ := σ) (by simp [locOf, g2, low_run hl, hc]) rfl]
  simp [forS, g1, srcOf, g3, lend, giveBack, e, sm]
  by_cases hm : l ∈ ks <;> simp [hm]
theorem sdef_run (a : Ad) (hpv : Nat.beq a.pV a.pN = false) {σ : Hp} {self : V} {m : Nat} {ks : List Nat} {l : Nat} (h : hdrs a σ self = some (m, hdV ks)) (hk : ∀ k ∈ ks, k < 4) (hl : l < 4) (hn : ks.length ≤ 1000) :
    hd_setdefault a [self, .str (bl l), .str ""] σ = some (.str "", if l ∈ ks then σ else σ.set m (.lst (hdV (ks ++ [l])))) := by
  obtain ⟨g1, g2, g3⟩ := hdrs_atF h
  have hg := get_run a h hk hl
  have ha := app_line a hpv h hl hn [some .none]
  unfold hd_setdefault fnF
  rw [if_pos (by rfl)]
  simp only [hd_setdefault_sh]
  rw [seq_go (loc₁ := [some self, some (.str (bl l)), some (.str ""), some (if l ∈ ks then .str "" else .none)]) (σ₁ := σ) (by simp [locOf, g2, hg]) rfl]
  by_cases hm : l ∈ ks
  · simp only [hm, if_true]
    simp
  · simp only [hm, if_false]
    simp [-exprS_e, ha]
theorem keys_cmp : ∀ (ks : List Nat) (l0 t1 t2 : Option V) (τ : Hp),
    cmpL (tupT [nmA 1, nmA 2]) ttT (nmE 1) (hdV ks) [l0, t1, t2] τ = some (ks.map fun k => .str (bl k), τ) := by
  intro ks
  induction ks with
  | nil => intro l0 t1 t2 τ; rfl
  | cons k ks ih =>
    intro l0 t1 t2 τ
    have ih := ih l0 (some (.str (bl k))) (some (.str "")) τ
    simp [hdV] at ih
    simp [hdV, cmpL, ih]
theorem keys_run (a : Ad) {σ : Hp} {self : V} {m : Nat} {ks : List Nat} (h : hdrs a σ self = some (m, hdV ks)) (hn : ks.length ≤ 1000) : hd_keys a [self] σ = some (.lst (ks.map fun k => .str (bl k)), σ) := by
  obtain ⟨g1, g2, g3⟩ := hdrs_atF h
  have sm : (σ.set m .dead).set m (.lst (hdV ks)) = σ := by rw [List.set_set, set_same g3]
  have b1 : (hdV ks).length ≤ 1000000 := by simp [hdV]; omega
  have hc := keys_cmp ks (some self) none none (σ.set m .dead)
  simp [hd_keys, fnF, hd_keys_sh, locOf, cmpV, cmpE, g1, V.notS, V.isS, srcOf, g3, b1, clr, lend, giveBack, hc, sm]
end Mine
namespace Mine
open PySem PySem.Spec PySem.Calls PyProof.Rows PySem.W

structure C4 where
  c0 : Nat
  c1 : Nat
  c2 : Nat
  c3 : Nat
noncomputable def C4.of (ks : List Nat) : C4 := ⟨ks.count 0, ks.count 1, ks.count 2, ks.count 3⟩
noncomputable def C4.inc (c : C4) (l : Nat) : C4 := match l with
  | 0 => ⟨c.c0 + 1, c.c1, c.c2, c.c3⟩
  | 1 => ⟨c.c0, c.c1 + 1, c.c2, c.c3⟩
  | 2 => ⟨c.c0, c.c1, c.c2 + 1, c.c3⟩
  | _ => ⟨c.c0, c.c1, c.c2, c.c3 + 1⟩
noncomputable def C4.n (c : C4) : Nat := c.c0 + 2 * c.c1 + 3 * c.c2 + 4 * c.c3
noncomputable def C4.nt (c : C4) : Nat := c.c0 + c.c1 + c.c2 + c.c3
noncomputable def form (c : C4) : List Int := if 0 < c.c3 then [c.c0, c.c1, c.c2, c.c3] else if 0 < c.c2 then [c.c0, c.c1, c.c2] else if 0 < c.c1 then [c.c0, c.c1] else if 0 < c.c0 then [(c.c0 : Int)] else []
noncomputable def mz (x k : Nat) : Nat := match x with | 0 => 0 | _ => k
noncomputable def flen (c : C4) : Nat := max (mz c.c0 1) (max (mz c.c1 2) (max (mz c.c2 3) (mz c.c3 4)))
theorem mz_le (x k : Nat) : mz x k ≤ k := by unfold mz; split <;> omega
theorem mz_pos {x : Nat} (k : Nat) (h : 0 < x) : mz x k = k := by cases x with | zero => omega | succ x => rfl
theorem mz_zero {x : Nat} (k : Nat) (h : ¬ 0 < x) : mz x k = 0 := by cases x with | zero => rfl | succ x => omega
noncomputable def at4 (c : C4) : Nat → Int
  | 0 => c.c0
  | 1 => c.c1
  | 2 => c.c2
  | 3 => c.c3
  | _ => 0
theorem form_lenF (c : C4) : (form c).length = flen c := by
  have h0 := mz_le c.c0 1
  have h1 := mz_le c.c1 2
  have h2 := mz_le c.c2 3
  unfold form flen
  by_cases a3 : 0 < c.c3
  · rw [if_pos a3, mz_pos 4 a3]; show 4 = _; omega
  · rw [if_neg a3, mz_zero 4 a3]
    by_cases a2 : 0 < c.c2
    · rw [if_pos a2, mz_pos 3 a2]; show 3 = _; omega
    · rw [if_neg a2, mz_zero 3 a2]
      by_cases a1 : 0 < c.c1
      · rw [if_pos a1, mz_pos 2 a1]; show 2 = _; omega
      · rw [if_neg a1, mz_zero 2 a1]
        by_cases a0 : 0 < c.c0
        · rw [if_pos a0, mz_pos 1 a0]; rfl
        · rw [if_neg a0, mz_zero 1 a0]; rfl
theorem form_at (c : C4) (i : Nat) : (form c).getD i 0 = at4 c i := by
  obtain ⟨c0, c1, c2, c3⟩ := c
  unfold form
  by_cases a3 : 0 < c3
  · rw [if_pos a3]; rcases i with _ | _ | _ | _ | i <;> rfl
  · obtain rfl : c3 = 0 := by omega
    rw [if_neg a3]
    by_cases a2 : 0 < c2
    · rw [if_pos a2]; rcases i with _ | _ | _ | _ | i <;> rfl
    · obtain rfl : c2 = 0 := by omega
      rw [if_neg a2]
      by_cases a1 : 0 < c1
      · rw [if_pos a1]; rcases i with _ | _ | _ | _ | i <;> rfl
      · obtain rfl : c1 = 0 := by omega
        rw [if_neg a1]
        by_cases a0 : 0 < c0
        · rw [if_pos a0]; rcases i with _ | _ | _ | _ | i <;> rfl
        · obtain rfl : c0 = 0 := by omega
          rw [if_neg a0]; rcases i with _ | _ | _ | _ | i <;> rfl
theorem form_of (c : C4) (f : List Int) (h1 : f.length = flen c) (h2 : ∀ i, f.getD i 0 = at4 c i) : f = form c := by
  refine List.ext_getElem (by rw [h1, form_lenF]) fun i a b => ?_
  have := (h2 i).trans (form_at c i).symm
  rw [List.getD_eq_getElem?_getD, List.getD_eq_getElem?_getD, List.getElem?_eq_getElem a, List.getElem?_eq_getElem b] at this
  exact this
theorem bump_len (f : List Int) (l : Nat) : (bump f l).length = max f.length (l + 1) := by
  unfold bump padL
  split <;> simp <;> omega
theorem bump_at (f : List Int) (l i : Nat) : (bump f l).getD i 0 = f.getD i 0 + if i = l then 1 else 0 := by
  have hp : ∀ j, (padL f l).getD j 0 = f.getD j 0 := by
    intro j
    unfold padL
    split
    · by_cases hj : j < f.length
      · simp [List.getElem?_append_left hj]
      · rw [List.getD_eq_getElem?_getD, List.getElem?_append_right (by omega), List.getElem?_replicate]
        split <;> simp [List.getElem?_eq_none (show f.length ≤ j by omega)]
    · rfl
  have hl : l < (padL f l).length := by
    unfold padL; split
    · simp; omega
    · omega
  unfold bump
  by_cases h : i = l
  · subst h
    rw [List.getD_eq_getElem?_getD, List.getElem?_set_self hl, hp, if_pos rfl]; rfl
  · rw [List.getD_eq_getElem?_getD, List.getElem?_set_ne (fun z => h z.symm), ← List.getD_eq_getElem?_getD, hp, if_neg h, Int.add_zero]
theorem at_inc (c : C4) {l : Nat} (h : l < 4) (i : Nat) : at4 (c.inc l) i = at4 c i + if i = l then 1 else 0 := by
  rcases lt4 h with rfl | rfl | rfl | rfl <;> rcases i with _ | _ | _ | _ | i <;> first | rfl | (rw [if_neg (by omega)]; rfl)
theorem max_up {x k : Nat} (h : x ≤ k) (M : Nat) : max k M = max (max x M) k := by omega
theorem len_inc (c : C4) {l : Nat} (h : l < 4) : flen (c.inc l) = max (flen c) (l + 1) := by
  unfold flen
  rcases lt4 h with rfl | rfl | rfl | rfl <;> simp only [C4.inc, mz_pos _ (Nat.succ_pos _)]
  · exact max_up (mz_le _ 1) _
  · rw [Nat.max_assoc, max_up (mz_le c.c1 2)]
  · rw [Nat.max_assoc, Nat.max_assoc, max_up (mz_le c.c2 3)]
  · rw [Nat.max_assoc, Nat.max_assoc, Nat.max_assoc, Nat.max_eq_right (mz_le c.c3 4)]
theorem bump_form (c : C4) {l : Nat} (h : l < 4) : bump (form c) l = form (c.inc l) :=
  form_of _ _ (by rw [bump_len, form_lenF, len_inc c h]) fun i => by rw [bump_at, form_at, at_inc c h]
theorem of_cons (k : Nat) (ks : List Nat) (h : k < 4) : C4.of (k :: ks) = (C4.of ks).inc k := by
  rcases lt4 h with rfl | rfl | rfl | rfl <;> simp [C4.of, C4.inc]
noncomputable def C4.add (c d : C4) : C4 := ⟨c.c0 + d.c0, c.c1 + d.c1, c.c2 + d.c2, c.c3 + d.c3⟩
theorem foldl_bump : ∀ (ks : List Nat) (c : C4), (∀ k ∈ ks, k < 4) → ks.foldl bump (form c) = form (c.add (C4.of ks)) := by
  intro ks
  induction ks with
  | nil => intro c _; simp [C4.of, C4.add]
  | cons k ks ih =>
    intro c hk
    have hk0 : k < 4 := hk k (by simp)
    rw [List.foldl_cons, bump_form c hk0, ih (c.inc k) fun j hj => hk j (by simp [hj]), of_cons k ks hk0]
    congr 1
    rcases lt4 hk0 with rfl | rfl | rfl | rfl <;> simp [C4.add, C4.inc] <;> omega
theorem of_n (ks : List Nat) (hk : ∀ k ∈ ks, k < 4) : (C4.of ks).nt = ks.length ∧ (C4.of ks).n = (ks.map (· + 1)).sum := by
  induction ks with
  | nil => exact ⟨rfl, rfl⟩
  | cons k ks ih =>
    have hk0 : k < 4 := hk k (by simp)
    obtain ⟨i1, i2⟩ := ih fun j hj => hk j (by simp [hj])
    rw [of_cons k ks hk0]
    simp only [List.map_cons, List.sum_cons, List.length_cons, ← i1, ← i2]
    rcases lt4 hk0 with rfl | rfl | rfl | rfl <;> simp [C4.inc, C4.nt, C4.n] <;> omega
theorem foldl_cps (l : List Str) : ∀ (acc : Array Nat), (l.foldl (fun acc (p : Str) => acc ++ (Str.ofString "").cps ++ p.cps) acc).toList = acc.toList ++ l.flatMap (fun p => p.cps.toList) := by
  have e : (Str.ofString "").cps = #[] := by decide +kernel
  induction l with
  | nil => intro acc; simp
  | cons p l ih => intro acc; rw [List.foldl_cons, ih]; simp [e]
theorem join_cps (l : List Str) : (Txt.join (Str.ofString "") l).cps.toList = l.flatMap (fun p => p.cps.toList) := by
  show (PySem.Builtin.Str.glued (Str.ofString "") l).cps.toList = _
  unfold PySem.Builtin.Str.glued
  simp only
  rw [foldl_cps]
  cases l with
  | nil => rfl
  | cons p l => simp
noncomputable def keyS (k : Nat) : Str := bl k ++ Str.ofString "\t"
theorem keyS_cps (k : Nat) : (keyS k).cps.toList = List.replicate k 32 ++ [9] := by
  have e : (Str.ofString "\t").cps = #[9] := by decide +kernel
  show ((bl k).cps ++ (Str.ofString "\t").cps).toList = _
  rw [e]; simp [bl]
noncomputable def keyT (ks : List Nat) : Str := Txt.join (Str.ofString "") (ks.map keyS)
theorem keyT_cps (ks : List Nat) : (keyT ks).cps.toList = ks.flatMap fun k => List.replicate k 32 ++ [9] := by
  unfold keyT
  rw [join_cps, List.flatMap_map]
  congr 1; funext k; exact keyS_cps k
theorem scan_run (k : Nat) : ∀ (r : List Nat) (s : Sc), scan (List.replicate k 32 ++ 9 :: r) s = scan r ⟨bump s.cnt (s.b + k), 0, s.n + k + 1, s.nt + 1⟩ := by
  induction k with
  | zero => intro r s; simp [scan]
  | succ k ih =>
    intro r s
    rw [List.replicate_succ, List.cons_append, scan, if_pos rfl, ih]
    rw [show (⟨s.cnt, s.b + 1, s.n + 1, s.nt⟩ : Sc).b + k = s.b + (k + 1) from by simp only; omega, show (⟨s.cnt, s.b + 1, s.n + 1, s.nt⟩ : Sc).n + k + 1 = s.n + (k + 1) + 1 from by simp only; omega]
theorem scan_keys : ∀ (ks : List Nat) (c : List Int) (n nt : Nat), scan (ks.flatMap fun k => List.replicate k 32 ++ [9]) ⟨c, 0, n, nt⟩ = ⟨ks.foldl bump c, 0, n + (ks.map (· + 1)).sum, nt + ks.length⟩ := by
  intro ks
  induction ks with
  | nil => intro c n nt; rfl
  | cons k ks ih =>
    intro c n nt
    rw [List.flatMap_cons, List.append_assoc, List.singleton_append, scan_run, ih]
    simp
    omega
theorem scan_keyT (ks : List Nat) (hk : ∀ k ∈ ks, k < 4) : scan0 (keyT ks) = ⟨form (C4.of ks), 0, (C4.of ks).n, (C4.of ks).nt⟩ := by
  unfold scan0
  rw [keyT_cps, scan_keys]
  obtain ⟨a, b⟩ := of_n ks hk
  have := foldl_bump ks ⟨0, 0, 0, 0⟩ hk
  have f0 : form ⟨0, 0, 0, 0⟩ = [] := rfl
  rw [f0] at this
  rw [this, a, b]
  simp [C4.add]
theorem keyT_len (ks : List Nat) (hk : ∀ k ∈ ks, k < 4) : (keyT ks).length ≤ 4 * ks.length := by
  have : (keyT ks).length = (keyT ks).cps.toList.length := by simp [Str.length]
  rw [this, keyT_cps]
  induction ks with
  | nil => simp
  | cons k ks ih =>
    have hk0 := hk k (by simp)
    have := ih (fun j hj => hk j (by simp [hj])) (by simp [Str.length])
    simp at this ⊢
    omega
theorem keyT_asc (ks : List Nat) (hk : ∀ k ∈ ks, k < 4) (hn : ks.length ≤ 100) : ascS (keyT ks) = true := by
  unfold ascS
  have h1 := keyT_len ks hk
  rw [ble_of (by omega), Bool.and_true]
  rw [← Array.all_toList, keyT_cps, List.all_eq_true]
  intro c hc
  simp at hc
  obtain ⟨k, _, h | h⟩ := hc
  · rw [h.2]; rfl
  · rw [h]; rfl
noncomputable def wsC (a : Ad) (x : Str) (c : C4) : V := .obj a.WS [.str x, .int c.n, .int c.nt, .tup [.tup ((form c).map .int), .int 0], .bool (decide (((form c).length : Int) ≤ 1))]
theorem ws_run (a : Ad) (ks : List Nat) (hk : ∀ k ∈ ks, k < 4) (hn : ks.length ≤ 100) (σ : Hp) : Whitespace a [.str (keyT ks)] σ = some (wsC a (keyT ks) (C4.of ks), σ) := by
  unfold Whitespace
  simp only
  rw [if_pos (keyT_asc ks hk hn)]
  simp [wsV, wsL, scan_keyT ks hk, wsC]
theorem keyT_nil : keyT [] = Str.ofString "" := by decide +kernel
theorem joinOk_keys (ks : List Nat) (hk : ∀ k ∈ ks, k < 4) (hn : ks.length ≤ 100) : JoinOk (Str.ofString "") (ks.map keyS) = true := by
  have hl : (Str.ofString "").length = 0 := by decide +kernel
  have : ∀ (ks : List Nat) (x : Nat), (∀ k ∈ ks, k < 4) → List.foldl (fun (acc : Nat) (s : Str) => acc + s.length + (Str.ofString "").length) x (ks.map keyS) ≤ x + 4 * ks.length := by
    intro ks
    induction ks with
    | nil => intro x _; simp
    | cons k ks ih =>
      intro x hk
      have hk0 := hk k (by simp)
      have hs : (keyS k).length = k + 1 := by
        have : (keyS k).length = (keyS k).cps.toList.length := by simp [Str.length]
        rw [this, keyS_cps]; simp
      have := ih (x + (keyS k).length + (Str.ofString "").length) fun j hj => hk j (by simp [hj])
      simp only [List.map_cons, List.foldl_cons, List.length_cons]
      rw [hs, hl] at this ⊢
      omega
  have := this ks 0 hk
  simp only [JoinOk, PySem.Builtin.Str.tooLong, sizeLine]
  simp
  simp at this
  omega
end Mine
namespace Mine
open PySem PySem.Spec PySem.Calls PyProof.Rows PySem.W
theorem rngL_nil {a b : Int} (h : b ≤ a) : rngL a b = [] := by
  have : (b - a).toNat = 0 := by omega
  simp [rngL, this]
theorem rngL_cons {a b : Int} (h : a < b) : rngL a b = .int a :: rngL (a + 1) b := by
  obtain ⟨n, hn⟩ : ∃ n, (b - a).toNat = n + 1 := ⟨(b - a).toNat - 1, by omega⟩
  have h2 : (b - (a + 1)).toNat = n := by omega
  unfold rngL
  rw [hn, h2, List.range_succ_eq_map]
  simp
  intro x _
  omega
noncomputable def lev (s : Nat) (c : C4) : Nat := match s with
  | 1 => c.n
  | 2 => 2 * (c.c0 + c.c1 + 2 * c.c2 + 2 * c.c3)
  | 3 => 3 * (c.c0 + c.c1 + c.c2 + 2 * c.c3)
  | 4 => 4 * c.nt
  | _ => 5 * c.nt
theorem s5 {s : Nat} (h : 1 ≤ s ∧ s ≤ 5) : s = 1 ∨ s = 2 ∨ s = 3 ∨ s = 4 ∨ s = 5 := by omega
noncomputable def lsum (s : Nat) : Nat → List Int → Int
  | _, [] => 0
  | i, x :: r => (i / s : Nat) * x + lsum s (i + 1) r
theorem div_nat {s i : Nat} (h : 1 ≤ s ∧ s ≤ 5) : divI i s = some (.int ((i / s : Nat) : Int)) := by
  have h1 : okI (s : Int) = true := okI_nat s (by omega)
  have h2 : ((s : Int) != 0) = true := by simp; omega
  have h3 : ((i : Int).fdiv s) = ((i / s : Nat) : Int) := by rw [Int.fdiv_eq_ediv_of_nonneg _ (by omega)]; simp
  unfold divI
  rw [h1, h2, h3]; rfl
theorem mul_nat {k : Nat} (h : k ≤ 1000) (x : Int) (σ : Hp) : mulF [.int k, .int x] σ = some (.int (k * x), σ) := by
  show int2 mulI [.int k, .int x] σ = _
  rw [int2_e, mulI, if_pos (okI_nat k (by omega))]
theorem idx_int {f : List Int} {i : Nat} {x : Int} (hi : f[i]? = some x) (hl : i < 5) (σ : Hp) : idxF [.tup (f.map .int), .int i] σ = some (.int x, σ) := by
  have hlt : i < (f.map V.int).length := by have := (List.getElem?_eq_some_iff.mp hi).1; simpa using this
  have h2 : (f.map V.int)[i]? = some (.int x) := by rw [List.getElem?_map, hi]; rfl
  unfold idxF
  simp only [okI_nat i (by omega), if_true, ixOf_nat i _ hlt, h2]
theorem lvl_step (a : Ad) (S T : V) {s i : Nat} (h : 1 ≤ s ∧ s ≤ 5) (f : List Int) (x il : Int) (hi : f[i]? = some x) (hl : i < 5) (σ : Hp) :
    ws_level_b0 a [some S, some (.int s), some (.tup (f.map .int)), some T, some (.int il), some (.int i)] σ = some (.next, [some S, some (.int s), some (.tup (f.map .int)), some T, some (.int (il + (i / s : Nat) * x)), some (.int i)], σ) := by
  have h5 : i / s ≤ i := Nat.div_le_self i s
  refine seq_go (loc₁ := [some S, some (.int s), some (.tup (f.map .int)), some T, some (.int (il + (i / s : Nat) * x)), some (.int i)]) (σ₁ := σ) ?_ rfl
  simp only [asgS_e, op2_e, nmE_e, List.getElem?_cons_succ, List.getElem?_cons_zero, int2_e, div_nat h, idx_int hi hl, mul_nat (show i / s ≤ 1000 by omega), addF_int]
  rfl
theorem lvl_loop (a : Ad) (S T : V) {s : Nat} (h : 1 ≤ s ∧ s ≤ 5) (f : List Int) (σ : Hp) : ∀ (g : List Int) (i : Nat) (il : Int) (t : Option V), f.drop i = g → f.length ≤ 4 → ∃ t',
    forL (nmA 5) (ws_level_b0 a) (rngL i (i + g.length)) [some S, some (.int s), some (.tup (f.map .int)), some T, some (.int il), t] σ = some (.next, [some S, some (.int s), some (.tup (f.map .int)), some T, some (.int (il + lsum s i g)), t'], σ) := by
  intro g
  induction g with
  | nil => intro i il t _ _; exact ⟨t, by rw [rngL_nil (by simp), for_nil]; simp [lsum]⟩
  | cons x g ih =>
    intro i il t hd h4
    have hi : f[i]? = some x := by have := congrArg (·[0]?) hd; simpa using this
    have hlt := (List.getElem?_eq_some_iff.mp hi).1
    obtain ⟨t', ih⟩ := ih (i + 1) (il + (i / s : Nat) * x) (some (.int i)) (by rw [← List.drop_drop, hd]; rfl) h4
    refine ⟨t', ?_⟩
    rw [rngL_cons (by simp; omega)]
    have e1 : ((i : Int) + ((x :: g).length : Nat)) = ((i + 1 : Nat) : Int) + (g.length : Nat) := by simp; omega
    rw [e1, show ((i : Int) + 1) = ((i + 1 : Nat) : Int) by simp]
    rw [lsum, ← Int.add_assoc]
    exact for_step (loc₁ := [some S, some (.int s), some (.tup (f.map .int)), some T, some (.int il), some (.int i)]) rfl (lvl_step a S T h f x il hi (by omega) σ) ih
theorem form_len (c : C4) : (form c).length = if 0 < c.c3 then 4 else if 0 < c.c2 then 3 else if 0 < c.c1 then 2 else if 0 < c.c0 then 1 else 0 := by
  unfold form; repeat' split
  all_goals rfl
theorem lvl_lev (c : C4) {s : Nat} (h : 1 ≤ s ∧ s ≤ 5) : (s : Int) * (lsum s s ((form c).drop s) + c.nt) = lev s c := by
  obtain ⟨c0, c1, c2, c3⟩ := c
  unfold form
  rcases s5 h with rfl | rfl | rfl | rfl | rfl <;> (repeat' split) <;> simp only [List.drop, lsum, lev, C4.n, C4.nt] at * <;> omega
theorem wat_nt (a : Ad) (x : Str) (c : C4) (σ : Hp) : atF a.WS 2 [wsC a x c] σ = some (.int c.nt, σ) := by simp [atF, attrs?, wsC, V.notG]
theorem wat_norm (a : Ad) (x : Str) (c : C4) (σ : Hp) : atF a.WS 3 [wsC a x c] σ = some (.tup [.tup ((form c).map .int), .int 0], σ) := by simp [atF, attrs?, wsC, V.notG]
theorem level_run (a : Ad) (x : Str) (c : C4) {s : Nat} (h : 1 ≤ s ∧ s ≤ 5) (σ : Hp) : ws_level a [wsC a x c, .int s] σ = some (.int (lev s c), σ) := by
  have hf : (form c).length ≤ 4 := by rw [form_len]; repeat' split
                                      all_goals omega
  obtain ⟨t', e⟩ := lvl_loop a (wsC a x c) (.int 0) h (form c) σ ((form c).drop s) s 0 none rfl hf
  have e2 : rngL (s : Int) ((s : Int) + (((form c).drop s).length : Nat)) = rngL s (form c).length := by
    by_cases hs : s ≤ (form c).length
    · congr 1; rw [List.length_drop]; omega
    · rw [rngL_nil (by simp; omega), rngL_nil (by omega)]
  rw [e2, Int.zero_add] at e
  have hb : Nat.ble ((form c).map V.int).length lmax = true := ble_lmax _ (by simp; omega)
  unfold ws_level fnF
  rw [if_pos (by rfl)]
  show (match ws_level_sh a [some (wsC a x c), some (.int s), none, none, none, none] σ with
      | some (.ret v, _, σ') => some (v, σ')
      | some (.next, _, σ') => some (V.none, σ')
      | _ => none) = _
  simp only [ws_level_sh]
  rw [seq_go (loc₁ := [some (wsC a x c), some (.int s), some (.tup ((form c).map .int)), some (.int 0), none, none]) (σ₁ := σ) (by rw [asgT_e, op1_e, nmE_e]; simp only [List.getElem?_cons_zero, wat_norm]; rfl) rfl]
  rw [seq_go (loc₁ := [some (wsC a x c), some (.int s), some (.tup ((form c).map .int)), some (.int 0), some (.int 0), none]) (σ₁ := σ) rfl rfl]
  rw [seq_go (forS_go (v := .rng s ((form c).map V.int).length) (σ₁ := σ) (by simp only [callE_e, argsE_cons, nmE_e, List.getElem?_cons_succ, List.getElem?_cons_zero, argsE_nil, lenF_tup, hb, if_true, rngF2]) (srcOf_rng (by omega) (by simp; omega)) (by rw [List.length_map]; exact e)) rfl]
  simp only [giveBack, seqS_e, retS_e, op2_e, op1_e, nmE_e, List.getElem?_cons_succ, List.getElem?_cons_zero, wat_nt, addF_int, mul_nat (show s ≤ 1000 by omega), Int.zero_add, lvl_lev c h]
noncomputable def mxl (c : C4) : Nat := (form c).length - 1
theorem longest_run (a : Ad) (x : Str) (c : C4) (σ : Hp) : ws_longest a [wsC a x c] σ = some (.int (mxl c), σ) := by
  obtain ⟨c0, c1, c2, c3⟩ := c
  have := form_len ⟨c0, c1, c2, c3⟩
  unfold wsC mxl
  generalize form ⟨c0, c1, c2, c3⟩ = f at this ⊢
  have hl : f.length ≤ 4 := by rw [this]; repeat' split
                               all_goals omega
  have h2 : f.length ≤ lmax := by unfold lmax; omega
  simp [ws_longest, fnF, ws_longest_sh, locOf, atF, attrs?, V.notG, h2]
  have : (if (0 : Int) > (f.length : Int) - 1 then (0 : Int) else (f.length : Int) - 1) = ((f.length - 1 : Nat) : Int) := by split <;> omega
  simp at this
  rw [this]
noncomputable def ltC (c d : C4) : Bool := decide (lev 1 c < lev 1 d) && decide (lev 2 c < lev 2 d) && decide (lev 3 c < lev 3 d) && decide (lev 4 c < lev 4 d) && decide (lev 5 c < lev 5 d)
theorem chk_ws (a : Ad) (x : Str) (c : C4) (σ : Hp) : chkI a.WS σ (wsC a x c) = true := by simp [chkI, attrs?, wsC]
theorem wat_n (a : Ad) (x : Str) (c : C4) (σ : Hp) : atF a.WS 1 [wsC a x c] σ = some (.int c.n, σ) := by simp [atF, attrs?, wsC, V.notG]
theorem wat_simple (a : Ad) (x : Str) (c : C4) (σ : Hp) : atF a.WS 4 [wsC a x c] σ = some (.bool (decide (((form c).length : Int) ≤ 1)), σ) := by simp [atF, attrs?, wsC, V.notG]
theorem less_step (a : Ad) (x y : Str) (c d : C4) (n : Option V) {s : Nat} (h : 1 ≤ s ∧ s ≤ 5) (σ : Hp) : ws_less_b0 a [some (wsC a x c), some (wsC a y d), n, some (.int s)] σ
    = some (if lev s d ≤ lev s c then .ret (.bool false) else .next, [some (wsC a x c), some (wsC a y d), n, some (.int s)], σ) := by
  simp [ws_less_b0, chk_ws, level_run a x c h, level_run a y d h]
  by_cases hb : lev s d ≤ lev s c <;> simp [hb]
theorem less_loop (a : Ad) (x y : Str) (c d : C4) (n : Option V) (σ : Hp) : ∀ (ss : List Nat) (t : Option V), (∀ s ∈ ss, 1 ≤ s ∧ s ≤ 5) → ∃ t',
    forL (nmA 3) (ws_less_b0 a) (ss.map fun (s : Nat) => .int s) [some (wsC a x c), some (wsC a y d), n, t] σ = some (if ss.all (fun s => decide (lev s c < lev s d)) then .next else .ret (.bool false), [some (wsC a x c), some (wsC a y d), n, t'], σ) := by
  intro ss
  induction ss with
  | nil => intro t _; exact ⟨t, rfl⟩
  | cons s ss ih =>
    intro t h
    have hs := h s (by simp)
    obtain ⟨t', ih⟩ := ih (some (.int s)) fun j hj => h j (by simp [hj])
    by_cases hb : lev s d ≤ lev s c
    · refine ⟨some (.int s), ?_⟩
      have hb2 : ¬ lev s c < lev s d := by omega
      simp [forL, less_step a x y c d n hs, hb, hb2]
    · refine ⟨t', ?_⟩
      have hb2 : lev s c < lev s d := by omega
      simp [forL, less_step a x y c d n hs, hb, hb2, ih]
theorem all1 (c d : C4) (h1 : c.n < d.n) (e0 : c.c2 = 0) (e1 : c.c3 = 0) (e2 : d.c2 = 0) (e3 : d.c3 = 0) : [2].all (fun s => decide (lev s c < lev s d)) = ltC c d := by
  obtain ⟨x0, x1, x2, x3⟩ := c
  obtain ⟨y0, y1, y2, y3⟩ := d
  simp only at e0 e1 e2 e3
  subst e0 e1 e2 e3
  simp only [ltC, List.all_cons, List.all_nil, lev, C4.n, C4.nt] at *
  rw [Bool.eq_iff_iff]
  simp
  omega
theorem all2 (c d : C4) (h1 : c.n < d.n) (e1 : c.c3 = 0) (e3 : d.c3 = 0) : [2, 3].all (fun s => decide (lev s c < lev s d)) = ltC c d := by
  obtain ⟨x0, x1, x2, x3⟩ := c
  obtain ⟨y0, y1, y2, y3⟩ := d
  simp only at e1 e3
  subst e1 e3
  simp only [ltC, List.all_cons, List.all_nil, lev, C4.n, C4.nt] at *
  rw [Bool.eq_iff_iff]
  simp
  omega
theorem all3 (c d : C4) (h1 : c.n < d.n) : [2, 3, 4].all (fun s => decide (lev s c < lev s d)) = ltC c d := by
  obtain ⟨x0, x1, x2, x3⟩ := c
  obtain ⟨y0, y1, y2, y3⟩ := d
  simp only [ltC, List.all_cons, List.all_nil, lev, C4.n, C4.nt] at *
  rw [Bool.eq_iff_iff]
  simp
  omega
theorem mxl_le (c : C4) : mxl c ≤ 3 ∧ (mxl c ≤ 2 → c.c3 = 0) ∧ (mxl c ≤ 1 → c.c3 = 0 ∧ c.c2 = 0) ∧ (mxl c = 0 → (form c).length ≤ 1) := by
  have := form_len c
  unfold mxl
  repeat' split at this
  all_goals (rw [this]; omega)
theorem less_end (a : Ad) (x y : Str) (c d : C4) (σ : Hp) (L : Nat) (hL : L ≤ 3) (ss : List Nat) (h5 : ∀ s ∈ ss, 1 ≤ s ∧ s ≤ 5) (h6 : rngL 2 ((L : Int) + 1 + 1) = ss.map (fun (s : Nat) => V.int s)) (h7 : ss.all (fun s => decide (lev s c < lev s d)) = ltC c d) :
    (match seqS (forS (nmA 3) (ws_less_b0 a) (callE rngF [kE (.int 2), op2 addF (nmE 2) (kE (.int 1))])) (seqS (retS (kE (.bool true))) nilS) [some (wsC a x c), some (wsC a y d), some (.int ((L : Int) + 1)), none] σ with
      | some (.ret v, _, σ') => some (v, σ')
      | some (.next, _, σ') => some (V.none, σ')
      | _ => none) = some (V.bool (ltC c d), σ) := by
  obtain ⟨t, e⟩ := less_loop a x y c d (some (.int ((L : Int) + 1))) σ ss none h5
  have hs : srcOf σ (.rng 2 ((L : Int) + 1 + 1)) = some (ss.map (fun (s : Nat) => V.int s), none) := by
    rw [srcOf_rng (by omega) (by omega), h6]
  rw [h7] at e
  clear h7 h5 h6
  generalize ltC c d = b at e ⊢
  generalize ws_less_b0 a = B at e ⊢
  generalize ss.map (fun (s : Nat) => V.int s) = ws at e hs
  have hf : forS (nmA 3) B (callE rngF [kE (.int 2), op2 addF (nmE 2) (kE (.int 1))]) [some (wsC a x c), some (wsC a y d), some (.int ((L : Int) + 1)), none] σ = some (if b = true then .next else .ret (.bool false), [some (wsC a x c), some (wsC a y d), some (.int ((L : Int) + 1)), t], σ) := by
    exact forS_go rfl hs e
  cases b
  · rw [seqS_e, hf]; rfl
  · rw [seq_go hf rfl]; rfl
theorem less_run (a : Ad) (x y : Str) (c d : C4) (σ : Hp) : ws_less a [wsC a x c, wsC a y d] σ = some (.bool (ltC c d), σ) := by
  have fc := form_len c
  have fd := form_len d
  unfold ws_less fnF
  rw [if_pos (by rfl)]
  simp only [ws_less_sh]
  by_cases h1 : d.n ≤ c.n
  · have : ltC c d = false := by
      have : ¬ lev 1 c < lev 1 d := by simp only [lev]; omega
      simp [ltC, this]
    rw [this]
    simp [locOf, wat_n, h1]
  · rw [seq_go (loc₁ := [some (wsC a x c), some (wsC a y d), none, none]) (σ₁ := σ) (by simp [locOf, wat_n, h1]) rfl]
    by_cases h2 : (form c).length ≤ 1 ∧ (form d).length ≤ 1
    · obtain ⟨h2, h3⟩ := h2
      have hc : c.c1 = 0 ∧ c.c2 = 0 ∧ c.c3 = 0 := by rw [fc] at h2; (repeat' split at h2) <;> omega
      have hd : d.c1 = 0 ∧ d.c2 = 0 ∧ d.c3 = 0 := by rw [fd] at h3; (repeat' split at h3) <;> omega
      have i2 : ((form c).length : Int) ≤ 1 := by omega
      have i3 : ((form d).length : Int) ≤ 1 := by omega
      have hnt : c.nt ≤ d.nt := by simp only [C4.n, C4.nt] at *; omega
      have : ltC c d = true := by simp [ltC, lev, C4.n, C4.nt] at *; omega
      rw [this]
      simp [allT, wat_simple, wat_nt, i2, i3, h2, h3, hnt]
    · rw [seq_go (p := ifS _ _ _) (loc₁ := [some (wsC a x c), some (wsC a y d), none, none]) (σ₁ := σ) (by
        by_cases h3 : (form c).length ≤ 1
        · have h4 : ¬ (form d).length ≤ 1 := fun z => h2 ⟨h3, z⟩
          have i3 : ((form c).length : Int) ≤ 1 := by omega
          have i4 : ¬ ((form d).length : Int) ≤ 1 := by omega
          simp [allT, wat_simple, i3, i4, h3, h4]
        · have i3 : ¬ ((form c).length : Int) ≤ 1 := by omega
          simp [allT, wat_simple, i3, h3]) rfl]
      obtain ⟨L, hm, l1, l2⟩ : ∃ L : Nat, (if (mxl d : Int) > (mxl c : Int) then (mxl d : Int) else (mxl c : Int)) = (L : Int) ∧ mxl c ≤ L ∧ mxl d ≤ L := ⟨max (mxl c) (mxl d), by split <;> omega, by omega, by omega⟩
      obtain ⟨m1, m2, m3, m4⟩ := mxl_le c
      obtain ⟨n1, n2, n3, n4⟩ := mxl_le d
      have hL : L = 1 ∨ L = 2 ∨ L = 3 := by
        have : L ≠ 0 := fun z => h2 ⟨m4 (by omega), n4 (by omega)⟩
        have : L ≤ 3 := by split at hm <;> omega
        omega
      have h1' : c.n < d.n := by omega
      rw [seq_go (loc₁ := [some (wsC a x c), some (wsC a y d), some (.int ((L : Int) + 1)), none]) (σ₁ := σ) (by simp [chk_ws, longest_run, ← hm]) rfl]
      rcases hL with rfl | rfl | rfl
      · exact less_end a x y c d σ 1 (by omega) [2] (by simp) (by simp [rngL_cons, rngL_nil]) (all1 c d h1' (m3 l1).2 (m3 l1).1 (n3 l2).2 (n3 l2).1)
      · exact less_end a x y c d σ 2 (by omega) [2, 3] (by simp) (by simp [rngL_cons, rngL_nil]) (all2 c d h1' (m2 l1) (n2 l2))
      · exact less_end a x y c d σ 3 (by omega) [2, 3, 4] (by simp) (by simp [rngL_cons, rngL_nil]) (all3 c d h1')
theorem depth_ints : ∀ l : List Int, PyData.depthAll (l.map .int) = 0 := by
  intro l
  induction l with
  | nil => rfl
  | cons i l ih => simp [PyData.depthAll, PyData.depth, ih]
theorem datas_ints : ∀ l : List Int, V.datas (l.map .int) = some (l.map .int) := by
  intro l
  induction l with
  | nil => rfl
  | cons i l ih => simp [V.datas, V.data, ih]
theorem eqvAll_ints : ∀ l m : List Int, PyData.eqvAll (l.map .int) (m.map .int) = decide (l = m) := by
  intro l
  induction l with
  | nil => intro m; cases m <;> simp [PyData.eqvAll]
  | cons i l ih =>
    intro m
    cases m with
    | nil => simp [PyData.eqvAll]
    | cons j m => simp [PyData.eqvAll, ih, PyData.eqv]; by_cases h : i = j <;> simp [h]
theorem equal_run (a : Ad) (x y : Str) (c d : C4) (σ : Hp) : ws_equal a [wsC a x c, wsC a y d] σ = some (.bool (decide (form c = form d)), σ) := by
  have : eqF false [.tup [.tup ((form c).map .int), .int 0], .tup [.tup ((form d).map .int), .int 0]] σ = some (.bool (decide (form c = form d)), σ) := by
    generalize form c = f
    generalize form d = g
    simp [eqF, V.data, V.datas, datas_ints, PyData.eqv, PyData.eqvAll, eqvAll_ints, PyData.depth, PyData.depthAll, depth_ints]
  simp [ws_equal, fnF, ws_equal_sh, locOf, wat_norm, this]
end Mine
namespace Mine
open PySem PySem.Spec PySem.Calls PyProof.Rows PySem.W
theorem turn_mul (size l q : Nat) (hs : 0 < size) : turnW size l (size * q) = size * (q + (l / size + 1)) := by
  unfold turnW
  have h1 : (size * q + l) % size = l % size := by rw [Nat.mul_add_mod]
  rw [h1]
  have h2 := Nat.div_add_mod l size
  have h3 := Nat.mod_lt l hs
  rw [Nat.mul_add, Nat.mul_add, Nat.mul_one]
  omega
theorem rep_mul (size l : Nat) (hs : 0 < size) : ∀ (n q : Nat), Nat.repeat (turnW size l) n (size * q) = size * (q + n * (l / size + 1)) := by
  intro n
  induction n with
  | zero => intro q; simp [Nat.repeat]
  | succ n ih =>
    intro q
    rw [repeat_front, turn_mul size l q hs, ih]
    congr 1
    rw [Nat.add_mul]; omega
theorem colW_lev (c : C4) {s : Nat} (h : 1 ≤ s ∧ s ≤ 5) : colW s [c.c0, c.c1, c.c2, c.c3] 0 0 = lev s c := by
  rw [colW_eq]
  have r0 := rep_mul s 0 (by omega) c.c0 0
  rw [Nat.mul_zero] at r0
  rw [r0, rep_mul s 1 (by omega), rep_mul s 2 (by omega), rep_mul s 3 (by omega)]
  rcases s5 h with rfl | rfl | rfl | rfl | rfl <;> simp [lev, C4.n, C4.nt] <;> omega
noncomputable def levV (c : C4) : V := .lst [.int (lev 1 c), .int (lev 2 c), .int (lev 3 c), .int (lev 4 c), .int (lev 5 c)]
noncomputable def cntV (c : C4) : List V := [.int c.c0, .int c.c1, .int c.c2, .int c.c3]
theorem cols_spec (a : Ad) (c : C4) (hb : c.nt ≤ 1000) (n : Nat) (σ : Hp) (hn : σ[n]? = some (.lst (cntV c))) : columnsF2 a [.ref n] σ = some (levV c, σ) := by
  unfold C4.nt at hb
  have e : natsOf (cntV c) = some [c.c0, c.c1, c.c2, c.c3] := by
    simp [natsOf, cntV]
    have h0 : c.c0 ≤ 1000 := by omega
    have h1 : c.c1 ≤ 1000 := by omega
    have h2 : c.c2 ≤ 1000 := by omega
    have h3 : c.c3 ≤ 1000 := by omega
    have z0 : ((c.c0 : Int) ≤ 1000) := by omega
    have z1 : ((c.c1 : Int) ≤ 1000) := by omega
    have z2 : ((c.c2 : Int) ≤ 1000) := by omega
    have z3 : ((c.c3 : Int) ≤ 1000) := by omega
    simp [z0, z1, z2, z3]
  simp only [columnsF2, hn, cntV]
  unfold cntV at e
  rw [e]
  simp only [cols2, List.map_cons, List.map_nil, levV]
  rw [colW_lev c (by omega), colW_lev c (by omega), colW_lev c (by omega), colW_lev c (by omega), colW_lev c (by omega)]
noncomputable def str3 (x y z : Bool) : Str := (PyData.list [.bool x, .bool y, .bool z]).shown
theorem strF_bools (x y z : Bool) (σ : Hp) : strF [.lst [.bool x, .bool y, .bool z]] σ = some (.str (str3 x y z), σ) := by
  have h : ((PyData.list [.bool x, .bool y, .bool z]).showable && !(PyData.list [.bool x, .bool y, .bool z]).hasDict && Nat.ble (PyData.list [.bool x, .bool y, .bool z]).depth 10 && Nat.ble (PyData.list [.bool x, .bool y, .bool z]).shown.length smax) = true := by
    cases x <;> cases y <;> cases z <;> decide +kernel
  simp only [strF, V.data, V.datas, h, if_true, str3]
noncomputable def tfS (b : Bool) : Str := if b then "True" else "False"
theorem strF_bool (b : Bool) (σ : Hp) : strF [.bool b] σ = some (.str (tfS b), σ) := rfl
theorem three_run (a : Ad) (x y : Str) (c d : C4) (σ : Hp) : threeF2 a [wsC a x c, wsC a y d] σ = some (.str (str3 (ltC c d) (ltC d c) (decide (form c = form d))), σ) := by
  simp [threeF2, fnF, threeF2_sh, locOf, chk_ws, less_run, equal_run, strF_bools]
noncomputable def C4.get (c : C4) (l : Nat) : Nat := match l with | 0 => c.c0 | 1 => c.c1 | 2 => c.c2 | _ => c.c3
noncomputable def C4.put (c : C4) (l v : Nat) : C4 := match l with
  | 0 => ⟨v, c.c1, c.c2, c.c3⟩
  | 1 => ⟨c.c0, v, c.c2, c.c3⟩
  | 2 => ⟨c.c0, c.c1, v, c.c3⟩
  | _ => ⟨c.c0, c.c1, c.c2, v⟩
noncomputable def kstep (kind l : Nat) (ks : List Nat) : List Nat := match kind with
  | 0 => ks ++ [l]
  | 1 => ks.filter (· ≠ l) ++ [l]
  | 2 => if l ∈ ks then ks else ks ++ [l]
  | _ => ks.filter (· ≠ l)
noncomputable def nowOf (kind had : Nat) : Nat := match kind with
  | 0 => had + 1
  | 1 => 1
  | 2 => max had 1
  | _ => 0
theorem of_app (ks : List Nat) (l : Nat) (h : l < 4) : C4.of (ks ++ [l]) = (C4.of ks).put l ((C4.of ks).get l + 1) := by
  rcases lt4 h with rfl | rfl | rfl | rfl <;> simp [C4.of, C4.put, C4.get]
theorem count_filter_ne (ks : List Nat) (l j : Nat) : (ks.filter (· ≠ l)).count j = if j = l then 0 else ks.count j := by
  induction ks with
  | nil => simp
  | cons k ks ih =>
    simp only [ne_eq] at ih
    by_cases hk : k = l
    · subst hk
      by_cases hj : j = k
      · subst hj; simpa using ih
      · have hj2 : ¬ k = j := fun z => hj z.symm
        simp [hj, hj2, List.count_cons] at ih ⊢ <;> try exact ih
    · by_cases hj : j = l
      · subst hj; simp [hk, List.count_cons] at ih ⊢; exact ih
      · simp [hk, hj, List.count_cons] at ih ⊢ <;> try exact ih
theorem of_filter (ks : List Nat) (l : Nat) (h : l < 4) : C4.of (ks.filter (· ≠ l)) = (C4.of ks).put l 0 := by
  unfold C4.of
  rw [count_filter_ne, count_filter_ne, count_filter_ne, count_filter_ne]
  rcases lt4 h with rfl | rfl | rfl | rfl <;> simp [C4.put]
theorem get_count (ks : List Nat) (l : Nat) (h : l < 4) : (C4.of ks).get l = ks.count l := by
  rcases lt4 h with rfl | rfl | rfl | rfl <;> rfl
theorem put_put (c : C4) (l u v : Nat) (h : l < 4) : (c.put l u).put l v = c.put l v := by
  rcases lt4 h with rfl | rfl | rfl | rfl <;> rfl
theorem get_put (c : C4) (l v : Nat) (h : l < 4) : (c.put l v).get l = v := by
  rcases lt4 h with rfl | rfl | rfl | rfl <;> rfl
theorem put_get (c : C4) (l : Nat) (h : l < 4) : c.put l (c.get l) = c := by
  rcases lt4 h with rfl | rfl | rfl | rfl <;> rfl
theorem of_kstep (kind l : Nat) (ks : List Nat) (hk : kind < 4) (h : l < 4) : C4.of (kstep kind l ks) = (C4.of ks).put l (nowOf kind ((C4.of ks).get l)) := by
  rcases lt4 hk with rfl | rfl | rfl | rfl
  · exact of_app ks l h
  · show C4.of (ks.filter (· ≠ l) ++ [l]) = _
    rw [of_app _ l h, of_filter ks l h, put_put _ _ _ _ h, get_put _ _ _ h]; rfl
  · show C4.of (if l ∈ ks then ks else ks ++ [l]) = _
    by_cases hm : l ∈ ks
    · have : 0 < ks.count l := List.count_pos_iff.mpr hm
      have h1 : max ((C4.of ks).get l) 1 = (C4.of ks).get l := by rw [get_count ks l h]; omega
      rw [if_pos hm]
      show C4.of ks = (C4.of ks).put l (max ((C4.of ks).get l) 1)
      rw [h1, put_get _ _ h]
    · have : ks.count l = 0 := List.count_eq_zero.mpr hm
      have h1 : max ((C4.of ks).get l) 1 = (C4.of ks).get l + 1 := by rw [get_count ks l h]; omega
      rw [if_neg hm]
      show C4.of (ks ++ [l]) = (C4.of ks).put l (max ((C4.of ks).get l) 1)
      rw [h1, of_app ks l h]
  · exact of_filter ks l h
theorem kstep_lt (kind l : Nat) (ks : List Nat) (hk : ∀ k ∈ ks, k < 4) (h : l < 4) : ∀ k ∈ kstep kind l ks, k < 4 := by
  intro k hm
  unfold kstep at hm
  split at hm
  · simp at hm; rcases hm with hm | rfl; exact hk k hm; exact h
  · simp at hm; rcases hm with hm | rfl; exact hk k hm.1; exact h
  · split at hm
    · exact hk k hm
    · simp at hm; rcases hm with hm | rfl; exact hk k hm; exact h
  · simp at hm; exact hk k hm.1
theorem kstep_len (kind l : Nat) (ks : List Nat) : (kstep kind l ks).length ≤ ks.length + 1 := by
  have := List.length_filter_le (fun x => decide (x ≠ l)) ks
  unfold kstep
  split
  · simp
  · simp at this ⊢; omega
  · split <;> simp
  · simp at this ⊢; omega
theorem form_inj (c d : C4) (h : form c = form d) : c = d := by
  obtain ⟨x0, x1, x2, x3⟩ := c
  obtain ⟨y0, y1, y2, y3⟩ := d
  unfold form at h
  (repeat' split at h) <;> simp at h ⊢ <;> simp_all <;> omega
theorem form_eq (c d : C4) : decide (form c = form d) = decide (lev 1 c = lev 1 d ∧ lev 2 c = lev 2 d ∧ lev 3 c = lev 3 d ∧ lev 4 c = lev 4 d ∧ lev 5 c = lev 5 d) := by
  apply decide_eq_decide.mpr
  constructor
  · intro h; rw [form_inj c d h]; simp
  · intro h
    have : c = d := by
      obtain ⟨x0, x1, x2, x3⟩ := c
      obtain ⟨y0, y1, y2, y3⟩ := d
      simp only [lev, C4.n, C4.nt] at h
      obtain ⟨h1, h2, h3, h4, h5⟩ := h
      have e0 : x0 = y0 := by omega
      have e1 : x1 = y1 := by omega
      have e2 : x2 = y2 := by omega
      have e3 : x3 = y3 := by omega
      rw [e0, e1, e2, e3]
    rw [this]
noncomputable def wOf (s l : Nat) : Nat := s * (l / s + 1)
theorem lev_lin (c : C4) {s : Nat} (h : 1 ≤ s ∧ s ≤ 5) : lev s c = wOf s 0 * c.c0 + wOf s 1 * c.c1 + wOf s 2 * c.c2 + wOf s 3 * c.c3 := by
  rcases s5 h with rfl | rfl | rfl | rfl | rfl <;> simp only [lev, C4.n, C4.nt, wOf] <;> omega
theorem lev_put (c : C4) {s l : Nat} (v : Nat) (h : 1 ≤ s ∧ s ≤ 5) (hl : l < 4) : ∃ k, 0 < k ∧ lev s (c.put l v) + k * c.get l = lev s c + k * v := by
  refine ⟨wOf s l, Nat.mul_pos (by omega) (Nat.succ_pos (l / s)), ?_⟩
  rw [lev_lin c h, lev_lin _ h]
  generalize wOf s = w
  rcases lt4 hl with rfl | rfl | rfl | rfl <;> simp only [C4.put, C4.get] <;> omega
theorem lt_iff (c : C4) {s l : Nat} (v : Nat) (h : 1 ≤ s ∧ s ≤ 5) (hl : l < 4) : decide (lev s c < lev s (c.put l v)) = decide (v > c.get l) ∧ decide (lev s (c.put l v) < lev s c) = decide (v < c.get l) := by
  obtain ⟨k, hk, e⟩ := lev_put c v h hl
  have a1 : k * c.get l < k * v ↔ c.get l < v := Nat.mul_lt_mul_left hk
  have a2 : k * v < k * c.get l ↔ v < c.get l := Nat.mul_lt_mul_left hk
  exact ⟨decide_eq_decide.mpr (Iff.trans (by omega) a1), decide_eq_decide.mpr (Iff.trans (by omega) a2)⟩
theorem lt_put (c : C4) (l v : Nat) (h : l < 4) : ltC c (c.put l v) = decide (v > c.get l) ∧ ltC (c.put l v) c = decide (v < c.get l) ∧ decide (form c = form (c.put l v)) = decide (v = c.get l) := by
  refine ⟨?_, ?_, ?_⟩
  · simp only [ltC, (lt_iff c v ⟨by omega, by omega⟩ h : decide (lev 1 c < _) = _ ∧ _).1, (lt_iff c v ⟨by omega, by omega⟩ h : decide (lev 2 c < _) = _ ∧ _).1, (lt_iff c v ⟨by omega, by omega⟩ h : decide (lev 3 c < _) = _ ∧ _).1, (lt_iff c v ⟨by omega, by omega⟩ h : decide (lev 4 c < _) = _ ∧ _).1, (lt_iff c v ⟨by omega, by omega⟩ h : decide (lev 5 c < _) = _ ∧ _).1, Bool.and_self]
  · simp only [ltC, (lt_iff c v ⟨by omega, by omega⟩ h : decide (lev 1 c < _) = _ ∧ _).2, (lt_iff c v ⟨by omega, by omega⟩ h : decide (lev 2 c < _) = _ ∧ _).2, (lt_iff c v ⟨by omega, by omega⟩ h : decide (lev 3 c < _) = _ ∧ _).2, (lt_iff c v ⟨by omega, by omega⟩ h : decide (lev 4 c < _) = _ ∧ _).2, (lt_iff c v ⟨by omega, by omega⟩ h : decide (lev 5 c < _) = _ ∧ _).2, Bool.and_self]
  · refine decide_eq_decide.mpr ⟨fun e => ?_, fun e => ?_⟩
    · have := congrArg (C4.get · l) (form_inj _ _ e)
      rw [get_put _ _ _ h] at this
      exact this.symm
    · subst e
      rw [put_get c l h]
end Mine
namespace Mine
open PySem PySem.Spec PySem.Calls PyProof.Rows PySem.W
theorem ops_run (a : Ad) (hpv : Nat.beq a.pV a.pN = false) {σ : Hp} {self : V} {m : Nat} {ks : List Nat} {l kind : Nat} (h : hdrs a σ self = some (m, hdV ks)) (hne : ∀ C n, self = .inst C n → n ≠ m) (hk : ∀ k ∈ ks, k < 4) (hl : l < 4) (hn : ks.length ≤ 1000) (hkind : kind < 4)
    (loc : Loc) (e5 : loc[5]? = some (some (.int kind))) (e7 : loc[7]? = some (some self)) (e8 : loc[8]? = some (some (.str (bl l)))) (q : SS) :
    seqS (ifS (cmT (op2 (eqF false) (nmE 5) (kE (.int 0)))) (seqS (exprS (methE (chkI a.HD) (hd_addh a) (nmE 7) [nmE 8, kE .none])) (nilS)) (nilS)) (seqS (ifS (cmT (op2 (eqF false) (nmE 5) (kE (.int 1)))) (seqS (asgT (stM a.HD (hd_setitem a) (nmE 7) (nmE 8)) (kE (.str ""))) (nilS)) (nilS)) (seqS (ifS (cmT (op2 (eqF false) (nmE 5) (kE (.int 2)))) (seqS (exprS (methE (chkI a.HD) (hd_setdefault a) (nmE 7) [nmE 8, kE (.str "")])) (nilS)) (nilS)) (seqS (ifS (cmT (op2 (eqF false) (nmE 5) (kE (.int 3)))) (seqS (delS a.HD (hd_delitem a) (nmE 7) (nmE 8)) (nilS)) (nilS)) q)))
      loc σ = q loc (σ.set m (.lst (hdV (kstep kind l ks)))) := by
  obtain ⟨g1, g2, g3⟩ := hdrs_atF h
  have hno : ∀ (i j : Nat) (s : SS) (τ : Hp), loc[5]? = some (some (.int i)) → i ≠ j → ifS (cmT (op2 (eqF false) (nmE 5) (kE (.int j)))) s nilS loc τ = some (.next, loc, τ) := by
    intro i j s τ e ne
    have : ((i : Int) == (j : Int)) = false := beq_eq_false_iff_ne.mpr (by omega)
    simp [e, eqF_int, this]
  have hyes : ∀ (i : Nat) (s : SS) (τ : Hp), loc[5]? = some (some (.int i)) → ifS (cmT (op2 (eqF false) (nmE 5) (kE (.int i)))) s nilS loc τ = s loc τ := by
    intro i s τ e
    simp [e, eqF_int]
  rcases lt4 hkind with rfl | rfl | rfl | rfl
  · have ha : hd_addh a [self, .str (bl l), .none] σ = some (.none, σ.set m (.lst (hdV (ks ++ [l])))) := by
      have hb : Nat.ble (hdV ks).length lmax = true := ble_lmax _ (by simp [hdV]; omega)
      simp only [hd_addh, h, bl_good hl, addTo, hb, if_true, hdV_app]
    refine seq_go (loc₁ := loc) (σ₁ := σ.set m (.lst (hdV (ks ++ [l])))) ?_ ?_
    · exact (hyes 0 _ _ e5).trans (by simp [e7, e8, g2, ha])
    · exact seq_go (hno 0 1 _ _ e5 (by decide)) (seq_go (hno 0 2 _ _ e5 (by decide)) (seq_go (hno 0 3 _ _ e5 (by decide)) rfl))
  · have ha := set_run a hpv h hne hk hl hn
    refine seq_go (hno 1 0 _ _ e5 (by decide)) (seq_go (loc₁ := loc) (σ₁ := σ.set m (.lst (hdV (ks.filter (· ≠ l) ++ [l])))) ?_ ?_)
    · refine (hyes 1 _ _ e5).trans ?_
      simp at ha
      simp [stM, e7, e8, g2, ha]
    · exact seq_go (hno 1 2 _ _ e5 (by decide)) (seq_go (hno 1 3 _ _ e5 (by decide)) rfl)
  · have ha := sdef_run a hpv h hk hl hn
    have e2 : (if l ∈ ks then σ else σ.set m (.lst (hdV (ks ++ [l])))) = σ.set m (.lst (hdV (kstep 2 l ks))) := by
      show _ = σ.set m (.lst (hdV (if l ∈ ks then ks else ks ++ [l])))
      by_cases hm : l ∈ ks
      · rw [if_pos hm, if_pos hm, set_same g3]
      · rw [if_neg hm, if_neg hm]
    rw [e2] at ha
    refine seq_go (hno 2 0 _ _ e5 (by decide)) (seq_go (hno 2 1 _ _ e5 (by decide)) (seq_go (loc₁ := loc) (σ₁ := σ.set m (.lst (hdV (kstep 2 l ks)))) ?_ ?_))
    · exact (hyes 2 _ _ e5).trans (by simp [e7, e8, g2, ha])
    · exact seq_go (hno 2 3 _ _ e5 (by decide)) rfl
  · have ha := del_run a h hk hl hn
    refine seq_go (hno 3 0 _ _ e5 (by decide)) (seq_go (hno 3 1 _ _ e5 (by decide)) (seq_go (hno 3 2 _ _ e5 (by decide)) (seq_go (loc₁ := loc) (σ₁ := σ.set m (.lst (hdV (ks.filter (· ≠ l))))) ?_ rfl)))
    refine (hyes 3 _ _ e5).trans ?_
    simp at ha
    simp [delS, e7, e8, g2, ha]
end Mine
namespace Mine
open PySem PySem.Spec PySem.Calls PyProof.Rows PySem.W
noncomputable abbrev Wk (a : Ad) (ks : List Nat) : V := wsC a (keyT ks) (C4.of ks)
noncomputable def itemS (c : C4) : V := .tup [.int c.n, .int c.nt, .tup [.tup ((form c).map .int), .int 0], .str (tfS (decide (((form c).length : Int) ≤ 1))), levV c]
noncomputable def rowS (c c' d : C4) : V := .tup [itemS c', .str (str3 (ltC c c') (ltC c' c) (decide (form c = form c'))), .str (str3 (ltC c' d) (ltC d c') (decide (form c' = form d)))]
theorem keyc_cmp : ∀ (ks : List Nat) (loc : Loc) (τ : Hp), loc.length = 16 → (∀ k ∈ ks, k < 4) →
    cmpL (nmA 14) ttT (op2 addF (nmE 14) (kE (.str "\t"))) (ks.map fun k => .str (bl k)) loc τ = some (ks.map fun k => .str (keyS k), τ) := by
  intro ks
  induction ks with
  | nil => intro loc τ _ _; rfl
  | cons k ks ih =>
    intro loc τ hl hk
    have hk0 := hk k (by simp)
    have ih := ih (loc.set 14 (some (.str (bl k)))) τ (by simpa using hl) fun j hj => hk j (by simp [hj])
    have ht : (Str.ofString "\t").length = 1 := by decide +kernel
    have hb : k + 1 ≤ smax := by unfold smax; omega
    simp [cmpL, hl, bl_len, ht, hb, ih, keyS]
theorem strsOf_keys : ∀ ks : List Nat, strsOf (ks.map fun k => .str (keyS k)) = some (ks.map keyS) := by
  intro ks
  induction ks with
  | nil => rfl
  | cons k ks ih => simp [strsOf, ih]
theorem lev_cmp (a : Ad) (ks : List Nat) (pre : List (Option V)) (h11 : pre.length = 11) (t12 t13 t14 : Option V) (τ : Hp) : ∀ (ss : List Nat) (t15 : Option V), (∀ s ∈ ss, 1 ≤ s ∧ s ≤ 5) →
    cmpL (nmA 15) ttT (methE (chkI a.WS) (ws_level a) (nmE 11) [nmE 15]) (ss.map fun (s : Nat) => .int s) (pre ++ [some (Wk a ks), t12, t13, t14, t15]) τ = some (ss.map fun s => .int (lev s (C4.of ks)), τ) := by
  intro ss
  induction ss with
  | nil => intro t15 _; rfl
  | cons s ss ih =>
    intro t15 h
    have ih := ih (some (.int s)) fun j hj => h j (by simp [hj])
    have e1 : (pre ++ [some (Wk a ks), t12, t13, t14, t15]).set 15 (some (.int s)) = pre ++ [some (Wk a ks), t12, t13, t14, some (.int s)] := by
      rw [List.set_append_right _ _ (by omega), h11]; rfl
    have e2 : (pre ++ [some (Wk a ks), t12, t13, t14, some (.int s)])[11]? = some (some (Wk a ks)) := by
      rw [List.getElem?_append_right (by omega), h11]; rfl
    have e3 : (pre ++ [some (Wk a ks), t12, t13, t14, some (.int s)])[15]? = some (some (.int s)) := by
      rw [List.getElem?_append_right (by omega), h11]; rfl
    have e4 : 15 < (pre ++ [some (Wk a ks), t12, t13, t14, t15]).length := by simp [h11]
    rw [List.map_cons, cmpL]
    simp only [nmA_e, e4, if_true, e1, ttT_e, methE_e, nmE_e, e2, chk_ws, argsE_cons, argsE_nil, e3, List.cons_append, List.nil_append, level_run a (keyT ks) (C4.of ks) (h s (by simp)) τ, ih, List.map_cons]
theorem told_step (a : Ad) (hpv : Nat.beq a.pV a.pN = false) {σ : Hp} {self i0 i1 T : V} {m w kind l : Nat} {ks kd : List Nat} {told : List V}
    (h : hdrs a σ self = some (m, hdV ks)) (hne : ∀ C n, self = .inst C n → n ≠ m) (hk : ∀ k ∈ ks, k < 4) (hl : l < 4) (hn : ks.length ≤ 50) (hkind : kind < 4) (hw : w < 2)
    (hT : ∀ τ, idxF [T, .int w] τ = some (self, τ)) (h4 : σ[4]? = some (.lst [i0, i1])) (h5 : σ[5]? = some (.lst told)) (hm4 : m ≠ 4) (hm5 : m ≠ 5) (hi : [i0, i1][w]? = some (Wk a ks)) (hj : [i0, i1][1 - w]? = some (Wk a kd)) (hto : told.length ≤ 1000)
    (C t7 t8 t9 t10 t11 t12 t13 t14 t15 : Option V) : ∃ t7' t8' t9' t10' t11' t12' t13',
    toldF2_b0 a [C, some T, some (.ref 4), some (.ref 5), some (.int w), some (.int kind), some (.int l), t7, t8, t9, t10, t11, t12, t13, t14, t15] σ
      = some (.next, [C, some T, some (.ref 4), some (.ref 5), some (.int w), some (.int kind), some (.int l), t7', t8', t9', t10', t11', t12', t13', t14, t15],
        ((σ.set m (.lst (hdV (kstep kind l ks)))).set 4 (.lst ([i0, i1].set w (Wk a (kstep kind l ks))))).set 5 (.lst (told ++ [rowS (C4.of ks) (C4.of (kstep kind l ks)) (C4.of kd)]))) := by
  have hk2 := kstep_lt kind l ks hk hl
  have hn2 : (kstep kind l ks).length ≤ 51 := Nat.le_trans (kstep_len kind l ks) (by omega)
  have hm := lt_of_get (hdrs_atF h).2.2
  generalize hks : kstep kind l ks = ks2 at *
  have f4 : (σ.set m (.lst (hdV ks2)))[4]? = some (.lst [i0, i1]) := by rw [List.getElem?_set_ne hm4, h4]
  have f5 : (σ.set m (.lst (hdV ks2)))[5]? = some (.lst told) := by rw [List.getElem?_set_ne hm5, h5]
  have hh := hdrs_set (ws := hdV ks2) h hne
  have hs2 : ∀ q : Hp, (σ.set m (.lst (hdV ks2))) = q → True := fun _ _ => trivial
  generalize hσ : σ.set m (.lst (hdV ks2)) = τ at f4 f5 hh ⊢
  have hokw := okI_nat w (by omega)
  have hokj := okI_nat (1 - w) (by omega)
  have hix := ixOf_nat w 2 hw
  have hiy := ixOf_nat (1 - w) 2 (by omega)
  have hj1 : (1 : Int) - (w : Int) = ((1 - w : Nat) : Int) := by omega
  have hws := ws_run a ks2 hk2 (by omega)
  have hkeys := keys_run a hh (by omega)
  have hchk := (hdrs_atF hh).2.1
  have g4 : (τ.set 4 (.lst ([i0, i1].set w (Wk a ks2))))[5]? = some (.lst told) := by rw [List.getElem?_set_ne (by omega), f5]
  refine ⟨some self, some (.str (bl l)), some (Wk a ks), some (Wk a kd), some (Wk a ks2), some (levV (C4.of ks2)), some (itemS (C4.of ks2)), ?_⟩
  unfold toldF2_b0
  refine seq_go (loc₁ := [C, some T, some (.ref 4), some (.ref 5), some (.int w), some (.int kind), some (.int l), some self, t8, t9, t10, t11, t12, t13, t14, t15]) (σ₁ := σ) (by simp [hT]) ?_
  have hmu : mulF [.str " ", .int l] σ = some (.str (bl l), σ) := by
    have h1 : Nat.ble (Str.ofString " ").length 1000 = true := by decide +kernel
    have h2 : decide ((-1000 : Int) < (l : Int)) = true := decide_eq_true (by omega)
    have h3 : decide ((l : Int) < 1000) = true := decide_eq_true (by omega)
    simp only [mulF, mulS, h1, h2, h3, Bool.and_self, if_true, bl_mul hl]
  refine seq_go (loc₁ := [C, some T, some (.ref 4), some (.ref 5), some (.int w), some (.int kind), some (.int l), some self, some (.str (bl l)), t9, t10, t11, t12, t13, t14, t15]) (σ₁ := σ) (by simp [hmu]) ?_
  rw [ops_run a hpv h hne hk hl (by omega) hkind _ rfl rfl rfl, hks, hσ]
  have ix1 : idxF [.ref 4, .int w] τ = some (Wk a ks, τ) := by
    simp only [idxF, hokw, lstOf, f4, List.length_cons, List.length_nil, hix, hi, if_true]
  have ix2 : idxF [.ref 4, .int (1 - w : Nat)] τ = some (Wk a kd, τ) := by
    simp only [idxF, hokj, lstOf, f4, List.length_cons, List.length_nil, hiy, hj, if_true]
  refine seq_go (loc₁ := [C, some T, some (.ref 4), some (.ref 5), some (.int w), some (.int kind), some (.int l), some self, some (.str (bl l)), some (Wk a ks), some (Wk a kd), t11, t12, t13, t14, t15]) (σ₁ := τ) (by
    simp only [swpS, tupE_e, argsE_cons, argsE_nil, op2_e, nmE_e, kE_e, List.getElem?_cons_zero, List.getElem?_cons_succ, ix1, int2_e, subI_e, hj1, ix2]
    simp [setL]) ?_
  have hkc : cmpV toldF2_vars0 [14] (nmA 14) ttT (op2 addF (nmE 14) (kE (.str "\t"))) (methE (chkI a.HD) (hd_keys a) (nmE 7) []) [C, some T, some (.ref 4), some (.ref 5), some (.int w), some (.int kind), some (.int l), some self, some (.str (bl l)), some (Wk a ks), some (Wk a kd), t11, t12, t13, t14, t15] τ
      = some (.lst (ks2.map fun k => .str (keyS k)), τ) := by
    refine cmp_go2 (v := .lst (ks2.map fun k => .str (bl k))) (σ₁ := τ) (by simp [hchk, hkeys]) rfl rfl (by simp; omega) (keyc_cmp ks2 _ τ rfl hk2)
  have hjo : joiF [.str "", .lst (ks2.map fun k => .str (keyS k))] τ = some (.str (keyT ks2), τ) := by
    simp only [joiF, lstOf, strsOf_keys, joinOk_keys ks2 hk2 (by omega), if_true, keyT]
  refine seq_go (loc₁ := [C, some T, some (.ref 4), some (.ref 5), some (.int w), some (.int kind), some (.int l), some self, some (.str (bl l)), some (Wk a ks), some (Wk a kd), some (Wk a ks2), t12, t13, t14, t15]) (σ₁ := τ) (by
    simp [hkc, hjo, hws]) ?_
  have hw2 : (w : Int) < 2 := by omega
  refine seq_go (loc₁ := [C, some T, some (.ref 4), some (.ref 5), some (.int w), some (.int kind), some (.int l), some self, some (.str (bl l)), some (Wk a ks), some (Wk a kd), some (Wk a ks2), t12, t13, t14, t15]) (σ₁ := τ.set 4 (.lst ([i0, i1].set w (Wk a ks2)))) (by
    simp [stI, f4, hokw, hw2]) ?_
  generalize hυ : τ.set 4 (.lst ([i0, i1].set w (Wk a ks2))) = υ at g4 ⊢
  have hlc := lev_cmp a ks2 [C, some T, some (.ref 4), some (.ref 5), some (.int w), some (.int kind), some (.int l), some self, some (.str (bl l)), some (Wk a ks), some (Wk a kd)] rfl t12 t13 t14 υ [1, 2, 3, 4, 5] none (by simp)
  have hrg : rngL 1 6 = [1, 2, 3, 4, 5].map (fun (s : Nat) => V.int s) := rfl
  refine seq_go (loc₁ := [C, some T, some (.ref 4), some (.ref 5), some (.int w), some (.int kind), some (.int l), some self, some (.str (bl l)), some (Wk a ks), some (Wk a kd), some (Wk a ks2), some (levV (C4.of ks2)), t13, t14, t15]) (σ₁ := υ) (by
    have : cmpV toldF2_vars1 [15] (nmA 15) ttT (methE (chkI a.WS) (ws_level a) (nmE 11) [nmE 15]) (callE rngF [kE (.int 1), kE (.int 6)]) [C, some T, some (.ref 4), some (.ref 5), some (.int w), some (.int kind), some (.int l), some self, some (.str (bl l)), some (Wk a ks), some (Wk a kd), some (Wk a ks2), t12, t13, t14, t15] υ
        = some (levV (C4.of ks2), υ) := by
      refine cmp_go2 (v := .rng 1 6) (σ₁ := υ) rfl rfl (srcOf_rng (by omega) (by omega)) (by rw [hrg]; simp) ?_
      rw [hrg]
      exact hlc
    rw [asgS_e, this]; rfl) ?_
  refine seq_go (loc₁ := [C, some T, some (.ref 4), some (.ref 5), some (.int w), some (.int kind), some (.int l), some self, some (.str (bl l)), some (Wk a ks), some (Wk a kd), some (Wk a ks2), some (levV (C4.of ks2)), some (itemS (C4.of ks2)), t14, t15]) (σ₁ := υ) (by
    simp [wat_n, wat_nt, wat_norm, wat_simple, strF_bool, itemS]) ?_
  have hto2 : told.length ≤ lmax := by unfold lmax; omega
  refine seq_go (loc₁ := [C, some T, some (.ref 4), some (.ref 5), some (.int w), some (.int kind), some (.int l), some self, some (.str (bl l)), some (Wk a ks), some (Wk a kd), some (Wk a ks2), some (levV (C4.of ks2)), some (itemS (C4.of ks2)), t14, t15]) (σ₁ := υ.set 5 (.lst (told ++ [rowS (C4.of ks) (C4.of ks2) (C4.of kd)]))) (by
    simp [g4, three_run, hto2, rowS]) ?_
  simp only [nilS_e, ← hυ]
end Mine
namespace Mine
open PySem PySem.Spec PySem.Calls PyProof.Rows PySem.W
theorem cmpL_filter {i : Nat} {test : ST} {p : Nat → Bool} {loc : Loc} {σ : Hp} (hi : i < loc.length) : ∀ (ss : List Nat), (∀ k ∈ ss, test (loc.set i (some (.int (k : Int)))) σ = some (p k, σ)) →
    cmpL (nmA i) test (nmE i) (ss.map fun (s : Nat) => .int s) loc σ = some ((ss.filter p).map fun (s : Nat) => .int s, σ) := by
  have main : ∀ (ss : List Nat) (l : Loc), (∀ x, l.set i x = loc.set i x) → i < l.length → (∀ k ∈ ss, test (loc.set i (some (.int (k : Int)))) σ = some (p k, σ)) →
      cmpL (nmA i) test (nmE i) (ss.map fun (s : Nat) => .int s) l σ = some ((ss.filter p).map fun (s : Nat) => .int s, σ) := by
    intro ss
    induction ss with
    | nil => intro l _ _ _; rfl
    | cons k ss ih =>
      intro l hl hil hp
      have hk := hp k (by simp)
      have ih := ih (loc.set i (some (.int (k : Int)))) (fun x => List.set_set ..) (by simpa using hi) fun j hj => hp j (by simp [hj])
      rw [List.map_cons, cmpL]
      simp only [nmA_e, hil, if_true, hl, hk]
      cases e : p k
      · simp only [ih, List.filter_cons, e]; rfl
      · simp only [nmE_e, List.getElem?_set_self hi, ih, List.filter_cons, e]; rfl
  intro ss hp
  exact main ss loc (fun _ => rfl) hi hp
theorem cmpL_map {i : Nat} {elt : SE} {f : Nat → V} {loc : Loc} {σ : Hp} (hi : i < loc.length) : ∀ (ss : List Nat), (∀ k ∈ ss, elt (loc.set i (some (.int (k : Int)))) σ = some (f k, σ)) →
    cmpL (nmA i) ttT elt (ss.map fun (s : Nat) => .int s) loc σ = some (ss.map f, σ) := by
  have main : ∀ (ss : List Nat) (l : Loc), (∀ x, l.set i x = loc.set i x) → i < l.length → (∀ k ∈ ss, elt (loc.set i (some (.int (k : Int)))) σ = some (f k, σ)) →
      cmpL (nmA i) ttT elt (ss.map fun (s : Nat) => .int s) l σ = some (ss.map f, σ) := by
    intro ss
    induction ss with
    | nil => intro l _ _ _; rfl
    | cons k ss ih =>
      intro l hl hil hp
      have hk := hp k (by simp)
      have ih := ih (loc.set i (some (.int (k : Int)))) (fun x => List.set_set ..) (by simpa using hi) fun j hj => hp j (by simp [hj])
      rw [List.map_cons, cmpL]
      simp only [nmA_e, hil, if_true, hl, hk, ttT_e, ih, List.map_cons]
  intro ss hp
  exact main ss loc (fun _ => rfl) hi hp
theorem eqF_ints (n : Bool) (l m : List Int) (σ : Hp) : eqF n [.lst (l.map .int), .lst (m.map .int)] σ = some (.bool (n != decide (l = m)), σ) := by
  simp [eqF, V.data, V.datas, datas_ints, PyData.eqv, eqvAll_ints, PyData.depth, PyData.depthAll, depth_ints]
theorem eqF_nats (n : Bool) (l : List Nat) (σ : Hp) : eqF n [.lst (l.map fun (s : Nat) => .int s), .lst []] σ = some (.bool (n != l.isEmpty), σ) := by
  have := eqF_ints n (l.map fun (s : Nat) => (s : Int)) [] σ
  rw [List.map_map] at this
  have e : (l.map fun (s : Nat) => (s : Int)) = [] ↔ l = [] := by simp
  simp only [List.map_nil] at this
  refine this.trans ?_
  congr 3
  cases l <;> simp
noncomputable def levL (c : C4) : List Int := [lev 1 c, lev 2 c, lev 3 c, lev 4 c, lev 5 c]
theorem levV_eq (c : C4) : levV c = .lst ((levL c).map .int) := rfl
theorem cnt_idx (c : C4) {l n : Nat} (h : l < 4) {σ : Hp} (hn : σ[n]? = some (.lst (cntV c))) : idxF [.ref n, .int l] σ = some (.int (c.get l), σ) := by
  have hok := okI_nat l (by omega)
  have hix := ixOf_nat l 4 h
  simp only [idxF, hok, lstOf, hn, if_true]
  have : (cntV c).length = 4 := rfl
  rw [this, hix]
  rcases lt4 h with rfl | rfl | rfl | rfl <;> rfl
theorem cnt_set (c : C4) {l : Nat} (v : Nat) (h : l < 4) : (cntV c).set l (.int v) = cntV (c.put l v) := by
  rcases lt4 h with rfl | rfl | rfl | rfl <;> rfl
theorem lev_idx (c : C4) {k : Nat} (h : k < 5) (σ : Hp) : idxF [levV c, .int k] σ = some (.int (lev (k + 1) c), σ) := by
  have hok := okI_nat k (by omega)
  have hix := ixOf_nat k 5 h
  have hk : k = 0 ∨ k = 1 ∨ k = 2 ∨ k = 3 ∨ k = 4 := by omega
  simp only [idxF, levV, lstOf, hok, if_true, List.length_cons, List.length_nil, hix]
  rcases hk with rfl | rfl | rfl | rfl | rfl <;> rfl
theorem now_idx (had kind : Nat) (hk : kind < 4) (σ : Hp) : idxF [.lst [.int ((had : Int) + 1), .int 1, .int (if (1 : Int) > had then 1 else had), .int 0], .int kind] σ = some (.int (nowOf kind had), σ) := by
  rcases lt4 hk with rfl | rfl | rfl | rfl
  · rfl
  · rfl
  · have : (if (1 : Int) > had then (1 : Int) else had) = ((max had 1 : Nat) : Int) := by split <;> omega
    rw [this]; rfl
  · rfl
noncomputable def standN (c : C4) : List Nat := [0, 1, 2, 3].filter fun k => decide (0 < c.get k)
theorem form_go (c : C4) (hb : c.nt ≤ 1000) {n : Nat} {σ : Hp} (hn : σ[n]? = some (.lst (cntV c))) {loc : Loc} (h6 : loc[6]? = some (some (.ref n))) (h9 : loc[9]? = some (some (.lst ((standN c).map fun (s : Nat) => .int s)))) :
    ifE (cmT (op2 (eqF true) (nmE 9) (lstE []))) (callE tupF [op2 slcF (nmE 6) (op2 addF (callE maxF [nmE 9]) (kE (.int 1)))]) (tupE []) loc σ = some (.tup ((form c).map .int), σ) := by
  obtain ⟨c0, c1, c2, c3⟩ := c
  simp only [ifE_e, cmT_e, op2_e, nmE_e, h9, lstE_e, argsE_nil, eqF_nats]
  have hmax : ∀ (i : Nat) (is : List Nat), maxF [.lst ((i :: is).map fun (s : Nat) => .int s)] σ = some (.int (maxI i (is.map fun (s : Nat) => (s : Int))), σ) := by
    intro i is
    have : ∀ is : List Nat, intsOf (is.map fun (s : Nat) => V.int s) = some (is.map fun (s : Nat) => (s : Int)) := by
      intro is
      induction is with
      | nil => rfl
      | cons j is ih => simp [intsOf, ih]
    simp [maxF, lstOf, intsOf, this]
  have hs : ∀ k : Nat, k < 4 → slcF [.ref n, .int ((k : Int) + 1)] σ = some (.lst ((cntV ⟨c0, c1, c2, c3⟩).take (k + 1)), σ) := by
    intro k hk
    have h1 : Nat.ble (cntV ⟨c0, c1, c2, c3⟩).length lmax = true := ble_lmax _ (by simp [cntV])
    have h2 : decide ((0 : Int) ≤ (k : Int) + 1) = true := decide_eq_true (by omega)
    have h3 : ((k : Int) + 1).toNat = k + 1 := by omega
    simp only [slcF, lstOf, hn, h1, if_true, cutL, h2, h3]
  have hfin : ∀ (i : Nat) (is : List Nat) (k : Nat), k < 4 → standN ⟨c0, c1, c2, c3⟩ = i :: is → maxI i (is.map fun (s : Nat) => (s : Int)) = (k : Int) → (cntV ⟨c0, c1, c2, c3⟩).take (k + 1) = (form ⟨c0, c1, c2, c3⟩).map .int →
      (match (match some (V.bool (true != (standN ⟨c0, c1, c2, c3⟩).isEmpty), σ) with
        | some (a, σ₁) => (match trV a with | some b => some (b, σ₁) | none => none)
        | none => none) with
      | some (true, σ₁) => callE tupF [op2 slcF (nmE 6) (op2 addF (callE maxF [nmE 9]) (kE (.int 1)))] loc σ₁
      | some (false, σ₁) => tupE [] loc σ₁
      | none => none) = some (.tup ((form ⟨c0, c1, c2, c3⟩).map .int), σ) := by
    intro i is k hk e1 e2 e3
    rw [e1] at h9 ⊢
    have hl : ((form ⟨c0, c1, c2, c3⟩).map V.int).length ≤ lmax := by rw [← e3]; simp [cntV, lmax]; omega
    simp at hl
    have hs := hs k hk
    have hm := hmax i is
    rw [e2] at hm
    simp at hm
    simp [h6, h9, hm, hs, e3, hl]
  by_cases p0 : 0 < c0
  · by_cases p1 : 0 < c1
    · by_cases p2 : 0 < c2
      · by_cases p3 : 0 < c3
        · exact hfin 0 [1, 2, 3] 3 (by omega) (by simp [standN, C4.get, p0, p1, p2, p3]) (by simp [maxI]) (by simp [cntV, form, p0, p1, p2, p3])
        · exact hfin 0 [1, 2] 2 (by omega) (by simp [standN, C4.get, p0, p1, p2, p3]) (by simp [maxI]) (by simp [cntV, form, p0, p1, p2, p3])
      · by_cases p3 : 0 < c3
        · exact hfin 0 [1, 3] 3 (by omega) (by simp [standN, C4.get, p0, p1, p2, p3]) (by simp [maxI]) (by simp [cntV, form, p0, p1, p2, p3])
        · exact hfin 0 [1] 1 (by omega) (by simp [standN, C4.get, p0, p1, p2, p3]) (by simp [maxI]) (by simp [cntV, form, p0, p1, p2, p3])
    · by_cases p2 : 0 < c2
      · by_cases p3 : 0 < c3
        · exact hfin 0 [2, 3] 3 (by omega) (by simp [standN, C4.get, p0, p1, p2, p3]) (by simp [maxI]) (by simp [cntV, form, p0, p1, p2, p3])
        · exact hfin 0 [2] 2 (by omega) (by simp [standN, C4.get, p0, p1, p2, p3]) (by simp [maxI]) (by simp [cntV, form, p0, p1, p2, p3])
      · by_cases p3 : 0 < c3
        · exact hfin 0 [3] 3 (by omega) (by simp [standN, C4.get, p0, p1, p2, p3]) (by simp [maxI]) (by simp [cntV, form, p0, p1, p2, p3])
        · exact hfin 0 [] 0 (by omega) (by simp [standN, C4.get, p0, p1, p2, p3]) (by simp [maxI]) (by simp [cntV, form, p0, p1, p2, p3])
  · by_cases p1 : 0 < c1
    · by_cases p2 : 0 < c2
      · by_cases p3 : 0 < c3
        · exact hfin 1 [2, 3] 3 (by omega) (by simp [standN, C4.get, p0, p1, p2, p3]) (by simp [maxI]) (by simp [cntV, form, p0, p1, p2, p3])
        · exact hfin 1 [2] 2 (by omega) (by simp [standN, C4.get, p0, p1, p2, p3]) (by simp [maxI]) (by simp [cntV, form, p0, p1, p2, p3])
      · by_cases p3 : 0 < c3
        · exact hfin 1 [3] 3 (by omega) (by simp [standN, C4.get, p0, p1, p2, p3]) (by simp [maxI]) (by simp [cntV, form, p0, p1, p2, p3])
        · exact hfin 1 [] 1 (by omega) (by simp [standN, C4.get, p0, p1, p2, p3]) (by simp [maxI]) (by simp [cntV, form, p0, p1, p2, p3])
    · by_cases p2 : 0 < c2
      · by_cases p3 : 0 < c3
        · exact hfin 2 [3] 3 (by omega) (by simp [standN, C4.get, p0, p1, p2, p3]) (by simp [maxI]) (by simp [cntV, form, p0, p1, p2, p3])
        · exact hfin 2 [] 2 (by omega) (by simp [standN, C4.get, p0, p1, p2, p3]) (by simp [maxI]) (by simp [cntV, form, p0, p1, p2, p3])
      · by_cases p3 : 0 < c3
        · exact hfin 3 [] 3 (by omega) (by simp [standN, C4.get, p0, p1, p2, p3]) (by simp [maxI]) (by simp [cntV, form, p0, p1, p2, p3])
        · have e1 : standN ⟨c0, c1, c2, c3⟩ = [] := by simp [standN, C4.get, p0, p1, p2, p3]
          rw [e1]
          simp [form, p0, p1, p2, p3]
end Mine
namespace Mine
open PySem PySem.Spec PySem.Calls PyProof.Rows PySem.W
theorem sum_run (c : C4) {n : Nat} {σ : Hp} (hn : σ[n]? = some (.lst (cntV c))) : sumF [.ref n] σ = some (.int c.nt, σ) := by
  simp only [sumF, lstOf, hn, cntV, intsOf, List.sum_cons, List.sum_nil]
  have : (c.c0 : Int) + (c.c1 + (c.c2 + (c.c3 + 0))) = (c.nt : Int) := by unfold C4.nt; omega
  rw [this]
theorem tup_len (c : C4) (σ : Hp) : lenF [.tup ((form c).map .int)] σ = some (.int (form c).length, σ) := by
  have := form_len c
  have : (form c).length ≤ lmax := by unfold lmax; rw [this]; (repeat' split) <;> omega
  simp [this]
theorem lt_two (c : C4) : decide (((form c).length : Int) < 2) = decide (((form c).length : Int) ≤ 1) := decide_eq_decide.mpr (by omega)
theorem low_nil (c d : C4) : ([0, 1, 2, 3, 4].filter fun k => decide ((lev (k + 1) c : Int) ≥ (lev (k + 1) d : Int))).isEmpty = ltC c d := by
  rw [Bool.eq_iff_iff, List.isEmpty_iff, List.filter_eq_nil_iff]
  simp [ltC, and_assoc]
theorem upp_nil (c d : C4) : ([0, 1, 2, 3, 4].filter fun k => decide ((lev (k + 1) c : Int) ≤ (lev (k + 1) d : Int))).isEmpty = ltC d c := by
  rw [Bool.eq_iff_iff, List.isEmpty_iff, List.filter_eq_nil_iff]
  simp [ltC, and_assoc]
theorem eq_levs (c d : C4) : decide (levL c = levL d) = decide (form c = form d) := by
  rw [form_eq]
  apply decide_eq_decide.mpr
  simp [levL]
  omega
theorem get_nt (c : C4) (l : Nat) (h : l < 4) : c.get l ≤ c.nt := by
  rcases lt4 h with rfl | rfl | rfl | rfl <;> simp [C4.nt, C4.get] <;> omega
theorem now_le (kind had : Nat) : nowOf kind had ≤ had + 1 := by
  unfold nowOf
  split <;> omega
theorem nt_put2 (c : C4) (l kind : Nat) (h : l < 4) : (c.put l (nowOf kind (c.get l))).nt ≤ c.nt + 1 := by
  have := now_le kind (c.get l)
  obtain ⟨x0, x1, x2, x3⟩ := c
  rcases lt4 h with rfl | rfl | rfl | rfl <;> simp [C4.nt, C4.put, C4.get] at * <;> omega
theorem due_step (a : Ad) {σ : Hp} {T : V} {w kind l : Nat} {c d : C4} {due : List V}
    (hT : ∀ τ, idxF [T, .int w] τ = some (.ref w, τ)) (hT2 : ∀ τ, idxF [T, .int (1 - w : Nat)] τ = some (.ref (1 - w), τ)) (hl : l < 4) (hkind : kind < 4) (hw : w < 2)
    (hc : σ[w]? = some (.lst (cntV c))) (hd : σ[1 - w]? = some (.lst (cntV d))) (h2 : σ[2]? = some (.lst due)) (hcn : c.nt ≤ 50) (hdn : d.nt ≤ 50) (hdu : due.length ≤ 1000)
    (C t6 t7 t8 t9 t10 t11 t12 t13 t14 t15 t16 t17 t18 t19 : Option V) : ∃ t6' t7' t8' t9' t10' t11' t12' t13' t14' t15',
    dueF2_b0 a [C, some T, some (.ref 2), some (.int w), some (.int kind), some (.int l), t6, t7, t8, t9, t10, t11, t12, t13, t14, t15, t16, t17, t18, t19] σ
      = some (.next, [C, some T, some (.ref 2), some (.int w), some (.int kind), some (.int l), t6', t7', t8', t9', t10', t11', t12', t13', t14', t15', t16, t17, t18, t19],
        (σ.set w (.lst (cntV (c.put l (nowOf kind (c.get l)))))).set 2 (.lst (due ++ [rowS c (c.put l (nowOf kind (c.get l))) d]))) := by
  have hnow := nt_put2 c l kind hl
  obtain ⟨q1, q2, q3⟩ := lt_put c l (nowOf kind (c.get l)) hl
  have hhad := get_nt c l hl
  generalize hv : nowOf kind (c.get l) = v at *
  generalize hc2 : c.put l v = c2 at *
  have hwl := lt_of_get hc
  have f1 : (σ.set w (.lst (cntV c2)))[w]? = some (.lst (cntV c2)) := by rw [List.getElem?_set_self hwl]
  have f2 : (σ.set w (.lst (cntV c2)))[1 - w]? = some (.lst (cntV d)) := by rw [List.getElem?_set_ne (by omega), hd]
  have f3 : (σ.set w (.lst (cntV c2)))[2]? = some (.lst due) := by rw [List.getElem?_set_ne (by omega), h2]
  have hj1 : (1 : Int) - (w : Int) = ((1 - w : Nat) : Int) := by omega
  have ix := cnt_idx c hl hc
  have hokl := okI_nat l (by omega)
  have hl4 : (l : Int) < 4 := by omega
  refine ⟨some (.ref w), some (.int (c.get l)), some (.int v), some (.lst ((standN c2).map fun (s : Nat) => .int s)), some (.tup ((form c2).map .int)), some (levV c2), some (levV d), some (itemS c2), some (.bool (ltC c2 d)), some (.bool (ltC d c2)), ?_⟩
  unfold dueF2_b0
  refine seq_go (loc₁ := [C, some T, some (.ref 2), some (.int w), some (.int kind), some (.int l), some (.ref w), t7, t8, t9, t10, t11, t12, t13, t14, t15, t16, t17, t18, t19]) (σ₁ := σ) (by simp [hT]) ?_
  refine seq_go (loc₁ := [C, some T, some (.ref 2), some (.int w), some (.int kind), some (.int l), some (.ref w), some (.int (c.get l)), t8, t9, t10, t11, t12, t13, t14, t15, t16, t17, t18, t19]) (σ₁ := σ) (by simp [ix]) ?_
  refine seq_go (loc₁ := [C, some T, some (.ref 2), some (.int w), some (.int kind), some (.int l), some (.ref w), some (.int (c.get l)), some (.int v), t9, t10, t11, t12, t13, t14, t15, t16, t17, t18, t19]) (σ₁ := σ) (by
    have := now_idx (c.get l) kind hkind σ
    rw [hv] at this
    simp at this
    simp [this]) ?_
  refine seq_go (loc₁ := [C, some T, some (.ref 2), some (.int w), some (.int kind), some (.int l), some (.ref w), some (.int (c.get l)), some (.int v), t9, t10, t11, t12, t13, t14, t15, t16, t17, t18, t19]) (σ₁ := σ.set w (.lst (cntV c2))) (by
    have h4 : (cntV c).length = 4 := rfl
    simp [stI, hc, hokl, h4, hl4, cnt_set c v hl, hc2]) ?_
  generalize hσ : σ.set w (.lst (cntV c2)) = τ at f1 f2 f3 ⊢
  have hr4 : rngL 0 4 = [0, 1, 2, 3].map (fun (s : Nat) => V.int s) := rfl
  have hr5 : rngL 0 5 = [0, 1, 2, 3, 4].map (fun (s : Nat) => V.int s) := rfl
  have k4 : ∀ k ∈ [0, 1, 2, 3], k < 4 := by simp
  have k5 : ∀ k ∈ [0, 1, 2, 3, 4], k < 5 := by simp
  refine seq_go (loc₁ := [C, some T, some (.ref 2), some (.int w), some (.int kind), some (.int l), some (.ref w), some (.int (c.get l)), some (.int v), some (.lst ((standN c2).map fun (s : Nat) => .int s)), t10, t11, t12, t13, t14, t15, t16, t17, t18, t19]) (σ₁ := τ) (by
    have : cmpV dueF2_vars0 [16] (nmA 16) (cmT (op2 (int2 gtI) (op2 idxF (nmE 6) (nmE 16)) (kE (.int 0)))) (nmE 16) (callE rngF [kE (.int 4)]) [C, some T, some (.ref 2), some (.int w), some (.int kind), some (.int l), some (.ref w), some (.int (c.get l)), some (.int v), t9, t10, t11, t12, t13, t14, t15, t16, t17, t18, t19] τ
        = some (.lst ((standN c2).map fun (s : Nat) => .int s), τ) := by
      refine cmp_go2 (v := .rng 0 4) (σ₁ := τ) rfl rfl (srcOf_rng (by omega) (by omega)) (by rw [hr4]; simp) ?_
      rw [hr4]
      refine cmpL_filter (by simp [clr]) _ fun k hk => ?_
      have := cnt_idx c2 (k4 k hk) f1
      simp [clr, this, lend]
    rw [asgS_e, this]; rfl) ?_
  refine seq_go (loc₁ := [C, some T, some (.ref 2), some (.int w), some (.int kind), some (.int l), some (.ref w), some (.int (c.get l)), some (.int v), some (.lst ((standN c2).map fun (s : Nat) => .int s)), some (.tup ((form c2).map .int)), t11, t12, t13, t14, t15, t16, t17, t18, t19]) (σ₁ := τ) (by
    rw [asgS_e, form_go c2 (by omega) f1 rfl rfl]; rfl) ?_
  have e1 := cols_spec a c2 (by omega) w τ f1
  have e2 := cols_spec a d (by omega) (1 - w) τ f2
  refine seq_go (loc₁ := [C, some T, some (.ref 2), some (.int w), some (.int kind), some (.int l), some (.ref w), some (.int (c.get l)), some (.int v), some (.lst ((standN c2).map fun (s : Nat) => .int s)), some (.tup ((form c2).map .int)), some (levV c2), some (levV d), t13, t14, t15, t16, t17, t18, t19]) (σ₁ := τ) (by
    simp [hj1, hT2, e1, e2]) ?_
  refine seq_go (loc₁ := [C, some T, some (.ref 2), some (.int w), some (.int kind), some (.int l), some (.ref w), some (.int (c.get l)), some (.int v), some (.lst ((standN c2).map fun (s : Nat) => .int s)), some (.tup ((form c2).map .int)), some (levV c2), some (levV d), some (itemS c2), t14, t15, t16, t17, t18, t19]) (σ₁ := τ) (by
    have : ∀ loc : Loc, loc.length = 20 → loc[6]? = some (some (.ref w)) → cmpV dueF2_vars1 [17] (nmA 17) ttT (op2 mulF (op2 idxF (nmE 6) (nmE 17)) (op2 addF (nmE 17) (kE (.int 1)))) (callE rngF [kE (.int 4)]) loc τ = some (.lst ([0, 1, 2, 3].map fun k => .int ((c2.get k * (k + 1) : Nat) : Int)), τ) := by
      intro loc hll h6
      refine cmp_go2 (v := .rng 0 4) (σ₁ := τ) rfl rfl (srcOf_rng (by omega) (by omega)) (by rw [hr4]; simp) ?_
      rw [hr4]
      refine cmpL_map (by simp [clr, hll]) _ fun k hk => ?_
      have ix := cnt_idx c2 (k4 k hk) f1
      have hg := get_nt c2 k (k4 k hk)
      have hok := okI_nat (c2.get k) (by omega)
      have h6' : ((clr [17] loc).set 17 (some (V.int (k : Int))))[6]? = some (some (.ref w)) := by
        simp only [clr, List.foldl_cons, List.foldl_nil, List.set_set]
        rw [List.getElem?_set_ne (by omega), h6]
      have h17 : ((clr [17] loc).set 17 (some (V.int (k : Int))))[17]? = some (some (.int (k : Int))) := by
        rw [List.getElem?_set_self (by simp [clr, hll])]
      simp [h6', h17, ix, mulF, mulI, hok, lend]
    rw [asgS_e, tupE_e, argsE_cons, callE_e, argsE_cons, this _ rfl rfl]
    have hsum : sumF [.lst ([0, 1, 2, 3].map fun k => .int ((c2.get k * (k + 1) : Nat) : Int))] τ = some (.int c2.n, τ) := by
      simp only [List.map_cons, List.map_nil, sumF, lstOf, intsOf, List.sum_cons, List.sum_nil]
      have : ((c2.get 0 * (0 + 1) : Nat) : Int) + (((c2.get 1 * (1 + 1) : Nat) : Int) + (((c2.get 2 * (2 + 1) : Nat) : Int) + (((c2.get 3 * (3 + 1) : Nat) : Int) + 0))) = (c2.n : Int) := by
        simp only [C4.get, C4.n]; omega
      rw [this]
    simp only [argsE_nil, hsum]
    have hlt := lt_two c2
    simp [sum_run c2 f1, -lenF_tup, tup_len, strF_bool, itemS]
    exact congrArg tfS hlt) ?_
  refine seq_go (loc₁ := [C, some T, some (.ref 2), some (.int w), some (.int kind), some (.int l), some (.ref w), some (.int (c.get l)), some (.int v), some (.lst ((standN c2).map fun (s : Nat) => .int s)), some (.tup ((form c2).map .int)), some (levV c2), some (levV d), some (itemS c2), some (.bool (ltC c2 d)), t15, t16, t17, t18, t19]) (σ₁ := τ) (by
    have : ∀ loc : Loc, loc.length = 20 → loc[11]? = some (some (levV c2)) → loc[12]? = some (some (levV d)) → cmpV dueF2_vars2 [18] (nmA 18) (cmT (op2 (int2 geI) (op2 idxF (nmE 11) (nmE 18)) (op2 idxF (nmE 12) (nmE 18)))) (nmE 18) (callE rngF [kE (.int 5)]) loc τ
        = some (.lst (([0, 1, 2, 3, 4].filter fun k => decide ((lev (k + 1) c2 : Int) ≥ (lev (k + 1) d : Int))).map fun (s : Nat) => .int s), τ) := by
      intro loc hll h11 h12
      refine cmp_go2 (v := .rng 0 5) (σ₁ := τ) rfl rfl (srcOf_rng (by omega) (by omega)) (by rw [hr5]; simp) ?_
      rw [hr5]
      refine cmpL_filter (by simp [clr, hll]) _ fun k hk => ?_
      have g11 : ((clr [18] loc).set 18 (some (V.int (k : Int))))[11]? = some (some (levV c2)) := by
        simp only [clr, List.foldl_cons, List.foldl_nil, List.set_set]
        rw [List.getElem?_set_ne (by omega), h11]
      have g12 : ((clr [18] loc).set 18 (some (V.int (k : Int))))[12]? = some (some (levV d)) := by
        simp only [clr, List.foldl_cons, List.foldl_nil, List.set_set]
        rw [List.getElem?_set_ne (by omega), h12]
      have g18 : ((clr [18] loc).set 18 (some (V.int (k : Int))))[18]? = some (some (.int (k : Int))) := by
        rw [List.getElem?_set_self (by simp [clr, hll])]
      simp only [cmT_e, op2_e, nmE_e, g11, g12, g18, lev_idx c2 (k5 k hk), lev_idx d (k5 k hk), int2_e, geI_e, trV_b]
    rw [asgS_e, op2_e, this _ rfl rfl rfl]
    simp only [lstE_e, argsE_nil, eqF_nats, low_nil]
    cases ltC c2 d <;> rfl) ?_
  refine seq_go (loc₁ := [C, some T, some (.ref 2), some (.int w), some (.int kind), some (.int l), some (.ref w), some (.int (c.get l)), some (.int v), some (.lst ((standN c2).map fun (s : Nat) => .int s)), some (.tup ((form c2).map .int)), some (levV c2), some (levV d), some (itemS c2), some (.bool (ltC c2 d)), some (.bool (ltC d c2)), t16, t17, t18, t19]) (σ₁ := τ) (by
    have : ∀ loc : Loc, loc.length = 20 → loc[11]? = some (some (levV c2)) → loc[12]? = some (some (levV d)) → cmpV dueF2_vars3 [19] (nmA 19) (cmT (op2 (int2 leI) (op2 idxF (nmE 11) (nmE 19)) (op2 idxF (nmE 12) (nmE 19)))) (nmE 19) (callE rngF [kE (.int 5)]) loc τ
        = some (.lst (([0, 1, 2, 3, 4].filter fun k => decide ((lev (k + 1) c2 : Int) ≤ (lev (k + 1) d : Int))).map fun (s : Nat) => .int s), τ) := by
      intro loc hll h11 h12
      refine cmp_go2 (v := .rng 0 5) (σ₁ := τ) rfl rfl (srcOf_rng (by omega) (by omega)) (by rw [hr5]; simp) ?_
      rw [hr5]
      refine cmpL_filter (by simp [clr, hll]) _ fun k hk => ?_
      have g11 : ((clr [19] loc).set 19 (some (V.int (k : Int))))[11]? = some (some (levV c2)) := by
        simp only [clr, List.foldl_cons, List.foldl_nil, List.set_set]
        rw [List.getElem?_set_ne (by omega), h11]
      have g12 : ((clr [19] loc).set 19 (some (V.int (k : Int))))[12]? = some (some (levV d)) := by
        simp only [clr, List.foldl_cons, List.foldl_nil, List.set_set]
        rw [List.getElem?_set_ne (by omega), h12]
      have g19 : ((clr [19] loc).set 19 (some (V.int (k : Int))))[19]? = some (some (.int (k : Int))) := by
        rw [List.getElem?_set_self (by simp [clr, hll])]
      simp only [cmT_e, op2_e, nmE_e, g11, g12, g19, lev_idx c2 (k5 k hk), lev_idx d (k5 k hk), int2_e, leI_e, trV_b]
    rw [asgS_e, op2_e, this _ rfl rfl rfl]
    simp only [lstE_e, argsE_nil, eqF_nats, upp_nil]
    cases ltC d c2 <;> rfl) ?_
  have hdu2 : due.length ≤ lmax := by unfold lmax; omega
  have heq : eqF false [levV c2, levV d] τ = some (.bool (decide (form c2 = form d)), τ) := by
    rw [levV_eq, levV_eq, eqF_ints, eq_levs]; cases decide (form c2 = form d) <;> rfl
  have heq2 : decide (v = c.get l) = (((v : Int) == (c.get l : Int))) := by
    rw [Bool.eq_iff_iff]; simp; omega
  refine seq_go (loc₁ := [C, some T, some (.ref 2), some (.int w), some (.int kind), some (.int l), some (.ref w), some (.int (c.get l)), some (.int v), some (.lst ((standN c2).map fun (s : Nat) => .int s)), some (.tup ((form c2).map .int)), some (levV c2), some (levV d), some (itemS c2), some (.bool (ltC c2 d)), some (.bool (ltC d c2)), t16, t17, t18, t19]) (σ₁ := τ.set 2 (.lst (due ++ [rowS c c2 d]))) (by
    simp [f3, eqF_int, heq, strF_bools, hdu2, rowS, q1, q2, q3, heq2]) ?_
  rfl
end Mine
namespace Mine
open PySem PySem.Spec PySem.Calls PyProof.Rows PySem.W
noncomputable abbrev Cl := Nat × Nat × Nat
noncomputable def callV (c : Cl) : V := .tup [.int c.1, .int c.2.1, .int c.2.2]
noncomputable def okC (c : Cl) : Prop := c.1 < 2 ∧ c.2.1 < 4 ∧ c.2.2 < 4
theorem cmpL_mapG {i : Nat} {elt : SE} {f : V → V} {loc : Loc} {σ : Hp} (hi : i < loc.length) : ∀ (vs : List V), (∀ v ∈ vs, elt (loc.set i (some v)) σ = some (f v, σ)) →
    cmpL (nmA i) ttT elt vs loc σ = some (vs.map f, σ) := by
  have main : ∀ (vs : List V) (l : Loc), (∀ x, l.set i x = loc.set i x) → i < l.length → (∀ v ∈ vs, elt (loc.set i (some v)) σ = some (f v, σ)) →
      cmpL (nmA i) ttT elt vs l σ = some (vs.map f, σ) := by
    intro vs
    induction vs with
    | nil => intro l _ _ _; rfl
    | cons v vs ih =>
      intro l hl hil hp
      have hk := hp v (by simp)
      have ih := ih (loc.set i (some v)) (fun x => List.set_set ..) (by simpa using hi) fun j hj => hp j (by simp [hj])
      rw [cmpL]
      simp only [nmA_e, hil, if_true, hl, hk, ttT_e, ih, List.map_cons]
  intro vs hp
  exact main vs loc (fun _ => rfl) hi hp
noncomputable def restOf (n : Int) : Nat := (n.fmod 32).toNat
theorem rest_lt (n : Int) : restOf n < 32 ∧ n.fmod 32 = (restOf n : Int) := by
  have h1 := Int.fmod_nonneg_of_pos n (show (0 : Int) < 32 by omega)
  have h2 := Int.fmod_lt_of_pos n (show (0 : Int) < 32 by omega)
  unfold restOf
  omega
noncomputable def clOf (r : Nat) : Cl := (r % 2, r / 2 % 4, r / 8)
theorem clOf_ok (r : Nat) (h : r < 32) : okC (clOf r) := ⟨Nat.mod_lt _ (by omega), Nat.mod_lt _ (by omega), by show r / 8 < 4; omega⟩
noncomputable def script2 (is : List Int) : List Int := is.take 8 ++ [8, 3, 8, 10, 5, 14]
theorem calls_run (a : Ad) (is : List Int) (hn : is.length ≤ 63) (σ : Hp) : callsF2 a [.lst (is.map .int)] σ = some (.lst ((script2 is).map fun n => callV (clOf (restOf n))), σ) := by
  have hb1 : Nat.ble (is.map V.int).length lmax = true := ble_lmax _ (by simp; omega)
  have hcut : slcF [.lst (is.map .int), .int 8] σ = some (.lst ((is.take 8).map .int), σ) := by
    simp only [slcF, lstOf, hb1, if_true, cutL]
    simp [List.map_take]
  have hadd : addF [.lst ((is.take 8).map .int), .lst [.int 8, .int 3, .int 8, .int 10, .int 5, .int 14]] σ = some (.lst ((script2 is).map .int), σ) := by
    have hb : Nat.ble (((is.take 8).map V.int).length + [V.int 8, .int 3, .int 8, .int 10, .int 5, .int 14].length) lmax = true := ble_lmax _ (by simp; omega)
    simp only [addF, addL, hb, if_true, script2]
    simp
  have hlen : (script2 is).length ≤ 14 := by simp [script2]; omega
  have hc1 : ∀ loc : Loc, loc.length = 4 → loc[0]? = some (some (.lst (is.map .int))) → cmpV callsF2_vars0 [2] (nmA 2) ttT (op2 (int2 modI) (nmE 2) (kE (.int 32))) (op2 addF (op2 slcF (nmE 0) (kE (.int 8))) (lstE [kE (.int 8), kE (.int 3), kE (.int 8), kE (.int 10), kE (.int 5), kE (.int 14)])) loc σ
      = some (.lst (((script2 is).map restOf).map fun (r : Nat) => .int r), σ) := by
    intro loc hll h0
    refine cmp_go2 (v := .lst ((script2 is).map .int)) (σ₁ := σ) (by simp only [op2_e, nmE_e, h0, kE_e, hcut, lstE_e, argsE_cons, argsE_nil, hadd]) rfl rfl (by simp; omega) ?_
    have : ((script2 is).map restOf).map (fun (r : Nat) => V.int r) = ((script2 is).map V.int).map (fun v => match v with | .int n => .int (restOf n) | v => v) := by simp
    rw [this]
    refine cmpL_mapG (by simp [clr, hll]) _ fun v hv => ?_
    obtain ⟨n, _, rfl⟩ := List.mem_map.mp hv
    have h2 : ((clr [2] loc).set 2 (some (V.int n)))[2]? = some (some (.int n)) := by rw [List.getElem?_set_self (by simp [clr, hll])]
    simp [h2, modI, (rest_lt n).2, lend]
  have hc2 : ∀ loc : Loc, loc.length = 4 → loc[1]? = some (some (.lst (((script2 is).map restOf).map fun (r : Nat) => .int r))) → cmpV callsF2_vars1 [3] (nmA 3) ttT (tupE [op2 (int2 modI) (nmE 3) (kE (.int 2)), op2 (int2 modI) (op2 (int2 divI) (nmE 3) (kE (.int 2))) (kE (.int 4)), op2 (int2 divI) (nmE 3) (kE (.int 8))]) (nmE 1) loc σ
      = some (.lst ((script2 is).map fun n => callV (clOf (restOf n))), σ) := by
    intro loc hll h1
    refine cmp_go2 (v := .lst (((script2 is).map restOf).map fun (r : Nat) => .int r)) (σ₁ := σ) (by simp [h1]) rfl rfl (by simp; omega) ?_
    have : (script2 is).map (fun n => callV (clOf (restOf n))) = ((script2 is).map restOf).map (fun r => callV (clOf r)) := by simp
    rw [this]
    refine cmpL_map (by simp [clr, hll]) _ fun r hr => ?_
    obtain ⟨n, _, rfl⟩ := List.mem_map.mp hr
    have h3 : ((clr [3] loc).set 3 (some (V.int (restOf n : Int))))[3]? = some (some (.int (restOf n : Int))) := by rw [List.getElem?_set_self (by simp [clr, hll])]
    have e1 : (restOf n : Int).fmod 2 = ((restOf n % 2 : Nat) : Int) := by rw [Int.fmod_eq_emod_of_nonneg _ (by omega)]; omega
    have e2 : (restOf n : Int).fdiv 2 = ((restOf n / 2 : Nat) : Int) := by rw [Int.fdiv_eq_ediv_of_nonneg _ (by omega)]; omega
    have e3 : ((restOf n / 2 : Nat) : Int).fmod 4 = ((restOf n / 2 % 4 : Nat) : Int) := by rw [Int.fmod_eq_emod_of_nonneg _ (by omega)]; omega
    have e4 : (restOf n : Int).fdiv 8 = ((restOf n / 8 : Nat) : Int) := by rw [Int.fdiv_eq_ediv_of_nonneg _ (by omega)]; omega
    have o2 : okI 2 = true := rfl
    have o8 : okI 8 = true := rfl
    have z2 : ((2 : Int) != 0) = true := rfl
    have z4 : ((4 : Int) != 0) = true := rfl
    have z8 : ((8 : Int) != 0) = true := rfl
    simp only [tupE_e, argsE_cons, argsE_nil, op2_e, nmE_e, kE_e, h3, int2_e, modI, divI, o2, o8, z2, z4, z8, Bool.and_self, if_true, e1, e2, e3, e4, callV, clOf, lend]
  unfold callsF2 fnF
  rw [if_pos (by rfl)]
  simp only [callsF2_sh]
  rw [seq_go (loc₁ := [some (.lst (is.map .int)), some (.lst (((script2 is).map restOf).map fun (r : Nat) => .int r)), none, none]) (σ₁ := σ) (by rw [asgS_e, hc1 _ rfl rfl]; rfl) rfl]
  rw [seqS_e, retS_e, hc2 _ rfl rfl]
noncomputable def specL : List Cl → C4 → C4 → List V
  | [], _, _ => []
  | x :: cs, c, d => if x.1 = 0 then rowS c (c.put x.2.2 (nowOf x.2.1 (c.get x.2.2))) d :: specL cs (c.put x.2.2 (nowOf x.2.1 (c.get x.2.2))) d
    else rowS d (d.put x.2.2 (nowOf x.2.1 (d.get x.2.2))) c :: specL cs c (d.put x.2.2 (nowOf x.2.1 (d.get x.2.2)))
noncomputable def H0 (a : Ad) (k0 k1 : List Nat) (told : List V) : Hp := [.dict a.HD [.ref 1], .lst (hdV k0), .dict a.HD [.ref 3], .lst (hdV k1), .lst [Wk a k0, Wk a k1], .lst told]
theorem H0_hdrs (a : Ad) (k0 k1 : List Nat) (told : List V) : hdrs a (H0 a k0 k1 told) (.inst a.HD 0) = some (1, hdV k0) ∧ hdrs a (H0 a k0 k1 told) (.inst a.HD 2) = some (3, hdV k1) := by
  constructor <;> simp [hdrs, attrs?, H0]
theorem told_loop (a : Ad) (hpv : Nat.beq a.pV a.pN = false) (C : Option V) : ∀ (cs : List Cl) (k0 k1 : List Nat) (told : List V) (t4 t5 t6 t7 t8 t9 t10 t11 t12 t13 t14 t15 : Option V), (∀ c ∈ cs, okC c) → (∀ k ∈ k0, k < 4) → (∀ k ∈ k1, k < 4) →
    k0.length + cs.length ≤ 40 → k1.length + cs.length ≤ 40 → told.length + cs.length ≤ 900 → ∃ k0' k1' loc',
    forL (tupT [nmA 4, nmA 5, nmA 6]) (toldF2_b0 a) (cs.map callV) [C, some (.lst [.inst a.HD 0, .inst a.HD 2]), some (.ref 4), some (.ref 5), t4, t5, t6, t7, t8, t9, t10, t11, t12, t13, t14, t15] (H0 a k0 k1 told)
      = some (.next, C :: some (.lst [.inst a.HD 0, .inst a.HD 2]) :: some (.ref 4) :: some (.ref 5) :: loc', H0 a k0' k1' (told ++ specL cs (C4.of k0) (C4.of k1))) := by
  intro cs
  induction cs with
  | nil => intro k0 k1 told t4 t5 t6 t7 t8 t9 t10 t11 t12 t13 t14 t15 _ _ _ _ _ _; exact ⟨k0, k1, _, by simp [forL, specL]; rfl⟩
  | cons x cs ih =>
    intro k0 k1 told t4 t5 t6 t7 t8 t9 t10 t11 t12 t13 t14 t15 hok hk0 hk1 hl0 hl1 hlt
    obtain ⟨w, kind, l⟩ := x
    obtain ⟨hw, hkind, hl⟩ := hok (w, kind, l) (by simp)
    simp only at hw hkind hl
    simp only [List.length_cons] at hl0 hl1 hlt
    obtain ⟨hd0, hd1⟩ := H0_hdrs a k0 k1 told
    have hw2 : w = 0 ∨ w = 1 := by omega
    rcases hw2 with rfl | rfl
    · obtain ⟨u7, u8, u9, u10, u11, u12, u13, e⟩ := told_step a hpv (σ := H0 a k0 k1 told) (self := .inst a.HD 0) (T := .lst [.inst a.HD 0, .inst a.HD 2]) (w := 0) (kd := k1) (told := told) hd0 (by rintro C n ⟨⟩; decide) hk0 hl (by omega) hkind (by omega) (fun τ => rfl) rfl rfl (by decide) (by decide) rfl rfl (by omega) C t7 t8 t9 t10 t11 t12 t13 t14 t15
      obtain ⟨k0', k1', loc', e2⟩ := ih (kstep kind l k0) k1 (told ++ [rowS (C4.of k0) (C4.of (kstep kind l k0)) (C4.of k1)]) (some (.int (0 : Nat))) (some (.int kind)) (some (.int l)) u7 u8 u9 u10 u11 u12 u13 t14 t15 (fun c hc => hok c (by simp [hc])) (kstep_lt kind l k0 hk0 hl) hk1
        (by have := kstep_len kind l k0; omega) (by omega) (by simp; omega)
      refine ⟨k0', k1', loc', ?_⟩
      rw [List.map_cons]
      refine for_step (loc₁ := [C, some (.lst [.inst a.HD 0, .inst a.HD 2]), some (.ref 4), some (.ref 5), some (.int (0 : Nat)), some (.int kind), some (.int l), t7, t8, t9, t10, t11, t12, t13, t14, t15]) (σ₁ := H0 a k0 k1 told) rfl e ?_
      refine Eq.trans ?_ (e2.trans ?_)
      · rfl
      · rw [of_kstep kind l k0 hkind hl, specL, if_pos rfl, List.append_assoc]; rfl
    · obtain ⟨u7, u8, u9, u10, u11, u12, u13, e⟩ := told_step a hpv (σ := H0 a k0 k1 told) (self := .inst a.HD 2) (T := .lst [.inst a.HD 0, .inst a.HD 2]) (w := 1) (kd := k0) (told := told) hd1 (by rintro C n ⟨⟩; decide) hk1 hl (by omega) hkind (by omega) (fun τ => rfl) rfl rfl (by decide) (by decide) rfl rfl (by omega) C t7 t8 t9 t10 t11 t12 t13 t14 t15
      obtain ⟨k0', k1', loc', e2⟩ := ih k0 (kstep kind l k1) (told ++ [rowS (C4.of k1) (C4.of (kstep kind l k1)) (C4.of k0)]) (some (.int (1 : Nat))) (some (.int kind)) (some (.int l)) u7 u8 u9 u10 u11 u12 u13 t14 t15 (fun c hc => hok c (by simp [hc])) hk0 (kstep_lt kind l k1 hk1 hl)
        (by omega) (by have := kstep_len kind l k1; omega) (by simp; omega)
      refine ⟨k0', k1', loc', ?_⟩
      rw [List.map_cons]
      refine for_step (loc₁ := [C, some (.lst [.inst a.HD 0, .inst a.HD 2]), some (.ref 4), some (.ref 5), some (.int (1 : Nat)), some (.int kind), some (.int l), t7, t8, t9, t10, t11, t12, t13, t14, t15]) (σ₁ := H0 a k0 k1 told) rfl e ?_
      refine Eq.trans ?_ (e2.trans ?_)
      · rfl
      · rw [of_kstep kind l k1 hkind hl, specL, if_neg (show ¬ (1 : Nat) = 0 from by decide), List.append_assoc]; rfl
end Mine
namespace Mine
open PySem PySem.Spec PySem.Calls PyProof.Rows PySem.W
noncomputable def D0 (c d : C4) (due : List V) : Hp := [.lst (cntV c), .lst (cntV d), .lst due]
theorem due_loop (a : Ad) (C : Option V) : ∀ (cs : List Cl) (c d : C4) (due : List V) (t3 t4 t5 t6 t7 t8 t9 t10 t11 t12 t13 t14 t15 t16 t17 t18 t19 : Option V), (∀ x ∈ cs, okC x) →
    c.nt + cs.length ≤ 40 → d.nt + cs.length ≤ 40 → due.length + cs.length ≤ 900 → ∃ c' d' loc',
    forL (tupT [nmA 3, nmA 4, nmA 5]) (dueF2_b0 a) (cs.map callV) [C, some (.lst [.ref 0, .ref 1]), some (.ref 2), t3, t4, t5, t6, t7, t8, t9, t10, t11, t12, t13, t14, t15, t16, t17, t18, t19] (D0 c d due)
      = some (.next, C :: some (.lst [.ref 0, .ref 1]) :: some (.ref 2) :: loc', D0 c' d' (due ++ specL cs c d)) := by
  intro cs
  induction cs with
  | nil => intro c d due t3 t4 t5 t6 t7 t8 t9 t10 t11 t12 t13 t14 t15 t16 t17 t18 t19 _ _ _ _; exact ⟨c, d, _, by simp [forL, specL]; rfl⟩
  | cons x cs ih =>
    intro c d due t3 t4 t5 t6 t7 t8 t9 t10 t11 t12 t13 t14 t15 t16 t17 t18 t19 hok hc hd hdu
    obtain ⟨w, kind, l⟩ := x
    obtain ⟨hw, hkind, hl⟩ := hok (w, kind, l) (by simp)
    simp only at hw hkind hl
    simp only [List.length_cons] at hc hd hdu
    have hw2 : w = 0 ∨ w = 1 := by omega
    rcases hw2 with rfl | rfl
    · obtain ⟨u6, u7, u8, u9, u10, u11, u12, u13, u14, u15, e⟩ := due_step a (σ := D0 c d due) (T := .lst [.ref 0, .ref 1]) (w := 0) (kind := kind) (l := l) (c := c) (d := d) (due := due) (fun τ => rfl) (fun τ => rfl) hl hkind (by omega) rfl rfl rfl (by omega) (by omega) (by omega) C t6 t7 t8 t9 t10 t11 t12 t13 t14 t15 t16 t17 t18 t19
      have hn := nt_put2 c l kind hl
      obtain ⟨c', d', loc', e2⟩ := ih (c.put l (nowOf kind (c.get l))) d (due ++ [rowS c (c.put l (nowOf kind (c.get l))) d]) (some (.int (0 : Nat))) (some (.int kind)) (some (.int l)) u6 u7 u8 u9 u10 u11 u12 u13 u14 u15 t16 t17 t18 t19 (fun x hx => hok x (by simp [hx])) (by omega) (by omega) (by simp; omega)
      refine ⟨c', d', loc', ?_⟩
      rw [List.map_cons]
      refine for_step (loc₁ := [C, some (.lst [.ref 0, .ref 1]), some (.ref 2), some (.int (0 : Nat)), some (.int kind), some (.int l), t6, t7, t8, t9, t10, t11, t12, t13, t14, t15, t16, t17, t18, t19]) (σ₁ := D0 c d due) rfl e ?_
      refine Eq.trans ?_ (e2.trans ?_)
      · rfl
      · rw [specL, if_pos rfl, List.append_assoc]; rfl
    · obtain ⟨u6, u7, u8, u9, u10, u11, u12, u13, u14, u15, e⟩ := due_step a (σ := D0 c d due) (T := .lst [.ref 0, .ref 1]) (w := 1) (kind := kind) (l := l) (c := d) (d := c) (due := due) (fun τ => rfl) (fun τ => rfl) hl hkind (by omega) rfl rfl rfl (by omega) (by omega) (by omega) C t6 t7 t8 t9 t10 t11 t12 t13 t14 t15 t16 t17 t18 t19
      have hn := nt_put2 d l kind hl
      obtain ⟨c', d', loc', e2⟩ := ih c (d.put l (nowOf kind (d.get l))) (due ++ [rowS d (d.put l (nowOf kind (d.get l))) c]) (some (.int (1 : Nat))) (some (.int kind)) (some (.int l)) u6 u7 u8 u9 u10 u11 u12 u13 u14 u15 t16 t17 t18 t19 (fun x hx => hok x (by simp [hx])) (by omega) (by omega) (by simp; omega)
      refine ⟨c', d', loc', ?_⟩
      rw [List.map_cons]
      refine for_step (loc₁ := [C, some (.lst [.ref 0, .ref 1]), some (.ref 2), some (.int (1 : Nat)), some (.int kind), some (.int l), t6, t7, t8, t9, t10, t11, t12, t13, t14, t15, t16, t17, t18, t19]) (σ₁ := D0 c d due) rfl e ?_
      refine Eq.trans ?_ (e2.trans ?_)
      · rfl
      · rw [specL, if_neg (show ¬ (1 : Nat) = 0 from by decide), List.append_assoc]; rfl
theorem lowBs_ints (n : Nat) : ∀ l : List Int, V.lowBs n (l.map V.int) = true := by
  intro l
  induction l with
  | nil => rfl
  | cons i l ih => simp [V.lowBs, V.lowB, ih]
theorem rowS_low (c c' d : C4) (n : Nat) : (rowS c c' d).lowB n = true := by
  simp [rowS, itemS, levV, V.lowB, V.lowBs, lowBs_ints]
theorem specL_low (n : Nat) : ∀ (cs : List Cl) (c d : C4), V.lowBs n (specL cs c d) = true := by
  intro cs
  induction cs with
  | nil => intro c d; rfl
  | cons x cs ih => intro c d; unfold specL; split <;> simp [V.lowBs, rowS_low, ih]
noncomputable def rowDat (c c' d : C4) : PyData := .tuple [.tuple [.int c'.n, .int c'.nt, .tuple [.tuple ((form c').map .int), .int 0], .str (tfS (decide (((form c').length : Int) ≤ 1))), .list [.int (lev 1 c'), .int (lev 2 c'), .int (lev 3 c'), .int (lev 4 c'), .int (lev 5 c')]], .str (str3 (ltC c c') (ltC c' c) (decide (form c = form c'))), .str (str3 (ltC c' d) (ltC d c') (decide (form c' = form d)))]
theorem str3_ok (x y z : Bool) : PySem.PyData.strOk (str3 x y z) = true := by cases x <;> cases y <;> cases z <;> decide +kernel
theorem tfS_ok (b : Bool) : PySem.PyData.strOk (tfS b) = true := by cases b <;> decide +kernel
theorem rowS_data (c c' d : C4) : V.data (rowS c c' d) = some (rowDat c c' d) := by
  simp [rowS, itemS, levV, V.data, V.datas, datas_ints, str3_ok, tfS_ok, rowDat]
theorem rowDat_refl (c c' d : C4) : PyData.eqv (rowDat c c' d) (rowDat c c' d) = true := by
  simp [rowDat, PyData.eqv, PyData.eqvAll, eqvAll_ints]
theorem rowDat_depth (c c' d : C4) : (rowDat c c' d).depth ≤ 5 := by
  simp [rowDat, PyData.depth, PyData.depthAll, depth_ints]
theorem spec_datas : ∀ (cs : List Cl) (c d : C4), ∃ ds, V.datas (specL cs c d) = some ds ∧ PyData.eqvAll ds ds = true ∧ PyData.depthAll ds ≤ 5 := by
  intro cs
  induction cs with
  | nil => intro c d; exact ⟨[], rfl, rfl, by simp [PyData.depthAll]⟩
  | cons x cs ih =>
    intro c d
    unfold specL
    split
    · obtain ⟨ds, e1, e2, e3⟩ := ih (c.put x.2.2 (nowOf x.2.1 (c.get x.2.2))) d
      refine ⟨rowDat c (c.put x.2.2 (nowOf x.2.1 (c.get x.2.2))) d :: ds, by simp only [V.datas, rowS_data, e1], by simp [PyData.eqvAll, rowDat_refl, e2], ?_⟩
      have := rowDat_depth c (c.put x.2.2 (nowOf x.2.1 (c.get x.2.2))) d
      simp only [PyData.depthAll]; omega
    · obtain ⟨ds, e1, e2, e3⟩ := ih c (d.put x.2.2 (nowOf x.2.1 (d.get x.2.2)))
      refine ⟨rowDat d (d.put x.2.2 (nowOf x.2.1 (d.get x.2.2))) c :: ds, by simp only [V.datas, rowS_data, e1], by simp [PyData.eqvAll, rowDat_refl, e2], ?_⟩
      have := rowDat_depth d (d.put x.2.2 (nowOf x.2.1 (d.get x.2.2))) c
      simp only [PyData.depthAll]; omega
theorem spec_eq (cs : List Cl) (c d : C4) (σ : Hp) : eqF false [.lst (specL cs c d), .lst (specL cs c d)] σ = some (.bool true, σ) := by
  obtain ⟨ds, e1, e2, e3⟩ := spec_datas cs c d
  have hd : Nat.ble (min (PyData.list ds).depth (PyData.list ds).depth) 30 = true := ble_of (by simp only [PyData.depth]; omega)
  simp only [eqF, V.data, e1, hd, if_true, PyData.eqv, e2]
  rfl
theorem headers_run (a : Ad) (σ : Hp) : Headers a [] σ = some (.inst a.HD σ.length, σ ++ [.dict a.HD [.ref (σ.length + 1)], .lst []]) := by
  have h1 : (σ ++ [SO.dict a.HD [], .lst []])[σ.length]? = some (.dict a.HD []) := by simp
  have h2 : (σ ++ [SO.dict a.HD [], .lst []])[σ.length + 1]? = some (.lst []) := by simp
  have h3 : ∀ z : SO, (σ ++ [SO.dict a.HD [], .lst []]).set σ.length z = σ ++ [z, .lst []] := fun z => by simp
  have h5 : (σ ++ [SO.dict a.HD [.ref (σ.length + 1)], .lst []])[σ.length + 1]? = some (.lst []) := by simp
  have h6 : ∀ z : SO, (σ ++ [SO.dict a.HD [.ref (σ.length + 1)], z]).set (σ.length + 1) (.lst []) = σ ++ [.dict a.HD [.ref (σ.length + 1)], .lst []] := fun z => by simp
  have h7 : ∀ z : SO, (σ ++ [SO.dict a.HD [.ref (σ.length + 1)], .lst []]).set (σ.length + 1) z = σ ++ [.dict a.HD [.ref (σ.length + 1)], z] := fun z => by simp
  have hb : isF true [V.g (.type "list"), V.g (.type "list")] = fun σ => some (.bool false, σ) := by
    funext τ; simp [isF]
  have ht : ∀ τ : Hp, τ[σ.length + 1]? = some (.lst []) → typF [.ref (σ.length + 1)] τ = some (.g (.type "list"), τ) := fun τ e => by simp [typF, lstOf, e]
  have e1 : ∀ loc : Loc, loc[1]? = some (some (.ref (σ.length + 1))) → forS (tupT [nmA 2, nmA 3]) (hd_init_b0 a) (nmE 1) loc (σ ++ [.dict a.HD [.ref (σ.length + 1)], .lst []]) = some (.next, loc, σ ++ [.dict a.HD [.ref (σ.length + 1)], .lst []]) := by
    intro loc hl
    have := forS_go (tgt := tupT [nmA 2, nmA 3]) (fb := hd_init_b0 a) (fi := nmE 1) (loc := loc) (σ := σ ++ [.dict a.HD [.ref (σ.length + 1)], .lst []]) (σ₁ := σ ++ [.dict a.HD [.ref (σ.length + 1)], .lst []]) (v := .ref (σ.length + 1)) (ws := []) (b := some (σ.length + 1)) (by simp [hl]) (by simp only [srcOf, h5]) for_nil
    rw [this]
    simp only [lend, giveBack, h7, h6]
  unfold Headers clsC dfF
  rw [if_pos (by rfl)]
  unfold hd_init fnF
  rw [if_pos (by rfl)]
  simp only [hd_init_sh]
  rw [seq_go (loc₁ := [some (.inst a.HD σ.length), some (.ref (σ.length + 1)), none, none]) (σ₁ := σ ++ [.dict a.HD [], .lst []]) (by simp [locOf]) rfl]
  rw [seq_go (loc₁ := [some (.inst a.HD σ.length), some (.ref (σ.length + 1)), none, none]) (σ₁ := σ ++ [.dict a.HD [], .lst []]) (by simp [ht _ h2, hb]) rfl]
  rw [seq_go (loc₁ := [some (.inst a.HD σ.length), some (.ref (σ.length + 1)), none, none]) (σ₁ := σ ++ [.dict a.HD [.ref (σ.length + 1)], .lst []]) (by simp [stA, h1, h3]) rfl]
  rw [seq_go (loc₁ := [some (.inst a.HD σ.length), some (.ref (σ.length + 1)), none, none]) (σ₁ := σ ++ [.dict a.HD [.ref (σ.length + 1)], .lst []]) (by
    rw [ifS_e]
    simp only [cmT_e, kE_e, trV_b]
    exact seq_go (e1 _ rfl) rfl) rfl]
  rfl
theorem told_run (a : Ad) (hpv : Nat.beq a.pV a.pN = false) (cs : List Cl) (hok : ∀ c ∈ cs, okC c) (hn : cs.length ≤ 30) : toldF2 a [.lst (cs.map callV)] [] = some (.lst (specL cs (C4.of []) (C4.of [])), []) := by
  have hw : ∀ σ : Hp, Whitespace a [.str ""] σ = some (Wk a [], σ) := fun σ => by
    have := ws_run a [] (by simp) (by simp) σ
    rw [keyT_nil] at this
    show _ = some (wsC a (keyT []) (C4.of []), σ)
    rw [keyT_nil]; exact this
  obtain ⟨k0', k1', loc', e⟩ := told_loop a hpv (some (.lst (cs.map callV))) cs [] [] [] none none none none none none none none none none none none hok (by simp) (by simp) (by simp; omega) (by simp; omega) (by simp; omega)
  have hbody : fnF 1 16 false (toldF2_sh a) [.lst (cs.map callV)] [] = some (.ref 5, H0 a k0' k1' (specL cs (C4.of []) (C4.of []))) := by
    unfold fnF
    rw [if_pos (by rfl)]
    simp only [toldF2_sh]
    rw [seq_go (loc₁ := [some (.lst (cs.map callV)), some (.lst [.inst a.HD 0, .inst a.HD 2]), none, none, none, none, none, none, none, none, none, none, none, none, none, none]) (σ₁ := [.dict a.HD [.ref 1], .lst [], .dict a.HD [.ref 3], .lst []]) (by
      rw [asgS_e, lstE_e, argsE_cons, callE_e, argsE_nil]
      simp only [headers_run, argsE_cons, callE_e, argsE_nil]
      rfl) rfl]
    rw [seq_go (loc₁ := [some (.lst (cs.map callV)), some (.lst [.inst a.HD 0, .inst a.HD 2]), some (.ref 4), none, none, none, none, none, none, none, none, none, none, none, none, none]) (σ₁ := [.dict a.HD [.ref 1], .lst [], .dict a.HD [.ref 3], .lst [], .lst [Wk a [], Wk a []]]) (by
      rw [asgS_e, mlstE_e, argsE_cons, callE_e, argsE_cons, kE_e]
      simp only [hw, argsE_cons, callE_e, argsE_nil, kE_e]
      rfl) rfl]
    rw [seq_go (loc₁ := [some (.lst (cs.map callV)), some (.lst [.inst a.HD 0, .inst a.HD 2]), some (.ref 4), some (.ref 5), none, none, none, none, none, none, none, none, none, none, none, none]) (σ₁ := H0 a [] [] []) rfl rfl]
    have hf := forS_go (tgt := tupT [nmA 4, nmA 5, nmA 6]) (fb := toldF2_b0 a) (fi := nmE 0) (σ := H0 a [] [] []) (σ₁ := H0 a [] [] []) (v := .lst (cs.map callV)) (ws := cs.map callV) (b := none) (by rfl) rfl e
    rw [seq_go hf rfl]
    rfl
  unfold toldF2 trF
  rw [hbody]
  have hl := specL_low 0 cs (C4.of []) (C4.of [])
  show trunc 0 (.ref 5) (H0 a k0' k1' _) = _
  unfold trunc
  have hfz : V.frz 0 (H0 a k0' k1' (specL cs (C4.of []) (C4.of []))) (.ref 5) = .lst (specL cs (C4.of []) (C4.of [])) := rfl
  rw [hfz]
  simp [V.lowB, hl]
theorem due_run (a : Ad) (cs : List Cl) (hok : ∀ c ∈ cs, okC c) (hn : cs.length ≤ 30) : dueF2 a [.lst (cs.map callV)] [] = some (.lst (specL cs (C4.of []) (C4.of [])), []) := by
  obtain ⟨c', d', loc', e⟩ := due_loop a (some (.lst (cs.map callV))) cs (C4.of []) (C4.of []) [] none none none none none none none none none none none none none none none none none hok (by simp [C4.nt, C4.of]; omega) (by simp [C4.nt, C4.of]; omega) (by simp; omega)
  have hbody : fnF 1 20 false (dueF2_sh a) [.lst (cs.map callV)] [] = some (.ref 2, D0 c' d' (specL cs (C4.of []) (C4.of []))) := by
    unfold fnF
    rw [if_pos (by rfl)]
    simp only [dueF2_sh]
    rw [seq_go (loc₁ := [some (.lst (cs.map callV)), some (.lst [.ref 0, .ref 1]), none, none, none, none, none, none, none, none, none, none, none, none, none, none, none, none, none, none]) (σ₁ := [.lst (cntV (C4.of [])), .lst (cntV (C4.of []))]) rfl rfl]
    rw [seq_go (loc₁ := [some (.lst (cs.map callV)), some (.lst [.ref 0, .ref 1]), some (.ref 2), none, none, none, none, none, none, none, none, none, none, none, none, none, none, none, none, none]) (σ₁ := D0 (C4.of []) (C4.of []) []) rfl rfl]
    have hf := forS_go (tgt := tupT [nmA 3, nmA 4, nmA 5]) (fb := dueF2_b0 a) (fi := nmE 0) (σ := D0 (C4.of []) (C4.of []) []) (σ₁ := D0 (C4.of []) (C4.of []) []) (v := .lst (cs.map callV)) (ws := cs.map callV) (b := none) (by rfl) rfl e
    rw [seq_go hf rfl]
    rfl
  unfold dueF2 trF
  rw [hbody]
  have hl := specL_low 0 cs (C4.of []) (C4.of [])
  show trunc 0 (.ref 2) (D0 c' d' _) = _
  unfold trunc
  have hfz : V.frz 0 (D0 c' d' (specL cs (C4.of []) (C4.of []))) (.ref 2) = .lst (specL cs (C4.of []) (C4.of [])) := rfl
  rw [hfz]
  simp [V.lowB, hl]
theorem law2_run (a : Ad) (hpv : Nat.beq a.pV a.pN = false) (is : List Int) (hn : is.length ≤ 63) : ∃ loc, lawF2_sh a [some (.lst (is.map .int)), none] [] = some (.ret (.bool true), loc, []) := by
  have hc := calls_run a is hn []
  have e : (script2 is).map (fun n => callV (clOf (restOf n))) = ((script2 is).map fun n => clOf (restOf n)).map callV := by simp
  rw [e] at hc
  have hok : ∀ c ∈ (script2 is).map (fun n => clOf (restOf n)), okC c := by
    intro c hc
    obtain ⟨n, _, rfl⟩ := List.mem_map.mp hc
    exact clOf_ok _ (rest_lt n).1
  have hl : ((script2 is).map fun n => clOf (restOf n)).length ≤ 30 := by simp [script2]; omega
  generalize (script2 is).map (fun n => clOf (restOf n)) = cs at hc hok hl
  refine ⟨[some (.lst (is.map .int)), some (.lst (cs.map callV))], ?_⟩
  simp only [lawF2_sh]
  rw [seq_go (loc₁ := [some (.lst (is.map .int)), some (.lst (cs.map callV))]) (σ₁ := []) (by
    rw [asgS_e, callE_e, argsE_cons, nmE_e]
    simp [hc]) rfl]
  have hr : (op2 (eqF false) (callE (toldF2 a) [nmE 1]) (callE (dueF2 a) [nmE 1])) [some (.lst (is.map .int)), some (.lst (cs.map callV))] [] = some (.bool true, []) := by
    rw [op2_e, callE_e, argsE_cons, nmE_e]
    simp only [List.getElem?_cons_zero, List.getElem?_cons_succ, argsE_nil, told_run a hpv cs hok hl, callE_e, argsE_cons, nmE_e, due_run a cs hok hl, spec_eq]
  rw [seqS_e, retS_e, hr]
end Mine
namespace Mine
open PySem PySem.Spec PySem.Calls PyProof.Rows PySem.W PySem.W.X
theorem ints_rel {lay : Addr → List Str} {F : Addr → Prop} {ρ : List Addr} {h : Heap} : ∀ {vs : List Value} {ns : List Int}, IntsAre vs ns → VRs lay F ρ h (ns.map V.int) vs
  | _, _, .nil => .nil
  | _, _, .cons _ _ r => .cons .int (ints_rel r)
theorem aok_caller : AOk 8 callerA := ⟨rfl, by decide +kernel, by decide +kernel, rfl⟩
theorem lawF2_true (is : List Int) (hn : is.length ≤ 63) : lawF2 ad2 [.lst (is.map .int)] [] = some (.bool true, []) := by
  obtain ⟨loc, e⟩ := law2_run ad2 rfl is hn
  unfold lawF2 fnF
  rw [if_pos (by rfl)]
  show (match lawF2_sh ad2 [some (.lst (is.map .int)), none] [] with | some (.ret v, _, σ') => some (v, σ') | some (.next, _, σ') => some (.none, σ') | _ => none) = _
  rw [e]
theorem call2 : WalkX view2 loose2 (XL view2 []) (Hook.obs hook2) (Hook.val hook2) row2 def2 [] fun f vs => PySem.call f vs := by
  intro w s₀ s₁ mg mb G Y fa o pm cd doc dV kV ho hd hcd hD hmg hg args vals as L hpre hlay hrd hwl hlo
  have KX : (K2 w.params).In s₁.heap := Hook.keeps hook2 w _ _ (Hook.of hook2 w s₀ Y) L.keeps
  refine Ground.open G ?_
  intro T B D TE TW
  have O : (cx2 w s₁.heap mg mb).Ok := ⟨KX, T.g, T.b, T.builtins, T.nolimit⟩
  have hfa : mg "law" = some (.ref 290) := mg_of O.kin O.g g_law
  have hnm : def2.name = "law" := by kernel_rfl
  rw [hnm] at hmg
  rw [hmg] at hfa
  cases hfa
  wrow_args hpre hlay hrd hwl hlo
  rename_i ns _ _ _ _ _ _ _ a its _ hL _ _ _ hI _ hlen _
  have hL2 := script_obj L hL
  have hn : ns.length ≤ 63 := by omega
  have H : HInv (cx2 w s₁.heap mg mb).lay (fun _ => False) s₁.heap [] [] s₁.heap :=
    ⟨rfl, List.nodup_nil, fun a h => (nomatch h), fun a h => h.elim, fun n o a h => by simp at h, fun b o h => h⟩
  have R : VRs (cx2 w s₁.heap mg mb).lay (fun _ => False) [] s₁.heap [.lst (ns.map .int)] [.ref a] :=
    .cons (.lst ⟨id, List.not_mem_nil⟩ ⟨_, hL2⟩ (by rw [List.toList_toArray]; exact ints_rel hI)) .nil
  refine ok_lawF2 O callerA s₁ (fun _ => False) [] [] [.lst (ns.map .int)] [.ref a] (.bool true) [] _ _ aok_caller H R (lawF2_true ns hn) ?_
  intro z s' ρ' H' A' r'
  cases r'
  refine GoodW.toG ⟨.inl ⟨.bool true, .bool true, [], rfl, raisesW_false (by wrow_none_raised), ReadsW.bool _, by wrow_post, fun _ => ⟨List.nodup_nil, fun a h => (nomatch h)⟩⟩, fun b o e => A'.keep b o e (fun ⟨n, h, _⟩ => by simp at h) id, A'.os, A'.gens.trans hg⟩
theorem holds2 : rQ.Holds := head2 call2
end Mine
theorem PySem.Challenge.cw_pe0265_02_holds : PySem.Challenge.rw_pe0265_02.Holds :=
  Mine.holds2
