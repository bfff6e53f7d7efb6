import PyProof.Rows.All
import Wide.All
import OpenK.AllK
import Wide.FinOn
import Lean
import PySem.Challenge.RW_pe0265_01
set_option Elab.async false
set_option maxRecDepth 100000
set_option maxHeartbeats 4000000
set_option autoImplicit false
set_option linter.all false
namespace Mine
open PySem PySem.W PyProof.Rows
abbrev pwQ : Program := PySem.Challenge.rw_pe0265_01.row.prog
noncomputable def hS (s : String) (t : Nat) : Value := .str (Str.ofString s) t
noncomputable def hE (P : Params) (s : String) (t : Nat) (v : Value) : DictEntry := ⟨PyData.keyHash P (Str.ofString s), .str (Str.ofString s) t, v⟩
noncomputable def hN (P : Params) (c : Array Nat) (t : Nat) (v : Value) : DictEntry := ⟨PyData.keyHash P ⟨c⟩, .str ⟨c⟩ t, v⟩
noncomputable def stmtAt : List Stmt → Nat → Stmt
  | [], _ => .Pass ⟨0, 0, 0, 0⟩
  | s :: _, 0 => s
  | _ :: r, n + 1 => stmtAt r n
noncomputable def clsBody : Stmt → List Stmt
  | .ClassDef _ _ _ b .. => b
  | _ => []
noncomputable def hA (i : Nat) : Stmt := stmtAt pwQ.main.body i
noncomputable def hB (i j : Nat) : Stmt := stmtAt (clsBody (hA i)) j
noncomputable def hF (st : Stmt) (qual : String) (defaults kwdefaults doc pyModule : Value) (annotations : Option Addr) (code closureTuple : Value) (builtins : Addr) : FuncData := match st with
  | .FunctionDef name args body _ _ _ scope .. => ⟨name, Str.ofString qual, args, .stmts body, scope, 3, [], defaults, kwdefaults, doc, pyModule, annotations, code, closureTuple, builtins⟩
  | _ => default
noncomputable def K1 (P : Params) : Frag := [
  (2, ⟨.none, none, (.dict #[hN P #[105, 109, 112, 111, 114, 116, 46, 108, 111, 97, 100, 101, 100, 46, 95, 115, 114, 101] 183 (.bool true), hE P "class._frozen_importlib.BuiltinImporter" 185 (.ref 14), hN P #[119, 97, 116, 99, 104, 101, 100, 46, 105, 109, 112, 111, 114, 116] 206 (.ref 18), hE P "class._frozen_importlib.ModuleSpec" 216 (.ref 22), hE P "sys.modules.booked-epoch" 245 (.int 3 0), hN P #[105, 109, 112, 111, 114, 116, 46, 108, 97, 116, 101, 114, 45, 108, 97, 105, 100, 46, 95, 115, 114, 101] 270 (.bool true), hE P "watched.library" 272 (.ref 27), hE P "watched.library-objects" 0 (hS "\x0c" 0), hE P "watched.library-deep._sre" 273 (hS "\x04\x00\x00\x0b\x04\x00\x00\x0b\x04\x00\x00\x03\x04\x00\x00\x0b\x08\x04dict\x02" 0)] 9), #[]⟩),
  (3, ⟨(.type "dict"), none, (.dict #[hE P "__name__" 165 (hS "law_pe0265_01" 647), hE P "__doc__" 166 .none, hE P "__package__" 167 .none, hE P "__loader__" 168 (.builtin "__main__.__loader__#opaque"), hE P "__spec__" 169 .none, hE P "__annotations__" 170 (.ref 6), hE P "__builtins__" 171 (.ref 4), hE P "__file__" 173 (hS "/claim/cut.py" 172), hE P "__cached__" 174 .none, hE P "_sre" 275 (.ref 12), hE P "_wall" 288 (.ref 38), hE P "tspecials" 324 (.ref 43), hE P "_name_disallowed_re" 350 (.ref 48), hE P "_value_disallowed_re" 384 (.ref 53), hE P "_formatparam" 394 (.ref 61), hE P "Headers" 552 (.ref 182), hE P "Whitespace" 646 (.ref 248), hE P "_law_rows" 667 (.ref 259), hE P "_law_name" 680 (.ref 266), hE P "_law_told" 686 (.ref 271), hE P "_law_columns" 697 (.ref 278), hE P "_law_due" 703 (.ref 283), hE P "law" 711 (.ref 290)] 23), #[]⟩),
  (32, ⟨(.type "tuple"), none, (.seq #[] 0), #[]⟩),
  (34, ⟨(.type "tuple"), none, (.seq #[(hS "k" 285)] 0), #[]⟩),
  (35, ⟨(.type "tuple"), none, (.seq #[] 0), #[]⟩),
  (37, ⟨(.type "code"), none, (.fields #[(hS "_wall" 282), (hS "_wall" 283), (hS "/claim/cut.py" 284), (.int 2 0), (.int 1 0), (.int 0 0), (.int 0 0), (.int 3 0), (.ref 32), (.bool true), (.int 276 0), (.ref 33), .none, (.ref 34), (.ref 35), (.ref 36), (.int 286 0), (.int 2 0), (hS "/claim/cut.py" 287)]), #[]⟩),
  (38, ⟨(.type "function"), none, (.func (hF (hA 1) "_wall" .none .none .none (hS "__main__" 164) none (.ref 37) .none 0)), #[]⟩),
  (42, ⟨(.type "tuple"), none, (.seq #[(.int 14 0), (.int 14 0), (.int 4 0), (.int 1 0), (.int 1 0), (.int 9 0), (.int 0 0), (.int 4227896069 0), (.int 939524097 0), (.int 0 0), (.int 0 0), (.int 0 0), (.int 0 0), (.int 0 0), (.int 0 0), (.int 13 0), (.int 11 0), (.int 9 0), (.int 0 0), (.int 4227896069 0), (.int 939524097 0), (.int 0 0), (.int 0 0), (.int 0 0), (.int 0 0), (.int 0 0), (.int 0 0), (.int 1 0)] 0), #[]⟩),
  (43, ⟨(.type "re.Pattern"), none, (.fields #[(hS "[ \\(\\)<>@,;:\\\\\"/\\[\\]\\?=]" 292), (.int 32 323), (.int 0 0), .none, .none, (.ref 42), (.int 0 0)]), #[]⟩),
  (47, ⟨(.type "tuple"), none, (.seq #[(.int 14 0), (.int 10 0), (.int 4 0), (.int 1 0), (.int 1 0), (.int 22 0), (.int 0 0), (.int 31 0), (.int 16 0), (.int 127 0), (.int 0 0), (.int 13 0), (.int 7 0), (.int 22 0), (.int 0 0), (.int 31 0), (.int 16 0), (.int 127 0), (.int 0 0), (.int 1 0)] 0), #[]⟩),
  (48, ⟨(.type "re.Pattern"), none, (.fields #[(hS "[\\x00-\\x1F\\x7F]" 326), (.int 32 349), (.int 0 0), .none, .none, (.ref 47), (.int 0 0)]), #[]⟩),
  (52, ⟨(.type "tuple"), none, (.seq #[(.int 14 0), (.int 14 0), (.int 4 0), (.int 1 0), (.int 1 0), (.int 9 0), (.int 4294966783 0), (.int 0 0), (.int 0 0), (.int 2147483648 0), (.int 0 0), (.int 0 0), (.int 0 0), (.int 0 0), (.int 0 0), (.int 13 0), (.int 11 0), (.int 9 0), (.int 4294966783 0), (.int 0 0), (.int 0 0), (.int 2147483648 0), (.int 0 0), (.int 0 0), (.int 0 0), (.int 0 0), (.int 0 0), (.int 1 0)] 0), #[]⟩),
  (53, ⟨(.type "re.Pattern"), none, (.fields #[(hS "[\\x00-\\x08\\x0A-\\x1F\\x7F]" 352), (.int 32 383), (.int 0 0), .none, .none, (.ref 52), (.int 0 0)]), #[]⟩),
  (54, ⟨(.type "tuple"), none, (.seq #[.none, (.int 1 385)] 0), #[]⟩),
  (55, ⟨(.type "tuple"), none, (.seq #[] 0), #[]⟩),
  (57, ⟨(.type "tuple"), none, (.seq #[(hS "param" 389), (hS "value" 390), (hS "quote" 391)] 0), #[]⟩),
  (58, ⟨(.type "tuple"), none, (.seq #[] 0), #[]⟩),
  (60, ⟨(.type "code"), none, (.fields #[(hS "_formatparam" 386), (hS "_formatparam" 387), (hS "/claim/cut.py" 388), (.int 9 0), (.int 3 0), (.int 0 0), (.int 0 0), (.int 3 0), (.ref 55), (.bool true), (.int 276 0), (.ref 56), .none, (.ref 57), (.ref 58), (.ref 59), (.int 392 0), (.int 9 0), (hS "/claim/cut.py" 393)]), #[]⟩),
  (61, ⟨(.type "function"), none, (.func (hF (hA 6) "_formatparam" (.ref 54) .none .none (hS "cpy313.wsgiref.headers" 289) none (.ref 60) .none 0)), #[]⟩),
  (69, ⟨(.type "tuple"), none, (.seq #[.none] 0), #[]⟩),
  (70, ⟨(.type "tuple"), none, (.seq #[] 0), #[]⟩),
  (72, ⟨(.type "tuple"), none, (.seq #[(hS "self" 410), (hS "headers" 411), (hS "k" 412), (hS "v" 413)] 0), #[]⟩),
  (73, ⟨(.type "tuple"), none, (.seq #[] 0), #[]⟩),
  (75, ⟨(.type "code"), none, (.fields #[(hS "__init__" 407), (hS "Headers.__init__" 408), (hS "/claim/cut.py" 409), (.int 20 0), (.int 2 0), (.int 0 0), (.int 0 0), (.int 3 0), (.ref 70), (.bool true), (.int 276 0), (.ref 71), .none, (.ref 72), (.ref 73), (.ref 74), (.int 414 0), (.int 20 0), (hS "/claim/cut.py" 415)]), #[]⟩),
  (76, ⟨(.type "function"), none, (.func (hF (hB 7 0) "Headers.__init__" (.ref 69) .none .none (hS "cpy313.wsgiref.headers" 289) none (.ref 75) .none 0)), #[]⟩),
  (77, ⟨(.type "tuple"), none, (.seq #[] 0), #[]⟩),
  (79, ⟨(.type "tuple"), none, (.seq #[(hS "self" 420), (hS "value" 421), (hS "name" 422), (hS "regex" 423)] 0), #[]⟩),
  (80, ⟨(.type "tuple"), none, (.seq #[] 0), #[]⟩),
  (82, ⟨(.type "code"), none, (.fields #[(hS "_convert_string_type" 417), (hS "Headers._convert_string_type" 418), (hS "/claim/cut.py" 419), (.int 30 0), (.int 2 0), (.int 0 0), (.int 1 0), (.int 3 0), (.ref 77), (.bool true), (.int 276 0), (.ref 78), .none, (.ref 79), (.ref 80), (.ref 81), (.int 424 0), (.int 30 0), (hS "/claim/cut.py" 425)]), #[]⟩),
  (83, ⟨(.type "function"), none, (.func (hF (hB 7 1) "Headers._convert_string_type" .none .none .none (hS "cpy313.wsgiref.headers" 289) none (.ref 82) .none 0)), #[]⟩),
  (84, ⟨(.type "tuple"), none, (.seq #[] 0), #[]⟩),
  (86, ⟨(.type "tuple"), none, (.seq #[(hS "self" 430)] 0), #[]⟩),
  (87, ⟨(.type "tuple"), none, (.seq #[] 0), #[]⟩),
  (89, ⟨(.type "code"), none, (.fields #[(hS "__len__" 427), (hS "Headers.__len__" 428), (hS "/claim/cut.py" 429), (.int 38 0), (.int 1 0), (.int 0 0), (.int 0 0), (.int 3 0), (.ref 84), (.bool true), (.int 276 0), (.ref 85), .none, (.ref 86), (.ref 87), (.ref 88), (.int 431 0), (.int 38 0), (hS "/claim/cut.py" 432)]), #[]⟩),
  (90, ⟨(.type "function"), none, (.func (hF (hB 7 2) "Headers.__len__" .none .none .none (hS "cpy313.wsgiref.headers" 289) none (.ref 89) .none 0)), #[]⟩),
  (91, ⟨(.type "tuple"), none, (.seq #[] 0), #[]⟩),
  (93, ⟨(.type "tuple"), none, (.seq #[(hS "self" 437), (hS "name" 438), (hS "val" 439)] 0), #[]⟩),
  (94, ⟨(.type "tuple"), none, (.seq #[] 0), #[]⟩),
  (96, ⟨(.type "code"), none, (.fields #[(hS "__setitem__" 434), (hS "Headers.__setitem__" 435), (hS "/claim/cut.py" 436), (.int 41 0), (.int 3 0), (.int 0 0), (.int 0 0), (.int 3 0), (.ref 91), (.bool true), (.int 276 0), (.ref 92), .none, (.ref 93), (.ref 94), (.ref 95), (.int 440 0), (.int 41 0), (hS "/claim/cut.py" 441)]), #[]⟩),
  (97, ⟨(.type "function"), none, (.func (hF (hB 7 3) "Headers.__setitem__" .none .none .none (hS "cpy313.wsgiref.headers" 289) none (.ref 96) .none 0)), #[]⟩),
  (98, ⟨(.type "tuple"), none, (.seq #[] 0), #[]⟩),
  (101, ⟨(.type "code"), none, (.fields #[(hS "__delitem__" 443), (hS "Headers.__delitem__" 444), (hS "/claim/cut.py" 445), (.int 45 0), (.int 2 0), (.int 0 0), (.int 0 0), (.int 3 0), (.ref 98), (.bool true), (.int 276 0), (.ref 99), .none, .none, .none, (.ref 100), (.int 446 0), (.int 45 0), (hS "/claim/cut.py" 447)]), #[]⟩),
  (102, ⟨(.type "function"), none, (.func (hF (hB 7 4) "Headers.__delitem__" .none .none .none (hS "cpy313.wsgiref.headers" 289) none (.ref 101) .none 0)), #[]⟩),
  (103, ⟨(.type "tuple"), none, (.seq #[] 0), #[]⟩),
  (105, ⟨(.type "tuple"), none, (.seq #[(hS "self" 452), (hS "name" 453)] 0), #[]⟩),
  (106, ⟨(.type "tuple"), none, (.seq #[] 0), #[]⟩),
  (108, ⟨(.type "code"), none, (.fields #[(hS "__getitem__" 449), (hS "Headers.__getitem__" 450), (hS "/claim/cut.py" 451), (.int 49 0), (.int 2 0), (.int 0 0), (.int 0 0), (.int 3 0), (.ref 103), (.bool true), (.int 276 0), (.ref 104), .none, (.ref 105), (.ref 106), (.ref 107), (.int 454 0), (.int 49 0), (hS "/claim/cut.py" 455)]), #[]⟩),
  (109, ⟨(.type "function"), none, (.func (hF (hB 7 5) "Headers.__getitem__" .none .none .none (hS "cpy313.wsgiref.headers" 289) none (.ref 108) .none 0)), #[]⟩),
  (110, ⟨(.type "tuple"), none, (.seq #[] 0), #[]⟩),
  (112, ⟨(.type "tuple"), none, (.seq #[(hS "self" 460), (hS "name" 461)] 0), #[]⟩),
  (113, ⟨(.type "tuple"), none, (.seq #[] 0), #[]⟩),
  (115, ⟨(.type "code"), none, (.fields #[(hS "__contains__" 457), (hS "Headers.__contains__" 458), (hS "/claim/cut.py" 459), (.int 52 0), (.int 2 0), (.int 0 0), (.int 0 0), (.int 3 0), (.ref 110), (.bool true), (.int 276 0), (.ref 111), .none, (.ref 112), (.ref 113), (.ref 114), (.int 462 0), (.int 52 0), (hS "/claim/cut.py" 463)]), #[]⟩),
  (116, ⟨(.type "function"), none, (.func (hF (hB 7 6) "Headers.__contains__" .none .none .none (hS "cpy313.wsgiref.headers" 289) none (.ref 115) .none 0)), #[]⟩),
  (117, ⟨(.type "tuple"), none, (.seq #[] 0), #[]⟩),
  (120, ⟨(.type "code"), none, (.fields #[(hS "get_all" 465), (hS "Headers.get_all" 466), (hS "/claim/cut.py" 467), (.int 55 0), (.int 2 0), (.int 0 0), (.int 0 0), (.int 3 0), (.ref 117), (.bool true), (.int 276 0), (.ref 118), .none, .none, .none, (.ref 119), (.int 468 0), (.int 55 0), (hS "/claim/cut.py" 469)]), #[]⟩),
  (121, ⟨(.type "function"), none, (.func (hF (hB 7 7) "Headers.get_all" .none .none .none (hS "cpy313.wsgiref.headers" 289) none (.ref 120) .none 0)), #[]⟩),
  (122, ⟨(.type "tuple"), none, (.seq #[.none] 0), #[]⟩),
  (123, ⟨(.type "tuple"), none, (.seq #[] 0), #[]⟩),
  (125, ⟨(.type "tuple"), none, (.seq #[(hS "self" 474), (hS "name" 475), (hS "default" 476), (hS "k" 477), (hS "v" 478)] 0), #[]⟩),
  (126, ⟨(.type "tuple"), none, (.seq #[] 0), #[]⟩),
  (128, ⟨(.type "code"), none, (.fields #[(hS "get" 471), (hS "Headers.get" 472), (hS "/claim/cut.py" 473), (.int 59 0), (.int 3 0), (.int 0 0), (.int 0 0), (.int 3 0), (.ref 123), (.bool true), (.int 276 0), (.ref 124), .none, (.ref 125), (.ref 126), (.ref 127), (.int 479 0), (.int 59 0), (hS "/claim/cut.py" 480)]), #[]⟩),
  (129, ⟨(.type "function"), none, (.func (hF (hB 7 8) "Headers.get" (.ref 122) .none .none (hS "cpy313.wsgiref.headers" 289) none (.ref 128) .none 0)), #[]⟩),
  (130, ⟨(.type "tuple"), none, (.seq #[] 0), #[]⟩),
  (133, ⟨(.type "code"), none, (.fields #[(hS "keys" 482), (hS "Headers.keys" 483), (hS "/claim/cut.py" 484), (.int 66 0), (.int 1 0), (.int 0 0), (.int 0 0), (.int 3 0), (.ref 130), (.bool true), (.int 276 0), (.ref 131), .none, .none, .none, (.ref 132), (.int 485 0), (.int 66 0), (hS "/claim/cut.py" 486)]), #[]⟩),
  (134, ⟨(.type "function"), none, (.func (hF (hB 7 9) "Headers.keys" .none .none .none (hS "cpy313.wsgiref.headers" 289) none (.ref 133) .none 0)), #[]⟩),
  (135, ⟨(.type "tuple"), none, (.seq #[] 0), #[]⟩),
  (138, ⟨(.type "code"), none, (.fields #[(hS "values" 488), (hS "Headers.values" 489), (hS "/claim/cut.py" 490), (.int 69 0), (.int 1 0), (.int 0 0), (.int 0 0), (.int 3 0), (.ref 135), (.bool true), (.int 276 0), (.ref 136), .none, .none, .none, (.ref 137), (.int 491 0), (.int 69 0), (hS "/claim/cut.py" 492)]), #[]⟩),
  (139, ⟨(.type "function"), none, (.func (hF (hB 7 10) "Headers.values" .none .none .none (hS "cpy313.wsgiref.headers" 289) none (.ref 138) .none 0)), #[]⟩),
  (140, ⟨(.type "tuple"), none, (.seq #[] 0), #[]⟩),
  (142, ⟨(.type "tuple"), none, (.seq #[(hS "self" 497)] 0), #[]⟩),
  (143, ⟨(.type "tuple"), none, (.seq #[] 0), #[]⟩),
  (145, ⟨(.type "code"), none, (.fields #[(hS "items" 494), (hS "Headers.items" 495), (hS "/claim/cut.py" 496), (.int 72 0), (.int 1 0), (.int 0 0), (.int 0 0), (.int 3 0), (.ref 140), (.bool true), (.int 276 0), (.ref 141), .none, (.ref 142), (.ref 143), (.ref 144), (.int 498 0), (.int 72 0), (hS "/claim/cut.py" 499)]), #[]⟩),
  (146, ⟨(.type "function"), none, (.func (hF (hB 7 11) "Headers.items" .none .none .none (hS "cpy313.wsgiref.headers" 289) none (.ref 145) .none 0)), #[]⟩),
  (147, ⟨(.type "tuple"), none, (.seq #[] 0), #[]⟩),
  (149, ⟨(.type "tuple"), none, (.seq #[(hS "self" 504)] 0), #[]⟩),
  (150, ⟨(.type "tuple"), none, (.seq #[] 0), #[]⟩),
  (152, ⟨(.type "code"), none, (.fields #[(hS "__repr__" 501), (hS "Headers.__repr__" 502), (hS "/claim/cut.py" 503), (.int 75 0), (.int 1 0), (.int 0 0), (.int 0 0), (.int 3 0), (.ref 147), (.bool true), (.int 276 0), (.ref 148), .none, (.ref 149), (.ref 150), (.ref 151), (.int 505 0), (.int 75 0), (hS "/claim/cut.py" 506)]), #[]⟩),
  (153, ⟨(.type "function"), none, (.func (hF (hB 7 12) "Headers.__repr__" .none .none .none (hS "cpy313.wsgiref.headers" 289) none (.ref 152) .none 0)), #[]⟩),
  (154, ⟨(.type "tuple"), none, (.seq #[] 0), #[]⟩),
  (157, ⟨(.type "code"), none, (.fields #[(hS "__str__" 508), (hS "Headers.__str__" 509), (hS "/claim/cut.py" 510), (.int 78 0), (.int 1 0), (.int 0 0), (.int 0 0), (.int 3 0), (.ref 154), (.bool true), (.int 276 0), (.ref 155), .none, .none, .none, (.ref 156), (.int 511 0), (.int 78 0), (hS "/claim/cut.py" 512)]), #[]⟩),
  (158, ⟨(.type "function"), none, (.func (hF (hB 7 13) "Headers.__str__" .none .none .none (hS "cpy313.wsgiref.headers" 289) none (.ref 157) .none 0)), #[]⟩),
  (159, ⟨(.type "tuple"), none, (.seq #[] 0), #[]⟩),
  (161, ⟨(.type "tuple"), none, (.seq #[(hS "self" 517)] 0), #[]⟩),
  (162, ⟨(.type "tuple"), none, (.seq #[] 0), #[]⟩),
  (164, ⟨(.type "code"), none, (.fields #[(hS "__bytes__" 514), (hS "Headers.__bytes__" 515), (hS "/claim/cut.py" 516), (.int 81 0), (.int 1 0), (.int 0 0), (.int 0 0), (.int 3 0), (.ref 159), (.bool true), (.int 276 0), (.ref 160), .none, (.ref 161), (.ref 162), (.ref 163), (.int 518 0), (.int 81 0), (hS "/claim/cut.py" 519)]), #[]⟩),
  (165, ⟨(.type "function"), none, (.func (hF (hB 7 14) "Headers.__bytes__" .none .none .none (hS "cpy313.wsgiref.headers" 289) none (.ref 164) .none 0)), #[]⟩),
  (166, ⟨(.type "tuple"), none, (.seq #[] 0), #[]⟩),
  (168, ⟨(.type "tuple"), none, (.seq #[(hS "self" 524), (hS "name" 525), (hS "value" 526), (hS "result" 527)] 0), #[]⟩),
  (169, ⟨(.type "tuple"), none, (.seq #[] 0), #[]⟩),
  (171, ⟨(.type "code"), none, (.fields #[(hS "setdefault" 521), (hS "Headers.setdefault" 522), (hS "/claim/cut.py" 523), (.int 84 0), (.int 3 0), (.int 0 0), (.int 0 0), (.int 3 0), (.ref 166), (.bool true), (.int 276 0), (.ref 167), .none, (.ref 168), (.ref 169), (.ref 170), (.int 528 0), (.int 84 0), (hS "/claim/cut.py" 529)]), #[]⟩),
  (172, ⟨(.type "function"), none, (.func (hF (hB 7 15) "Headers.setdefault" .none .none .none (hS "cpy313.wsgiref.headers" 289) none (.ref 171) .none 0)), #[]⟩),
  (173, ⟨(.type "tuple"), none, (.seq #[] 0), #[]⟩),
  (175, ⟨(.type "tuple"), none, (.seq #[(hS "self" 534), (hS "_name" 535), (hS "_value" 536), (hS "_params" 537), (hS "parts" 538), (hS "k" 539), (hS "v" 540)] 0), #[]⟩),
  (176, ⟨(.type "tuple"), none, (.seq #[] 0), #[]⟩),
  (178, ⟨(.type "code"), none, (.fields #[(hS "add_header" 531), (hS "Headers.add_header" 532), (hS "/claim/cut.py" 533), (.int 92 0), (.int 3 0), (.int 0 0), (.int 0 0), (.int 11 0), (.ref 173), (.bool true), (.int 276 0), (.ref 174), .none, (.ref 175), (.ref 176), (.ref 177), (.int 541 0), (.int 92 0), (hS "/claim/cut.py" 542)]), #[]⟩),
  (179, ⟨(.type "function"), none, (.func (hF (hB 7 16) "Headers.add_header" .none .none .none (hS "cpy313.wsgiref.headers" 289) none (.ref 178) .none 0)), #[]⟩),
  (180, ⟨(.type "tuple"), none, (.seq #[(hS "_headers" 544)] 0), #[]⟩),
  (181, ⟨(.type "dict"), none, (.dict #[hE P "__module__" 402 (hS "cpy313.wsgiref.headers" 289), hE P "__firstlineno__" 406 (.int 18 405), hE P "__init__" 416 (.ref 76), hE P "_convert_string_type" 426 (.ref 83), hE P "__len__" 433 (.ref 90), hE P "__setitem__" 442 (.ref 97), hE P "__delitem__" 448 (.ref 102), hE P "__getitem__" 456 (.ref 109), hE P "__contains__" 464 (.ref 116), hE P "get_all" 470 (.ref 121), hE P "get" 481 (.ref 129), hE P "keys" 487 (.ref 134), hE P "values" 493 (.ref 139), hE P "items" 500 (.ref 146), hE P "__repr__" 507 (.ref 153), hE P "__str__" 513 (.ref 158), hE P "__bytes__" 520 (.ref 165), hE P "setdefault" 530 (.ref 172), hE P "add_header" 543 (.ref 179), hE P "__static_attributes__" 545 (.ref 180), hE P "__dict__" 547 (.ref 183), hE P "__weakref__" 549 (.ref 184), hE P "__doc__" 550 .none] 4), #[]⟩),
  (182, ⟨(.type "type"), none, (.cls { name := "Headers", bases := [(.type "object")], mro := [(.ref 182), (.type "object")], ns := 181, qualname := "Headers", hasDict := true, slotNames := [], subclasses := [], abstract := false, collection := none, hasDel := false }), #[none, none, (some (hS "Headers" 395)), (some (hS "Headers" 403)), (some (.builtin "object.__new__")), (some (.bool true))]⟩),
  (183, ⟨(.type "getset_descriptor"), none, (.fields #[(hS "__dict__" 546), (.ref 182), (.builtin "function.__dict__"), (.builtin "function.__dict__#set")]), #[]⟩),
  (184, ⟨(.type "getset_descriptor"), none, (.fields #[(hS "__weakref__" 548), (.ref 182), (.builtin "ExceptionGroup.__weakref__"), .none]), #[]⟩),
  (197, ⟨(.type "tuple"), none, (.seq #[] 0), #[]⟩),
  (199, ⟨(.type "tuple"), none, (.seq #[(hS "self" 575), (hS "ws" 576), (hS "S" 577), (hS "T" 578), (hS "count" 579), (hS "b" 580), (hS "n" 581), (hS "nt" 582), (hS "ch" 583)] 0), #[]⟩),
  (200, ⟨(.type "tuple"), none, (.seq #[] 0), #[]⟩),
  (202, ⟨(.type "code"), none, (.fields #[(hS "__init__" 572), (hS "Whitespace.__init__" 573), (hS "/claim/cut.py" 574), (.int 109 0), (.int 2 0), (.int 0 0), (.int 0 0), (.int 3 0), (.ref 197), (.bool true), (.int 276 0), (.ref 198), .none, (.ref 199), (.ref 200), (.ref 201), (.int 584 0), (.int 109 0), (hS "/claim/cut.py" 585)]), #[]⟩),
  (203, ⟨(.type "function"), none, (.func (hF (hB 9 1) "Whitespace.__init__" .none .none .none (hS "cpy313.tabnanny" 553) none (.ref 202) .none 0)), #[]⟩),
  (204, ⟨(.type "tuple"), none, (.seq #[] 0), #[]⟩),
  (206, ⟨(.type "tuple"), none, (.seq #[(hS "self" 590)] 0), #[]⟩),
  (207, ⟨(.type "tuple"), none, (.seq #[] 0), #[]⟩),
  (209, ⟨(.type "code"), none, (.fields #[(hS "longest_run_of_spaces" 587), (hS "Whitespace.longest_run_of_spaces" 588), (hS "/claim/cut.py" 589), (.int 132 0), (.int 1 0), (.int 0 0), (.int 0 0), (.int 3 0), (.ref 204), (.bool true), (.int 276 0), (.ref 205), .none, (.ref 206), (.ref 207), (.ref 208), (.int 591 0), (.int 132 0), (hS "/claim/cut.py" 592)]), #[]⟩),
  (210, ⟨(.type "function"), none, (.func (hF (hB 9 2) "Whitespace.longest_run_of_spaces" .none .none .none (hS "cpy313.tabnanny" 553) none (.ref 209) .none 0)), #[]⟩),
  (211, ⟨(.type "tuple"), none, (.seq #[] 0), #[]⟩),
  (213, ⟨(.type "tuple"), none, (.seq #[(hS "self" 597), (hS "tabsize" 598)] 0), #[]⟩),
  (214, ⟨(.type "tuple"), none, (.seq #[] 0), #[]⟩),
  (216, ⟨(.type "code"), none, (.fields #[(hS "indent_level" 594), (hS "Whitespace.indent_level" 595), (hS "/claim/cut.py" 596), (.int 135 0), (.int 2 0), (.int 0 0), (.int 0 0), (.int 3 0), (.ref 211), (.bool true), (.int 276 0), (.ref 212), .none, (.ref 213), (.ref 214), (.ref 215), (.int 599 0), (.int 135 0), (hS "/claim/cut.py" 600)]), #[]⟩),
  (217, ⟨(.type "function"), none, (.func (hF (hB 9 3) "Whitespace.indent_level" .none .none .none (hS "cpy313.tabnanny" 553) none (.ref 216) .none 0)), #[]⟩),
  (218, ⟨(.type "tuple"), none, (.seq #[] 0), #[]⟩),
  (220, ⟨(.type "tuple"), none, (.seq #[(hS "self" 605), (hS "other" 606)] 0), #[]⟩),
  (221, ⟨(.type "tuple"), none, (.seq #[] 0), #[]⟩),
  (223, ⟨(.type "code"), none, (.fields #[(hS "equal" 602), (hS "Whitespace.equal" 603), (hS "/claim/cut.py" 604), (.int 138 0), (.int 2 0), (.int 0 0), (.int 0 0), (.int 3 0), (.ref 218), (.bool true), (.int 276 0), (.ref 219), .none, (.ref 220), (.ref 221), (.ref 222), (.int 607 0), (.int 138 0), (hS "/claim/cut.py" 608)]), #[]⟩),
  (224, ⟨(.type "function"), none, (.func (hF (hB 9 4) "Whitespace.equal" .none .none .none (hS "cpy313.tabnanny" 553) none (.ref 223) .none 0)), #[]⟩),
  (225, ⟨(.type "tuple"), none, (.seq #[] 0), #[]⟩),
  (227, ⟨(.type "tuple"), none, (.seq #[(hS "self" 613), (hS "other" 614)] 0), #[]⟩),
  (228, ⟨(.type "tuple"), none, (.seq #[] 0), #[]⟩),
  (230, ⟨(.type "code"), none, (.fields #[(hS "not_equal_witness" 610), (hS "Whitespace.not_equal_witness" 611), (hS "/claim/cut.py" 612), (.int 141 0), (.int 2 0), (.int 0 0), (.int 0 0), (.int 3 0), (.ref 225), (.bool true), (.int 276 0), (.ref 226), .none, (.ref 227), (.ref 228), (.ref 229), (.int 615 0), (.int 141 0), (hS "/claim/cut.py" 616)]), #[]⟩),
  (231, ⟨(.type "function"), none, (.func (hF (hB 9 5) "Whitespace.not_equal_witness" .none .none .none (hS "cpy313.tabnanny" 553) none (.ref 230) .none 0)), #[]⟩),
  (232, ⟨(.type "tuple"), none, (.seq #[] 0), #[]⟩),
  (234, ⟨(.type "tuple"), none, (.seq #[(hS "self" 621), (hS "other" 622)] 0), #[]⟩),
  (235, ⟨(.type "tuple"), none, (.seq #[] 0), #[]⟩),
  (237, ⟨(.type "code"), none, (.fields #[(hS "less" 618), (hS "Whitespace.less" 619), (hS "/claim/cut.py" 620), (.int 144 0), (.int 2 0), (.int 0 0), (.int 0 0), (.int 3 0), (.ref 232), (.bool true), (.int 276 0), (.ref 233), .none, (.ref 234), (.ref 235), (.ref 236), (.int 623 0), (.int 144 0), (hS "/claim/cut.py" 624)]), #[]⟩),
  (238, ⟨(.type "function"), none, (.func (hF (hB 9 6) "Whitespace.less" .none .none .none (hS "cpy313.tabnanny" 553) none (.ref 237) .none 0)), #[]⟩),
  (239, ⟨(.type "tuple"), none, (.seq #[] 0), #[]⟩),
  (241, ⟨(.type "tuple"), none, (.seq #[(hS "self" 629), (hS "other" 630)] 0), #[]⟩),
  (242, ⟨(.type "tuple"), none, (.seq #[] 0), #[]⟩),
  (244, ⟨(.type "code"), none, (.fields #[(hS "not_less_witness" 626), (hS "Whitespace.not_less_witness" 627), (hS "/claim/cut.py" 628), (.int 147 0), (.int 2 0), (.int 0 0), (.int 0 0), (.int 3 0), (.ref 239), (.bool true), (.int 276 0), (.ref 240), .none, (.ref 241), (.ref 242), (.ref 243), (.int 631 0), (.int 147 0), (hS "/claim/cut.py" 632)]), #[]⟩),
  (245, ⟨(.type "function"), none, (.func (hF (hB 9 7) "Whitespace.not_less_witness" .none .none .none (hS "cpy313.tabnanny" 553) none (.ref 244) .none 0)), #[]⟩),
  (246, ⟨(.type "tuple"), none, (.seq #[(hS "is_simple" 634), (hS "n" 635), (hS "norm" 636), (hS "nt" 637), (hS "raw" 638)] 0), #[]⟩),
  (247, ⟨(.type "dict"), none, (.dict #[hE P "__module__" 562 (hS "cpy313.tabnanny" 553), hE P "__firstlineno__" 566 (.int 106 565), hE P "S" 570 (hS " " 568), hE P "T" 571 (hS "\t" 569), hE P "__init__" 586 (.ref 203), hE P "longest_run_of_spaces" 593 (.ref 210), hE P "indent_level" 601 (.ref 217), hE P "equal" 609 (.ref 224), hE P "not_equal_witness" 617 (.ref 231), hE P "less" 625 (.ref 238), hE P "not_less_witness" 633 (.ref 245), hE P "__static_attributes__" 639 (.ref 246), hE P "__dict__" 641 (.ref 249), hE P "__weakref__" 643 (.ref 250), hE P "__doc__" 644 .none] 4), #[]⟩),
  (248, ⟨(.type "type"), none, (.cls { name := "Whitespace", bases := [(.type "object")], mro := [(.ref 248), (.type "object")], ns := 247, qualname := "Whitespace", hasDict := true, slotNames := [], subclasses := [], abstract := false, collection := none, hasDel := false }), #[none, none, (some (hS "Whitespace" 555)), (some (hS "Whitespace" 563)), (some (.builtin "object.__new__")), (some (.bool true))]⟩),
  (249, ⟨(.type "getset_descriptor"), none, (.fields #[(hS "__dict__" 640), (.ref 248), (.builtin "function.__dict__"), (.builtin "function.__dict__#set")]), #[]⟩),
  (250, ⟨(.type "getset_descriptor"), none, (.fields #[(hS "__weakref__" 642), (.ref 248), (.builtin "ExceptionGroup.__weakref__"), .none]), #[]⟩),
  (253, ⟨(.type "tuple"), none, (.seq #[] 0), #[]⟩),
  (255, ⟨(.type "tuple"), none, (.seq #[(hS "script" 652), (hS "rows" 653), (hS "place" 654), (hS "number" 655), (hS "rest" 656), (hS "one" 657), (hS "two" 658), (hS "tail" 659), (hS "form" 660), (hS "deed" 661), (hS "word" 662), (hS "lead" 663), (hS "turned" 664)] 0), #[]⟩),
  (256, ⟨(.type "tuple"), none, (.seq #[] 0), #[]⟩),
  (258, ⟨(.type "code"), none, (.fields #[(hS "_law_rows" 649), (hS "_law_rows" 650), (hS "/claim/cut.py" 651), (.int 150 0), (.int 1 0), (.int 0 0), (.int 0 0), (.int 3 0), (.ref 253), (.bool true), (.int 276 0), (.ref 254), .none, (.ref 255), (.ref 256), (.ref 257), (.int 665 0), (.int 150 0), (hS "/claim/cut.py" 666)]), #[]⟩),
  (259, ⟨(.type "function"), none, (.func (hF (hA 11) "_law_rows" .none .none .none (hS "law_pe0265_01" 647) none (.ref 258) .none 0)), #[]⟩),
  (260, ⟨(.type "tuple"), none, (.seq #[] 0), #[]⟩),
  (262, ⟨(.type "tuple"), none, (.seq #[(hS "lead" 671), (hS "word" 672), (hS "count" 673), (hS "rest" 674), (hS "name" 675), (hS "length" 676), (hS "many" 677)] 0), #[]⟩),
  (263, ⟨(.type "tuple"), none, (.seq #[] 0), #[]⟩),
  (265, ⟨(.type "code"), none, (.fields #[(hS "_law_name" 668), (hS "_law_name" 669), (hS "/claim/cut.py" 670), (.int 162 0), (.int 2 0), (.int 0 0), (.int 0 0), (.int 3 0), (.ref 260), (.bool true), (.int 276 0), (.ref 261), .none, (.ref 262), (.ref 263), (.ref 264), (.int 678 0), (.int 162 0), (hS "/claim/cut.py" 679)]), #[]⟩),
  (266, ⟨(.type "function"), none, (.func (hF (hA 12) "_law_name" .none .none .none (hS "law_pe0265_01" 647) none (.ref 265) .none 0)), #[]⟩),
  (267, ⟨(.type "tuple"), none, (.seq #[] 0), #[]⟩),
  (270, ⟨(.type "code"), none, (.fields #[(hS "_law_told" 681), (hS "_law_told" 682), (hS "/claim/cut.py" 683), (.int 168 0), (.int 1 0), (.int 0 0), (.int 0 0), (.int 3 0), (.ref 267), (.bool true), (.int 276 0), (.ref 268), .none, .none, .none, (.ref 269), (.int 684 0), (.int 168 0), (hS "/claim/cut.py" 685)]), #[]⟩),
  (271, ⟨(.type "function"), none, (.func (hF (hA 13) "_law_told" .none .none .none (hS "law_pe0265_01" 647) none (.ref 270) .none 0)), #[]⟩),
  (272, ⟨(.type "tuple"), none, (.seq #[] 0), #[]⟩),
  (274, ⟨(.type "tuple"), none, (.seq #[(hS "lead" 690), (hS "columns" 691), (hS "size" 692), (hS "column" 693), (hS "sign" 694)] 0), #[]⟩),
  (275, ⟨(.type "tuple"), none, (.seq #[] 0), #[]⟩),
  (277, ⟨(.type "code"), none, (.fields #[(hS "_law_columns" 687), (hS "_law_columns" 688), (hS "/claim/cut.py" 689), (.int 193 0), (.int 1 0), (.int 0 0), (.int 0 0), (.int 3 0), (.ref 272), (.bool true), (.int 276 0), (.ref 273), .none, (.ref 274), (.ref 275), (.ref 276), (.int 695 0), (.int 193 0), (hS "/claim/cut.py" 696)]), #[]⟩),
  (278, ⟨(.type "function"), none, (.func (hF (hA 14) "_law_columns" .none .none .none (hS "law_pe0265_01" 647) none (.ref 277) .none 0)), #[]⟩),
  (279, ⟨(.type "tuple"), none, (.seq #[] 0), #[]⟩),
  (282, ⟨(.type "code"), none, (.fields #[(hS "_law_due" 698), (hS "_law_due" 699), (hS "/claim/cut.py" 700), (.int 201 0), (.int 1 0), (.int 0 0), (.int 0 0), (.int 3 0), (.ref 279), (.bool true), (.int 276 0), (.ref 280), .none, .none, .none, (.ref 281), (.int 701 0), (.int 201 0), (hS "/claim/cut.py" 702)]), #[]⟩),
  (283, ⟨(.type "function"), none, (.func (hF (hA 15) "_law_due" .none .none .none (hS "law_pe0265_01" 647) none (.ref 282) .none 0)), #[]⟩),
  (284, ⟨(.type "tuple"), none, (.seq #[] 0), #[]⟩),
  (286, ⟨(.type "tuple"), none, (.seq #[(hS "script" 707), (hS "rows" 708)] 0), #[]⟩),
  (287, ⟨(.type "tuple"), none, (.seq #[] 0), #[]⟩),
  (289, ⟨(.type "code"), none, (.fields #[(hS "law" 704), (hS "law" 705), (hS "/claim/cut.py" 706), (.int 223 0), (.int 1 0), (.int 0 0), (.int 0 0), (.int 3 0), (.ref 284), (.bool true), (.int 276 0), (.ref 285), .none, (.ref 286), (.ref 287), (.ref 288), (.int 709 0), (.int 223 0), (hS "/claim/cut.py" 710)]), #[]⟩),
  (290, ⟨(.type "function"), none, (.func (hF (hA 16) "law" .none .none .none (hS "law_pe0265_01" 647) none (.ref 289) .none 0)), #[]⟩)]
noncomputable def as1 : List Nat := [2, 3, 32, 34, 35, 37, 38, 42, 43, 47, 48, 52, 53, 54, 55, 57, 58, 60, 61, 69, 70, 72, 73, 75, 76, 77, 79, 80, 82, 83, 84, 86, 87, 89, 90, 91, 93, 94, 96, 97, 98, 101, 102, 103, 105, 106, 108, 109, 110, 112, 113, 115, 116, 117, 120, 121, 122, 123, 125, 126, 128, 129, 130, 133, 134, 135, 138, 139, 140, 142, 143, 145, 146, 147, 149, 150, 152, 153, 154, 157, 158, 159, 161, 162, 164, 165, 166, 168, 169, 171, 172, 173, 175, 176, 178, 179, 180, 181, 182, 183, 184, 197, 199, 200, 202, 203, 204, 206, 207, 209, 210, 211, 213, 214, 216, 217, 218, 220, 221, 223, 224, 225, 227, 228, 230, 231, 232, 234, 235, 237, 238, 239, 241, 242, 244, 245, 246, 247, 248, 249, 250, 253, 255, 256, 258, 259, 260, 262, 263, 265, 266, 267, 270, 271, 272, 274, 275, 277, 278, 279, 282, 283, 284, 286, 287, 289, 290]
noncomputable def view1 : Program := { pwQ with main := { pwQ.main with body := [0, 1, 3, 4, 5, 7, 9, 11, 12, 13, 14, 15, 16].map hA } }
noncomputable def loose1 : List Str := [Str.ofString "tspecials", Str.ofString "_name_disallowed_re", Str.ofString "_value_disallowed_re", Str.ofString "_formatparam", Str.ofString "Whitespace"]
end Mine
namespace Mine
open PySem PySem.W PyProof.Rows
noncomputable abbrev qTab : String → Option Builtin := Fast.tw14364793385576792824
theorem qTab_eq : qTab = treeTable := Fast.te14364793385576792824.symm
noncomputable def qStep (p : Program) (w : World) (s : SharedT) (t : Thread) : Option (SharedT × Thread) := Fast.tw10156331382660048174 (Fast.tw11892475500146522536 qTab) p w s t
theorem qStep_of {p : Program} {w : World} {s s' : SharedT} {t t' : Thread} (h : qStep p w s t = some (s', t')) : step (denote treeTable) p w s.abs t = .go s'.abs t' := by
  unfold qStep at h
  rw [← Fast.te10156331382660048174, ← Fast.te11892475500146522536, qTab_eq] at h
  exact stepT_spec h
noncomputable def qTop (p : Program) (w : World) (n₀ : Nat) (ann : Option Value) : Nat → SharedT → Thread → Option SharedT
  | 0, _, _ => none
  | n + 1, s, t => match through t with
    | true => some s
    | false => match Fast.tw6613529449190102663 n₀ ann t with
      | false => none
      | true => match qStep p w s t with
        | some r => qTop p w n₀ ann n r.1 r.2
        | none => none
theorem qTop_of {p : Program} {w : World} {n₀ : Nat} {ann : Option Value} : ∀ {n : Nat} {s s' : SharedT} {t : Thread}, qTop p w n₀ ann n s t = some s' → topRun treeTable p w n₀ ann n s.abs t = some s'.abs
  | 0, _, _, _, h => by cases h
  | n + 1, s, s', t, h => by
    unfold qTop at h
    unfold topRun
    rw [← Fast.te6613529449190102663] at h
    cases ht : through t with
    | true => rw [ht] at h; cases h; rfl
    | false =>
      rw [ht] at h
      cases hk : stepOk n₀ ann t with
      | false => rw [hk] at h; cases h
      | true =>
        rw [hk] at h
        cases hs : qStep p w s t with
        | none => rw [hs] at h; cases h
        | some r => obtain ⟨s₂, t₂⟩ := r; rw [hs] at h; dsimp only; rw [qStep_of hs]; exact qTop_of h
noncomputable def qImp (p : Program) (w : World) : Nat → SharedT → Thread → Option SharedT
  | 0, _, _ => none
  | n + 1, s, t => match Fast.tw3805553451399329143 t with
    | some l => (match l with | [] => some s | _ :: _ => none)
    | none => match qStep p w s t with
      | some r => qImp p w n r.1 r.2
      | none => none
theorem qImp_of {p : Program} {w : World} : ∀ {n : Nat} {s s' : SharedT} {t : Thread}, qImp p w n s t = some s' → importEnds treeTable p w n s.abs t = some s'.abs
  | 0, _, _, _, h => by cases h
  | n + 1, s, s', t, h => by
    unfold qImp at h
    unfold importEnds
    rw [← Fast.te3805553451399329143] at h
    cases he : t.atExitBegin with
    | some l =>
      rw [he] at h
      cases l with
      | nil => cases h; rfl
      | cons x r => cases h
    | none =>
      rw [he] at h
      cases hs : qStep p w s t with
      | none => rw [hs] at h; cases h
      | some r => obtain ⟨s₂, t₂⟩ := r; rw [hs] at h; dsimp only; rw [qStep_of hs]; exact qImp_of h
noncomputable def qGrow : List Obj → BT → Nat → Option (BT × Nat)
  | [], T, n => some (T, n)
  | o :: r, T, n => match ((T.ins n o).get n).isSome with
    | true => qGrow r (T.ins n o) (n + 1)
    | false => none
theorem qGrow_of (life : Life) : ∀ {l : List Obj} {T : BT} {n : Nat} {q : BT × Nat}, qGrow l T n = some q → absHeap q.1 q.2 life = ⟨((absHeap T n life).objs.toList ++ l).toArray, life⟩
  | [], T, n, q, h => by cases h; rw [List.append_nil]; rfl
  | o :: r, T, n, q, h => by
    unfold qGrow at h
    cases hs : ((T.ins n o).get n).isSome with
    | false => rw [hs] at h; cases h
    | true =>
      rw [hs] at h
      rw [qGrow_of life h, absHeap_ins hs]
      show Heap.mk _ _ = Heap.mk _ _
      refine congrArg (Heap.mk · life) (congrArg List.toArray ?_)
      show ((absHeap T n life).objs.push o).toList ++ r = _
      rw [Array.toList_push, List.append_assoc]
      rfl
noncomputable def qTree (s : Shared) : Option SharedT := (qGrow s.heap.objs.toList .nil 0).map fun q => ⟨q.1, q.2, s.heap.life, s.gens, s.drawn, s.toks, s.os⟩
theorem qTree_of {s : Shared} {t : SharedT} (h : qTree s = some t) : t.abs = s := by
  obtain ⟨q, e, rfl⟩ := Option.map_eq_some_iff.mp h
  show (⟨absHeap q.1 q.2 s.heap.life, s.gens, s.drawn, s.toks, s.os⟩ : Shared) = s
  rw [qGrow_of s.heap.life e]
  rfl
noncomputable def qEnds (p : Program) (w : World) (N : Nat) : Option Shared :=
  (qTree (Fast.tw1435165496053646825 (opening p)).1).bind fun s => (qImp (opening p) w N s (Fast.tw1435165496053646825 (opening p)).2).bind fun s₁ => (Fast.tw14289696077712309145 p s₁.abs).bind fun s₂ => (qTree s₂).bind fun s₃ =>
    match s₂.heap.isNs mainGlobals && s₂.gens.size == 0 with
    | true => (qTop p w s₂.heap.objs.size (s₂.heap.nsMap mainGlobals "__annotations__") N s₃ (topStub p)).bind fun s₄ => (match staticsOk (importedModules p.main.body) s₂.heap s₄.abs.heap && namesBound p s₄.abs.heap && gensDone s₄.abs && laidKept s₂.heap s₄.abs.heap with
      | true => some s₄.abs
      | false => none)
    | false => none
theorem qEnds_of {p : Program} {w : World} {N : Nat} {s : Shared} (h : qEnds p w N = some s) : openEnds treeTable p w N = some s := by
  unfold qEnds at h
  rw [← Fast.te1435165496053646825, ← Fast.te14289696077712309145] at h
  obtain ⟨s0, h0, h⟩ := Option.bind_eq_some_iff.mp h
  obtain ⟨s1, h1, h⟩ := Option.bind_eq_some_iff.mp h
  obtain ⟨s2, h2, h⟩ := Option.bind_eq_some_iff.mp h
  obtain ⟨s3, h3, h⟩ := Option.bind_eq_some_iff.mp h
  unfold openEnds fencedOpening
  have a1 := qImp_of h1
  rw [qTree_of h0] at a1
  rw [a1]
  show (fenceModules? p s1.abs).bind _ = _
  rw [h2]
  show topFrom treeTable p w N s2 = _
  unfold topFrom
  cases hb : (s2.heap.isNs mainGlobals && s2.gens.size == 0) with
  | false => rw [hb] at h; cases h
  | true =>
    rw [hb] at h
    dsimp only at h ⊢
    obtain ⟨s4, h4, h⟩ := Option.bind_eq_some_iff.mp h
    have a4 := qTop_of h4
    rw [qTree_of h3] at a4
    rw [a4]
    cases hc : (staticsOk (importedModules p.main.body) s2.heap s4.abs.heap && namesBound p s4.abs.heap && gensDone s4.abs && laidKept s2.heap s4.abs.heap) with
    | false => rw [hc] at h; cases h
    | true =>
      rw [hc] at h
      show (match staticsOk (importedModules p.main.body) s2.heap s4.abs.heap && namesBound p s4.abs.heap && gensDone s4.abs && laidKept s2.heap s4.abs.heap with | true => some s4.abs | false => none) = _
      rw [hc]
      exact h
theorem qLook {p : Program} {w : World} {N : Nat} {α : Type} {f : Shared → α} {v : α} (h : (qEnds p w N).map f = some v) : (openEnds treeTable p w N).map f = some v := by
  obtain ⟨s, e, r⟩ := Option.map_eq_some_iff.mp h
  rw [qEnds_of e]
  exact congrArg some r
end Mine
namespace Mine
open PySem PySem.W PyProof.Rows
abbrev rQ : OpenLaw := PySem.Challenge.rw_pe0265_01
theorem keys1 (P : Params) : as1 = (K1 P).map (·.1) := by kernel_rfl
noncomputable abbrev hook1 : Hook := kHook K1 as1 keys1
theorem said1 : rQ.wellSaid = true := by
  rw [Fast.te9446332074065402090]
  kernel_rfl
abbrev row1 : RowW := rQ.row.toRowW
noncomputable abbrev xt1 (s : Shared) : Bool := xlAt view1 [] s && recOk (RowW.records row1) s
noncomputable abbrev ends1 (w : World) : Prop := (qEnds pwQ w 3554).map (fun s => (Fast.tw4187177175401517315 view1 loose1 (importedModules pwQ.main.body) xt1 true s, Hook.obs hook1 s)) = some (openGood view1 loose1, Hook.val hook1 w)
theorem ends1_no (w : World) : ends1 (w.withFollow "special-get-raises" false) := by kernel_rfl
theorem ends1_yes (w : World) : ends1 (w.withFollow "special-get-raises" true) := by kernel_rfl
theorem left1 : LeftO pwQ view1 loose1 xt1 (Hook.obs hook1) (Hook.val hook1) 3554 := fun w => by
  have h : ends1 w := byRow2 "special-get-raises" (P := fun w => ends1 w) ends1_no ends1_yes w
  rw [ends1, ← Fast.te4187177175401517315] at h
  exact qLook h
noncomputable def fnDef : Stmt → DefRec
  | .FunctionDef name args body _ _ _ scope _ _ pos => ⟨name, args, body, scope, pos⟩
  | _ => ⟨default, default, [], default, default⟩
noncomputable def def1 : DefRec := fnDef (hA 16)
theorem head1 (call : WalkX view1 loose1 (XL view1 []) (Hook.obs hook1) (Hook.val hook1) row1 def1 [] fun f vs => PySem.call f vs) : rQ.Holds :=
  holds_law said1 fun said => holds_openX (q := view1) (loose := loose1) (Xt := xt1) (XP := XL view1 []) (Yf := Hook.obs hook1) (Ya := Hook.val hook1) (d := def1) (kwd := []) (N := 3554) left1
    (fun s e => xl_of s (Bool.and_eq_true_iff.mp e).1) XL.keeps (by kernel_rfl) (by kernel_rfl) (by kernel_rfl) (fun s e => recFacts_of (Bool.and_eq_true_iff.mp e).2) (by rfl) said (by decide +kernel) ⟨rfl, rfl, rfl, rfl, rfl, by decide +kernel⟩ (by w_witness2) call
end Mine
namespace Mine
open PySem PySem.Spec PySem.Calls PyProof.Rows PySem.W

inductive V where
  | none
  | bool (b : Bool)
  | int (i : Int)
  | str (s : Str)
  | g (v : Value)
  | tup (vs : List V)
  | lst (vs : List V)
  | obj (C : Addr) (vs : List V)
  | inst (C : Addr) (n : Nat)
  | ref (n : Nat)
  | rng (a b : Int)
  | edict
  deriving Inhabited

inductive SO where
  | lst (vs : List V)
  | dict (C : Addr) (vs : List V)
  | frm (L : Addr) (names : List Str) (vs : List V)
  | dead
  deriving Inhabited

noncomputable abbrev Hp := List SO
noncomputable abbrev Loc := List (Option V)

noncomputable def Free (F : Addr → Prop) (ρ : List Addr) (a : Addr) : Prop := ¬ F a ∧ a ∉ ρ

noncomputable def AttrMap (names : List Str) (xs : List Value) (m : Str → Option Value) : Prop := ∀ x, m x = (names.zip xs).lookup x

mutual
inductive VR (lay : Addr → List Str) (F : Addr → Prop) (ρ : List Addr) (h : Heap) : V → Value → Prop
  | none : VR lay F ρ h .none .none
  | bool {b} : VR lay F ρ h (.bool b) (.bool b)
  | int {i t} : VR lay F ρ h (.int i) (.int i t)
  | str {s t} : VR lay F ρ h (.str s) (.str s t)
  | g {v} : VR lay F ρ h (.g v) v
  | tup {vs a items} : Free F ρ a → h.IsTuple a items → VRs lay F ρ h vs items.toList → VR lay F ρ h (.tup vs) (.ref a)
  | lst {vs a items} : Free F ρ a → h.PlainList a items → VRs lay F ρ h vs items.toList → VR lay F ρ h (.lst vs) (.ref a)
  | obj {C vs a dx m xs} : Free F ρ a → Free F ρ dx → h.get? a = some (instObj C dx) → h.Ns1 dx m → AttrMap (lay C) xs m →
      VRs lay F ρ h vs xs → VR lay F ρ h (.obj C vs) (.ref a)
  | inst {C a dx} {n : Nat} : Free F ρ a → h.get? a = some (instObj C dx) → ρ[n]? = some dx → VR lay F ρ h (.inst C n) (.ref a)
  | ref {a} {n : Nat} : ρ[n]? = some a → VR lay F ρ h (.ref n) (.ref a)
  | rng {lo hi a t u v} : Free F ρ a → IsRange h a lo hi 1 t u v → VR lay F ρ h (.rng lo hi) (.ref a)
  | edict {a} : Free F ρ a → h.get? a = some emptyDict → (a == sysModules) = false → VR lay F ρ h .edict (.ref a)
inductive VRs (lay : Addr → List Str) (F : Addr → Prop) (ρ : List Addr) (h : Heap) : List V → List Value → Prop
  | nil : VRs lay F ρ h [] []
  | cons {v vs x xs} : VR lay F ρ h v x → VRs lay F ρ h vs xs → VRs lay F ρ h (v :: vs) (x :: xs)
end

structure Grow (F : Addr → Prop) (ρ : List Addr) (h : Heap) (F' : Addr → Prop) (ρ' : List Addr) (h' : Heap) : Prop where
  keep : ∀ b o, Free F ρ b → h.get? b = some o → h'.get? b = some o
  free : ∀ b o, Free F ρ b → h.get? b = some o → Free F' ρ' b
  slot : ∀ (n : Nat) a, ρ[n]? = some a → ρ'[n]? = some a

section
variable {lay : Addr → List Str} {F F' : Addr → Prop} {ρ ρ' : List Addr} {h h' : Heap}
theorem VR.grow (G : Grow F ρ h F' ρ' h') {v x} (r : VR lay F ρ h v x) : VR lay F' ρ' h' v x :=
  VR.rec (motive_1 := fun v x _ => VR lay F' ρ' h' v x) (motive_2 := fun vs xs _ => VRs lay F' ρ' h' vs xs) .none .bool .int .str .g
    (fun fr ht _ ih => ht.elim fun o q => .tup (G.free _ _ fr q.1) ⟨o, G.keep _ _ fr q.1, q.2⟩ ih)
    (fun fr ht _ ih => ht.elim fun n ho => .lst (G.free _ _ fr ho) ⟨n, G.keep _ _ fr ho⟩ ih)
    (fun fa fd ha hn k _ ih => hn.elim fun o q => q.elim fun es q => q.elim fun ep q => .obj (G.free _ _ fa ha) (G.free _ _ fd q.1) (G.keep _ _ fa ha) ⟨o, es, ep, G.keep _ _ fd q.1, q.2⟩ k ih)
    (fun fa ha hn => .inst (G.free _ _ fa ha) (G.keep _ _ fa ha) (G.slot _ _ hn))
    (fun hn => .ref (G.slot _ _ hn))
    (fun fa hr => .rng (G.free _ _ fa hr) (G.keep _ _ fa hr))
    (fun fa hr z => .edict (G.free _ _ fa hr) (G.keep _ _ fa hr) z)
    .nil (fun _ _ a b => .cons a b) r
theorem VRs.grow (G : Grow F ρ h F' ρ' h') {vs xs} (r : VRs lay F ρ h vs xs) : VRs lay F' ρ' h' vs xs := by
  induction xs generalizing vs with
  | nil => cases r; exact .nil
  | cons x xs ih => cases r with | cons a b => exact .cons (a.grow G) (ih b)
theorem VRs.length {vs : List V} {xs : List Value} (r : VRs lay F ρ h vs xs) : vs.length = xs.length := by
  induction xs generalizing vs with
  | nil => cases r; rfl
  | cons x xs ih => cases r with | cons a b => simp [ih b]
theorem VRs.get {vs : List V} {xs : List Value} (r : VRs lay F ρ h vs xs) (i : Nat) {v : V} (hv : vs[i]? = some v) : ∃ x, xs[i]? = some x ∧ VR lay F ρ h v x := by
  induction xs generalizing vs i with
  | nil => cases r; simp at hv
  | cons x xs ih =>
    cases r with
    | cons a b =>
      cases i with
      | zero => simp at hv; subst hv; exact ⟨x, rfl, a⟩
      | succ i => simpa using ih b i (by simpa using hv)
theorem VRs.append {vs ws : List V} {xs ys : List Value} (r : VRs lay F ρ h vs xs) (q : VRs lay F ρ h ws ys) : VRs lay F ρ h (vs ++ ws) (xs ++ ys) := by
  induction xs generalizing vs with
  | nil => cases r; exact q
  | cons x xs ih => cases r with | cons a b => exact .cons a (ih b)
theorem VRs.take {vs : List V} {xs : List Value} (r : VRs lay F ρ h vs xs) (n : Nat) : VRs lay F ρ h (vs.take n) (xs.take n) := by
  induction xs generalizing vs n with
  | nil => cases r; simp; exact .nil
  | cons x xs ih =>
    cases r with
    | cons a b => cases n with
      | zero => exact .nil
      | succ n => exact .cons a (ih b n)
theorem VRs.drop {vs : List V} {xs : List Value} (r : VRs lay F ρ h vs xs) (n : Nat) : VRs lay F ρ h (vs.drop n) (xs.drop n) := by
  induction xs generalizing vs n with
  | nil => cases r; simp; exact .nil
  | cons x xs ih =>
    cases r with
    | cons a b => cases n with
      | zero => exact .cons a b
      | succ n => exact ih b n
theorem VRs.set {vs : List V} {xs : List Value} {v : V} {x : Value} (r : VRs lay F ρ h vs xs) (n : Nat) (q : VR lay F ρ h v x) : VRs lay F ρ h (vs.set n v) (xs.set n x) := by
  induction xs generalizing vs n with
  | nil => cases r; simp; exact .nil
  | cons y xs ih =>
    cases r with
    | cons a b => cases n with
      | zero => exact .cons q b
      | succ n => exact .cons a (ih b n)
end

noncomputable def alive (σ : Hp) (n : Nat) : Prop := ∃ o, σ[n]? = some o ∧ o ≠ .dead
noncomputable def Live (ρ : List Addr) (σ : Hp) (b : Addr) : Prop := ∃ n : Nat, ρ[n]? = some b ∧ alive σ n
noncomputable def NoW : Addr → Prop := fun _ => False

noncomputable def OR (lay : Addr → List Str) (F : Addr → Prop) (ρ : List Addr) (h : Heap) : SO → Addr → Prop
  | .lst vs, a => ∃ items, h.PlainList a items ∧ VRs lay F ρ h vs items.toList
  | .dict C vs, a => ∃ m xs, h.Ns1 a m ∧ AttrMap (lay C) xs m ∧ VRs lay F ρ h vs xs
  | .frm L names vs, a => a = L ∧ ∃ m xs, h.Ns L m ∧ (∀ (i : Nat) (n : Str) (x : Value), names[i]? = some n → xs[i]? = some x → m n = some x) ∧ VRs lay F ρ h vs xs
  | .dead, _ => True

structure HInv (lay : Addr → List Str) (F : Addr → Prop) (h₀ : Heap) (ρ : List Addr) (σ : Hp) (h : Heap) : Prop where
  len : σ.length = ρ.length
  nodup : ρ.Nodup
  own : ∀ a ∈ ρ, ¬ F a ∧ h₀.get? a = none ∧ ∃ o, h.get? a = some o
  fr : ∀ a, F a → h₀.get? a = none ∧ ∃ o, h.get? a = some o
  objs : ∀ (n : Nat) o a, σ[n]? = some o → ρ[n]? = some a → OR lay F ρ h o a
  base : ∀ b o, h₀.get? b = some o → h.get? b = some o

structure Adv (ρ : List Addr) (σ : Hp) (s : Shared) (ρ' : List Addr) (σ' : Hp) (s' : Shared) (W : Addr → Prop) : Prop where
  tl : ∃ tl, ρ' = ρ ++ tl ∧ ∀ a ∈ tl, s.heap.get? a = none
  live : ∀ n, n < σ.length → alive σ' n → alive σ n
  keep : ∀ b o, s.heap.get? b = some o → ¬ Live ρ σ b → ¬ W b → s'.heap.get? b = some o
  there : ∀ b o, s.heap.get? b = some o → ∃ o', s'.heap.get? b = some o'
  gens : s'.gens = s.gens
  drawn : s'.drawn = s.drawn
  os : s'.os = s.os

section
variable {lay : Addr → List Str} {F : Addr → Prop} {h₀ : Heap} {ρ ρ' ρ'' : List Addr} {σ σ' σ'' : Hp} {s s' s'' : Shared} {W : Addr → Prop}

theorem Live.mem {b : Addr} (l : Live ρ σ b) : b ∈ ρ := let ⟨_, e, _⟩ := l; List.mem_of_getElem? e

theorem Adv.refl : Adv ρ σ s ρ σ s W := ⟨⟨[], by simp, by simp⟩, fun _ _ x => x, fun _ _ e _ _ => e, fun _ o e => ⟨o, e⟩, rfl, rfl, rfl⟩

theorem Adv.trans (hl : σ.length = ρ.length) (x : Adv ρ σ s ρ' σ' s' W) (hl' : σ'.length = ρ'.length) (y : Adv ρ' σ' s' ρ'' σ'' s'' W) : Adv ρ σ s ρ'' σ'' s'' W := by
  obtain ⟨tl, rfl, ht⟩ := x.tl
  obtain ⟨tl', rfl, ht'⟩ := y.tl
  have lt : σ.length ≤ σ'.length := by rw [hl', hl, List.length_append]; omega
  refine ⟨⟨tl ++ tl', by simp, fun a ha => ?_⟩, fun n hn q => x.live n hn (y.live n (Nat.lt_of_lt_of_le hn lt) q), fun b o e nl nw => ?_, fun b o e => ?_, y.gens.trans x.gens, y.drawn.trans x.drawn, y.os.trans x.os⟩
  · rcases List.mem_append.mp ha with h | h
    · exact ht a h
    · cases e : s.heap.get? a with
      | none => rfl
      | some o => obtain ⟨o', e'⟩ := x.there a o e; rw [ht' a h] at e'; cases e'
  · refine y.keep b o (x.keep b o e nl nw) (fun ⟨n, en, al⟩ => ?_) nw
    by_cases hn : n < ρ.length
    · exact nl ⟨n, by rwa [List.getElem?_append_left hn] at en, x.live n (hl ▸ hn) al⟩
    · rw [List.getElem?_append_right (Nat.le_of_not_lt hn)] at en
      have := ht b (List.mem_of_getElem? en)
      rw [this] at e; cases e
  · obtain ⟨o', e'⟩ := x.there b o e
    exact y.there b o' e'

theorem Adv.mono {W' : Addr → Prop} (x : Adv ρ σ s ρ' σ' s' W) (hw : ∀ b, W b → W' b) : Adv ρ σ s ρ' σ' s' W' :=
  ⟨x.tl, x.live, fun b o e nl nw => x.keep b o e nl (fun h => nw (hw b h)), x.there, x.gens, x.drawn, x.os⟩

theorem Adv.grow (H0 : HInv lay F h₀ ρ σ s.heap) (x : Adv ρ σ s ρ' σ' s' W) (hw : ∀ b, W b → F b) : Grow F ρ s.heap F ρ' s'.heap := by
  obtain ⟨tl, rfl, ht⟩ := x.tl
  refine ⟨fun b o fr e => x.keep b o e (fun l => fr.2 l.mem) (fun q => fr.1 (hw b q)), fun b o fr e => ⟨fr.1, fun hm => ?_⟩, fun n a e => ?_⟩
  · rcases List.mem_append.mp hm with q | q
    · exact fr.2 q
    · rw [ht b q] at e; cases e
  · obtain ⟨hn, _⟩ := List.getElem?_eq_some_iff.mp e
    rw [List.getElem?_append_left hn]; exact e
theorem Adv.growE (H : HInv lay F h₀ ρ σ s.heap) (x : Adv ρ σ s ρ' σ' s' NoW) : Grow F ρ s.heap F ρ' s'.heap := x.grow H (fun _ q => q.elim)

theorem VR.adv (H : HInv lay F h₀ ρ σ s.heap) (x : Adv ρ σ s ρ' σ' s' NoW) {v y} (r : VR lay F ρ s.heap v y) : VR lay F ρ' s'.heap v y := r.grow (x.growE H)
theorem VRs.adv (H : HInv lay F h₀ ρ σ s.heap) (x : Adv ρ σ s ρ' σ' s' NoW) {v y} (r : VRs lay F ρ s.heap v y) : VRs lay F ρ' s'.heap v y := r.grow (x.growE H)

theorem OR.grow {h h' : Heap} (hk : ∀ b o, h.get? b = some o → h'.get? b = some o) (G : Grow F ρ h F ρ' h') {o : SO} {a : Addr} (r : OR lay F ρ h o a) : OR lay F ρ' h' o a := by
  cases o with
  | lst vs => obtain ⟨items, ⟨n, ho⟩, v⟩ := r; exact ⟨items, ⟨n, hk _ _ ho⟩, v.grow G⟩
  | dict C vs => obtain ⟨m, xs, ⟨o, es, ep, e, z⟩, q, v⟩ := r; exact ⟨m, xs, ⟨o, es, ep, hk _ _ e, z⟩, q, v.grow G⟩
  | frm L ns vs => obtain ⟨rfl, m, xs, ⟨o, es, ep, e, z⟩, q, v⟩ := r; exact ⟨rfl, m, xs, ⟨o, es, ep, hk _ _ e, z⟩, q, v.grow G⟩
  | dead => trivial

theorem HInv.ext {h h' : Heap} (H : HInv lay F h₀ ρ σ h) (hk : ∀ b o, h.get? b = some o → h'.get? b = some o) : HInv lay F h₀ ρ σ h' := by
  have G : Grow F ρ h F ρ h' := ⟨fun b o _ e => hk b o e, fun b o fr _ => fr, fun _ _ e => e⟩
  exact ⟨H.len, H.nodup, fun a ha => let ⟨x, y, o, e⟩ := H.own a ha; ⟨x, y, o, hk _ _ e⟩, fun a ha => let ⟨y, o, e⟩ := H.fr a ha; ⟨y, o, hk _ _ e⟩,
    fun n o a e q => (H.objs n o a e q).grow hk G, fun b o e => hk _ _ (H.base b o e)⟩
theorem HInv.sameF {h h' : Heap} (H : HInv lay F h₀ ρ σ h) (hk : ∀ b o, ¬ F b → h.get? b = some o → h'.get? b = some o) (ht : ∀ b o, F b → h.get? b = some o → ∃ o', h'.get? b = some o') : HInv lay F h₀ ρ σ h' := by
  have G : Grow F ρ h F ρ h' := ⟨fun b o fr e => hk b o fr.1 e, fun b o fr _ => fr, fun _ _ e => e⟩
  refine ⟨H.len, H.nodup, fun a ha => let ⟨x, y, o, e⟩ := H.own a ha; ⟨x, y, o, hk _ _ x e⟩, fun a ha => let ⟨y, o, e⟩ := H.fr a ha; ⟨y, ht a o ha e⟩, fun n o a e q => ?_, fun b o e => ?_⟩
  · have na := (H.own a (List.mem_of_getElem? q)).1
    have r := H.objs n o a e q
    cases o with
    | lst vs => obtain ⟨items, ⟨n, ho⟩, v⟩ := r; exact ⟨items, ⟨n, hk _ _ na ho⟩, v.grow G⟩
    | dict C vs => obtain ⟨m, xs, ⟨o, es, ep, e, z⟩, q, v⟩ := r; exact ⟨m, xs, ⟨o, es, ep, hk _ _ na e, z⟩, q, v.grow G⟩
    | frm L ns vs => obtain ⟨rfl, m, xs, ⟨o, es, ep, e, z⟩, q, v⟩ := r; exact ⟨rfl, m, xs, ⟨o, es, ep, hk _ _ na e, z⟩, q, v.grow G⟩
    | dead => trivial
  · refine hk b o (fun fb => ?_) (H.base b o e)
    rw [(H.fr b fb).1] at e; cases e
theorem Adv.ext {h' : Heap} {tk : Nat} (hk : ∀ b o, s.heap.get? b = some o → h'.get? b = some o) : Adv ρ σ s ρ σ { s with heap := h', toks := tk } W :=
  ⟨⟨[], by simp, by simp⟩, fun _ _ x => x, fun b o e _ _ => hk b o e, fun b o e => ⟨o, hk b o e⟩, rfl, rfl, rfl⟩
theorem Adv.toks {tk : Nat} : Adv ρ σ s ρ σ { s with toks := tk } W := Adv.ext fun _ _ e => e
end

noncomputable def VarAt (env : Env) (h : Heap) (x : Str) (y : Value) : Prop :=
  (env.kindOf x = some .local ∧ ∃ m, h.Ns env.locals m ∧ m x = some y) ∨ (env.kindOf x = some .cell ∧ ∃ c, env.cells.lookup x = some c ∧ h.IsCell c (some y))

structure VarsOk (vars : List (Nat × Str)) : Prop where
  inj1 : ∀ i j x, (i, x) ∈ vars → (j, x) ∈ vars → i = j
  inj2 : ∀ i x y, (i, x) ∈ vars → (i, y) ∈ vars → x = y
noncomputable def varsOk (vars : List (Nat × Str)) : Bool := vars.all fun p => vars.all fun q => (p.1 == q.1) == (p.2 == q.2)
theorem VarsOk.of {vars : List (Nat × Str)} (h : varsOk vars = true) : VarsOk vars := by
  have key : ∀ p ∈ vars, ∀ q ∈ vars, (p.1 == q.1) = (p.2 == q.2) := fun p hp q hq => by
    have := List.all_eq_true.mp (List.all_eq_true.mp h p hp) q hq
    exact eq_of_beq this
  refine ⟨fun i j x h1 h2 => ?_, fun i x y h1 h2 => ?_⟩
  · have := key _ h1 _ h2
    simp at this; exact this
  · have := key _ h1 _ h2
    simp at this; exact this

structure FrI (lay : Addr → List Str) (vars : List (Nat × Str)) (F : Addr → Prop) (ρ : List Addr) (env : Env) (loc : Loc) (h : Heap) : Prop where
  vok : VarsOk vars
  kind : env.scope.kind = .function
  glob : env.globals = mainGlobals
  bi : env.builtins = builtinsNs
  ns : ∃ m, h.Ns env.locals m
  loF : F env.locals
  cellsF : ∀ x c, env.cells.lookup x = some c → F c ∧ c ≠ env.locals ∧ ∃ v, h.IsCell c v
  cellsNe : ∀ x y c, env.cells.lookup x = some c → env.cells.lookup y = some c → x = y
  kinds : ∀ i x, (i, x) ∈ vars → env.kindOf x = some .local ∨ (env.kindOf x = some .cell ∧ ∃ c, env.cells.lookup x = some c)
  vals : ∀ i x v, (i, x) ∈ vars → loc[i]? = some (some v) → ∃ y, VarAt env h x y ∧ VR lay F ρ h v y

noncomputable def OwnW (env : Env) (a : Addr) : Prop := a = env.locals ∨ ∃ x, env.cells.lookup x = some a

section
variable {lay : Addr → List Str} {F : Addr → Prop} {h₀ : Heap} {ρ ρ' ρ'' : List Addr} {σ σ' σ'' : Hp} {s s' s'' : Shared} {vars : List (Nat × Str)} {env : Env} {loc : Loc}
theorem FrI.ownF {h : Heap} (I : FrI lay vars F ρ env loc h) : ∀ b, OwnW env b → F b := fun b q => by
  rcases q with rfl | ⟨x, e⟩
  · exact I.loF
  · exact (I.cellsF x b e).1
theorem FrI.adv (I : FrI lay vars F ρ env loc s.heap) (H : HInv lay F h₀ ρ σ s.heap) (x : Adv ρ σ s ρ' σ' s' NoW) : FrI lay vars F ρ' env loc s'.heap := by
  have nl : ∀ b, F b → ¬ Live ρ σ b := fun b fb l => (H.own b l.mem).1 fb
  have kp : ∀ b o, F b → s.heap.get? b = some o → s'.heap.get? b = some o := fun b o fb e => x.keep b o e (nl b fb) id
  have kn : ∀ m, s.heap.Ns env.locals m → s'.heap.Ns env.locals m := fun m ⟨o, es, ep, e, r⟩ => ⟨o, es, ep, kp _ _ I.loF e, r⟩
  have kc : ∀ c v, F c → s.heap.IsCell c v → s'.heap.IsCell c v := fun c v fc ⟨o, e, r⟩ => ⟨o, kp _ _ fc e, r⟩
  refine ⟨I.vok, I.kind, I.glob, I.bi, let ⟨m, q⟩ := I.ns; ⟨m, kn m q⟩, I.loF, fun y c e => let ⟨a, b, v, d⟩ := I.cellsF y c e; ⟨a, b, v, kc c v a d⟩, I.cellsNe, I.kinds, fun i y v hi hl => ?_⟩
  obtain ⟨z, hz, hv⟩ := I.vals i y v hi hl
  refine ⟨z, ?_, hv.adv H x⟩
  rcases hz with ⟨k, m, a, b⟩ | ⟨k, c, a, b⟩
  · exact .inl ⟨k, m, kn m a, b⟩
  · exact .inr ⟨k, c, a, kc c _ (I.cellsF y c a).1 b⟩
end

structure Cx where
  prog : Program
  w : World
  K : Frag
  h₀ : Heap
  lay : Addr → List Str
  mg : Str → Option Value
  mb : Str → Option Value
  lf : Option Env := none

structure Cx.Ok (c : Cx) : Prop where
  kin : c.K.In c.h₀
  g : c.h₀.Ns mainGlobals c.mg
  b : c.h₀.Ns builtinsNs c.mb
  builtins : ∀ x : Str, x ≠ "__name__" → c.mb x = bootBuiltins x
  nolimit : c.h₀.NoLimit

noncomputable def FrA (c : Cx) (k : Nat) (A : Around) : Prop := ∀ el, c.lf = some el → k ≤ 7 ∧ (k = 7 → A.frames = some [el])
noncomputable def StOk (c : Cx) (k : Nat) (sc : Scope) (env : Env) (A : Around) : Prop := env.scope = sc ∧ ∀ el, c.lf = some el → k = 6 → A.frames = some [env, el] ∧ env.frame = some env.locals
noncomputable def AOk (c : Cx) (k : Nat) (A : Around) : Prop := FrA c k A ∧ A.handled = none ∧ A.depth + 4 * k < recursionLimit ∧ A.units + 40 * k < cLine ∧ A.guards = some []

noncomputable abbrev SE := Loc → Hp → Option (V × Hp)
inductive Fl where
  | next | brk | cont
  | ret (v : V)
noncomputable abbrev SS := Loc → Hp → Option (Fl × Loc × Hp)

inductive FlR (lay : Addr → List Str) (F : Addr → Prop) (ρ : List Addr) (h : Heap) : Fl → Flow → Prop
  | next : FlR lay F ρ h .next .next
  | brk : FlR lay F ρ h .brk .brk
  | cont : FlR lay F ρ h .cont .cont
  | ret {v x} : VR lay F ρ h v x → FlR lay F ρ h (.ret v) (.ret x)

noncomputable def DenE (c : Cx) (k : Nat) (vars : List (Nat × Str)) (sc : Scope) (e : Expr) (f : SE) : Prop :=
  ∀ (env : Env) (A : Around) (s : Shared) (F : Addr → Prop) (ρ : List Addr) (loc : Loc) (σ : Hp) (v : V) (σ' : Hp) (Q E : Value → Shared → Prop),
    env.scope = sc → AOk c k A → HInv c.lay F c.h₀ ρ σ s.heap → FrI c.lay vars F ρ env loc s.heap → f loc σ = some (v, σ') →
    (∀ x s' ρ', HInv c.lay F c.h₀ ρ' σ' s'.heap → Adv ρ σ s ρ' σ' s' NoW → VR c.lay F ρ' s'.heap v x → Q x s') →
    wpAny (model c.prog c.w) A (eval e env) Q E s

noncomputable def DenS (c : Cx) (k : Nat) (vars : List (Nat × Str)) (sc : Scope) (st : Stmt) (f : SS) : Prop :=
  ∀ (env : Env) (A : Around) (s : Shared) (F : Addr → Prop) (ρ : List Addr) (loc : Loc) (σ : Hp) (fl : Fl) (loc' : Loc) (σ' : Hp) (Q : Flow → Shared → Prop) (E : Value → Shared → Prop),
    StOk c k sc env A → AOk c k A → HInv c.lay F c.h₀ ρ σ s.heap → FrI c.lay vars F ρ env loc s.heap → f loc σ = some (fl, loc', σ') →
    (∀ x s' ρ', HInv c.lay F c.h₀ ρ' σ' s'.heap → FrI c.lay vars F ρ' env loc' s'.heap → Adv ρ σ s ρ' σ' s' (OwnW env) → FlR c.lay F ρ' s'.heap fl x → Q x s') →
    wpAny (model c.prog c.w) A (exec st env) Q E s

noncomputable def DenSs (c : Cx) (k : Nat) (vars : List (Nat × Str)) (sc : Scope) (sts : List Stmt) (f : SS) : Prop :=
  ∀ (env : Env) (A : Around) (s : Shared) (F : Addr → Prop) (ρ : List Addr) (loc : Loc) (σ : Hp) (fl : Fl) (loc' : Loc) (σ' : Hp) (Q : Flow → Shared → Prop) (E : Value → Shared → Prop),
    StOk c k sc env A → AOk c k A → HInv c.lay F c.h₀ ρ σ s.heap → FrI c.lay vars F ρ env loc s.heap → f loc σ = some (fl, loc', σ') →
    (∀ x s' ρ', HInv c.lay F c.h₀ ρ' σ' s'.heap → FrI c.lay vars F ρ' env loc' s'.heap → Adv ρ σ s ρ' σ' s' (OwnW env) → FlR c.lay F ρ' s'.heap fl x → Q x s') →
    wpAny (model c.prog c.w) A (execs sts env) Q E s

noncomputable abbrev ST := Loc → Hp → Option (Bool × Hp)
noncomputable def DenT (c : Cx) (k : Nat) (vars : List (Nat × Str)) (sc : Scope) (e : Expr) (f : ST) : Prop :=
  ∀ (env : Env) (A : Around) (s : Shared) (F : Addr → Prop) (ρ : List Addr) (loc : Loc) (σ : Hp) (b : Bool) (σ' : Hp) (Q : Bool → Shared → Prop) (E : Value → Shared → Prop),
    env.scope = sc → AOk c k A → HInv c.lay F c.h₀ ρ σ s.heap → FrI c.lay vars F ρ env loc s.heap → f loc σ = some (b, σ') →
    (∀ s' ρ', HInv c.lay F c.h₀ ρ' σ' s'.heap → Adv ρ σ s ρ' σ' s' NoW → Q b s') →
    wpAny (model c.prog c.w) A (isTrue e env (eval e env)) Q E s

end Mine
namespace Mine
open PySem PySem.Spec PySem.Calls PyProof.Rows PySem.W

noncomputable abbrev SF := List V → Hp → Option (V × Hp)

noncomputable def FnOk (c : Cx) (k : Nat) (t : List Value → Sem Value) (f : SF) : Prop :=
  ∀ (A : Around) (s : Shared) (F : Addr → Prop) (ρ : List Addr) (σ : Hp) (vs : List V) (xs : List Value) (v : V) (σ' : Hp) (Q E : Value → Shared → Prop),
    AOk c k A → HInv c.lay F c.h₀ ρ σ s.heap → VRs c.lay F ρ s.heap vs xs → f vs σ = some (v, σ') →
    (∀ z s' ρ', HInv c.lay F c.h₀ ρ' σ' s'.heap → Adv ρ σ s ρ' σ' s' NoW → VR c.lay F ρ' s'.heap v z → Q z s') → wpAny (model c.prog c.w) A (t xs) Q E s

noncomputable def two (t : Value → Value → Sem Value) (xs : List Value) : Sem Value := t (xs.getD 0 .none) (xs.getD 1 .none)
noncomputable def one (t : Value → Sem Value) (xs : List Value) : Sem Value := t (xs.getD 0 .none)

noncomputable def kE (v : V) : SE := fun _ σ => some (v, σ)
noncomputable def nmE (i : Nat) : SE := fun loc σ => match loc[i]? with | some (some v) => some (v, σ) | _ => none
noncomputable def op2 (o : SF) (f g : SE) : SE := fun loc σ => match f loc σ with
  | some (a, σ₁) => (match g loc σ₁ with
    | some (b, σ₂) => o [a, b] σ₂
    | none => none)
  | none => none
noncomputable def op1 (o : SF) (f : SE) : SE := fun loc σ => match f loc σ with
  | some (a, σ₁) => o [a] σ₁
  | none => none
noncomputable def ifE (t : ST) (f g : SE) : SE := fun loc σ => match t loc σ with
  | some (true, σ₁) => f loc σ₁
  | some (false, σ₁) => g loc σ₁
  | none => none
noncomputable def notT (f : ST) : ST := fun loc σ => match f loc σ with
  | some (b, σ₁) => some (!b, σ₁)
  | none => none
noncomputable def argsE : List SE → Loc → Hp → Option (List V × Hp)
  | [], _, σ => some ([], σ)
  | f :: fs, loc, σ => match f loc σ with
    | some (a, σ₁) => (match argsE fs loc σ₁ with
      | some (as, σ₂) => some (a :: as, σ₂)
      | none => none)
    | none => none

noncomputable def nilS : SS := fun loc σ => some (.next, loc, σ)
noncomputable def seqS (f g : SS) : SS := fun loc σ => match f loc σ with
  | some (.next, loc₁, σ₁) => g loc₁ σ₁
  | r => r
noncomputable def ifS (t : ST) (f g : SS) : SS := fun loc σ => match t loc σ with
  | some (true, σ₁) => f loc σ₁
  | some (false, σ₁) => g loc σ₁
  | none => none
noncomputable def asgS (i : Nat) (f : SE) : SS := fun loc σ => match f loc σ with
  | some (v, σ₁) => if i < loc.length then some (.next, loc.set i (some v), σ₁) else none
  | none => none
noncomputable def retS (f : SE) : SS := fun loc σ => match f loc σ with
  | some (v, σ₁) => some (.ret v, loc, σ₁)
  | none => none
noncomputable def brkS : SS := fun loc σ => some (.brk, loc, σ)
noncomputable def exprS (f : SE) : SS := fun loc σ => match f loc σ with
  | some (_, σ₁) => some (.next, loc, σ₁)
  | none => none

section
variable {c : Cx} {k : Nat} {vars : List (Nat × Str)} {sc : Scope}

theorem Cx.Ok.atG (O : c.Ok) {F ρ σ} {h : Heap} (H : HInv c.lay F c.h₀ ρ σ h) : h.Ns mainGlobals c.mg := O.g.keeps H.base
theorem Cx.Ok.atB (O : c.Ok) {F ρ σ} {h : Heap} (H : HInv c.lay F c.h₀ ρ σ h) : h.Ns builtinsNs c.mb := O.b.keeps H.base
theorem Cx.Ok.atK (O : c.Ok) {F ρ σ} {h : Heap} (H : HInv c.lay F c.h₀ ρ σ h) : c.K.In h := O.kin.keeps H.base
theorem Cx.Ok.atL (O : c.Ok) {F ρ σ} {h : Heap} (H : HInv c.lay F c.h₀ ρ σ h) : h.NoLimit := O.nolimit.keeps H.base

theorem den_int {i : Int} {n pos} : DenE c k vars sc (.Constant (.int i) n pos) (kE (.int i)) := by
  intro env A s F ρ loc σ v σ' Q E _ _ H _ e q
  cases e
  exact wpAny_Constant_int (q _ _ ρ H .toks .int)
theorem den_str {x : Str} {n pos} : DenE c k vars sc (.Constant (.str x) n pos) (kE (.str x)) := by
  intro env A s F ρ loc σ v σ' Q E _ _ H _ e q
  cases e
  exact wpAny_Constant_str (q _ _ ρ H .toks .str)
theorem den_none {n pos} : DenE c k vars sc (.Constant .none n pos) (kE .none) := by
  intro env A s F ρ loc σ v σ' Q E _ _ H _ e q
  cases e
  exact wpAny_Constant_none (q _ _ ρ H .refl .none)
theorem den_bool {b : Bool} {n pos} : DenE c k vars sc (.Constant (.bool b) n pos) (kE (.bool b)) := by
  intro env A s F ρ loc σ v σ' Q E _ _ H _ e q
  cases e
  exact wpAny_Constant_bool (q _ _ ρ H .refl .bool)

theorem den_nm {i : Nat} {x : Str} {pos} (hm : (i, x) ∈ vars) (hd : (x == ("__debug__" : Str)) = false) : DenE c k vars sc (.Name x pos) (nmE i) := by
  intro env A s F ρ loc σ v σ' Q E _ _ H I e q
  unfold nmE at e
  split at e
  · rename_i v' hv
    cases e
    obtain ⟨y, hy, r⟩ := I.vals i x v hm hv
    refine wpAny_Name ?_ hd
    rcases hy with ⟨kd, m, hn, hx⟩ | ⟨kd, cl, hc, hx⟩
    · exact wpAny_loadName_local I.kind kd hn hx (q _ _ ρ H .refl r)
    · exact wpAny_loadName_cell I.kind kd hc hx (q _ _ ρ H .refl r)
  · cases e

theorem den_gl (O : c.Ok) {x : Str} {v₀ : Value} {pos} (hk : sc.names.lookup x = some .globalImplicit) (hv : nsIn c.K mainGlobals x = some (some v₀)) (hd : (x == ("__debug__" : Str)) = false) :
    DenE c k vars sc (.Name x pos) (kE (.g v₀)) := by
  intro env A s F ρ loc σ v σ' Q E hs _ H I e q
  cases e
  have hg := O.atG H
  rw [← I.glob] at hg
  refine Name_function_global I.kind (by rw [Env.kindOf, hs]; exact hk) (loadGlobal_global hg ?_ (q _ _ ρ H .refl .g)) hd
  exact mg_of O.kin O.g hv

theorem den_bi (O : c.Ok) {x : Str} {v₀ : Value} {pos} (hk : sc.names.lookup x = some .globalImplicit) (hv : nsIn c.K mainGlobals x = some none) (hb : bootBuiltins x = some v₀) (hn : x ≠ "__name__") (hd : (x == ("__debug__" : Str)) = false) :
    DenE c k vars sc (.Name x pos) (kE (.g v₀)) := by
  intro env A s F ρ loc σ v σ' Q E hs _ H I e q
  cases e
  have hg := O.atG H
  have hbi := O.atB H
  rw [← I.glob] at hg
  rw [← I.bi] at hbi
  refine Name_function_global I.kind (by rw [Env.kindOf, hs]; exact hk) (loadGlobal_builtin hg (mg_none_of O.kin O.g hv) hbi ((O.builtins x hn).trans hb) (q _ _ ρ H .refl .g)) hd

theorem den_bin {l r : Expr} {op : Operator} {pos} {f g : SE} {o : SF} (hl : DenE c k vars sc l f) (hr : DenE c k vars sc r g) (ho : FnOk c k (two (binaryOp op)) o) :
    DenE c k vars sc (.BinOp l op r pos) (op2 o f g) := by
  intro env A s F ρ loc σ v σ' Q E hs hA H I e q
  unfold op2 at e
  split at e
  · rename_i a σ₁ e1
    split at e
    · rename_i b σ₂ e2
      refine wpAny_BinOp (hl env A s F ρ loc σ a σ₁ _ _ hs hA H I e1 fun x s₁ ρ₁ H₁ A₁ r₁ => ?_)
      refine hr env A s₁ F ρ₁ loc σ₁ b σ₂ _ _ hs hA H₁ (I.adv H A₁) e2 fun y s₂ ρ₂ H₂ A₂ r₂ => ?_
      have := ho A s₂ F ρ₂ σ₂ [a, b] [x, y] v σ' Q E hA H₂ (.cons (r₁.adv H₁ A₂) (.cons r₂ .nil)) e fun z s₃ ρ₃ H₃ A₃ r₃ => q z s₃ ρ₃ H₃ ((A₁.trans H.len H₁.len A₂).trans H.len H₂.len A₃) r₃
      exact this
    · cases e
  · cases e

theorem den_cmp {l r : Expr} {op : CmpOp} {pos} {f g : SE} {o : SF} (hl : DenE c k vars sc l f) (hr : DenE c k vars sc r g) (ho : FnOk c k (two (compareOp op)) o) (hm : behindInMarks op r = false) :
    DenE c k vars sc (.Compare l [op] [r] pos) (op2 o f g) := by
  intro env A s F ρ loc σ v σ' Q E hs hA H I e q
  unfold op2 at e
  split at e
  · rename_i a σ₁ e1
    split at e
    · rename_i b σ₂ e2
      refine wpAny_Compare1 (hl env A s F ρ loc σ a σ₁ _ _ hs hA H I e1 fun x s₁ ρ₁ H₁ A₁ r₁ => ?_) hm
      refine hr env A s₁ F ρ₁ loc σ₁ b σ₂ _ _ hs hA H₁ (I.adv H A₁) e2 fun y s₂ ρ₂ H₂ A₂ r₂ => ?_
      exact ho A s₂ F ρ₂ σ₂ [a, b] [x, y] v σ' Q E hA H₂ (.cons (r₁.adv H₁ A₂) (.cons r₂ .nil)) e fun z s₃ ρ₃ H₃ A₃ r₃ => q z s₃ ρ₃ H₃ ((A₁.trans H.len H₁.len A₂).trans H.len H₂.len A₃) r₃
    · cases e
  · cases e

theorem den_un {x : Expr} {op : UnaryOp} {pos} {f : SE} {o : SF} (hx : DenE c k vars sc x f) (ho : FnOk c k (one (unaryOp op)) o) : DenE c k vars sc (.UnaryOp op x pos) (op1 o f) := by
  intro env A s F ρ loc σ v σ' Q E hs hA H I e q
  unfold op1 at e
  split at e
  · rename_i a σ₁ e1
    refine wpAny_UnaryOp (hx env A s F ρ loc σ a σ₁ _ _ hs hA H I e1 fun x s₁ ρ₁ H₁ A₁ r₁ => ?_)
    exact ho A s₁ F ρ₁ σ₁ [a] [x] v σ' Q E hA H₁ (.cons r₁ .nil) e fun z s₃ ρ₃ H₃ A₃ r₃ => q z s₃ ρ₃ H₃ (A₁.trans H.len H₁.len A₃) r₃
  · cases e

theorem den_ifE {t a b : Expr} {pos} {ft : ST} {f g : SE} (ht : DenT c k vars sc t ft) (ha : DenE c k vars sc a f) (hb : DenE c k vars sc b g) : DenE c k vars sc (.IfExp t a b pos) (ifE ft f g) := by
  intro env A s F ρ loc σ v σ' Q E hs hA H I e q
  unfold ifE at e
  refine wpAny_IfExp ?_
  split at e
  · rename_i σ₁ e1
    refine ht env A s F ρ loc σ true σ₁ _ _ hs hA H I e1 fun s₁ ρ₁ H₁ A₁ => ?_
    simp only [if_true]
    exact ha env A s₁ F ρ₁ loc σ₁ v σ' _ _ hs hA H₁ (I.adv H A₁) e fun x s₂ ρ₂ H₂ A₂ r => q x s₂ ρ₂ H₂ (A₁.trans H.len H₁.len A₂) r
  · rename_i σ₁ e1
    refine ht env A s F ρ loc σ false σ₁ _ _ hs hA H I e1 fun s₁ ρ₁ H₁ A₁ => ?_
    simp only [Bool.false_eq_true, if_false]
    exact hb env A s₁ F ρ₁ loc σ₁ v σ' _ _ hs hA H₁ (I.adv H A₁) e fun x s₂ ρ₂ H₂ A₂ r => q x s₂ ρ₂ H₂ (A₁.trans H.len H₁.len A₂) r
  · cases e
end
end Mine
namespace Mine
open PySem PySem.Spec PySem.Calls PyProof.Rows PySem.W

theorem ns_uniq {h : Heap} {a : Addr} {m m' : Str → Option Value} (x : h.Ns a m) (y : h.Ns a m') : m = m' := by
  obtain ⟨o, es, ep, e, d, _, f⟩ := x
  obtain ⟨o', es', ep', e', d', _, f'⟩ := y
  rw [e] at e'; cases e'
  rw [d] at d'; cases d'
  funext n
  rw [← f n, ← f' n]

noncomputable abbrev SA := V → Loc → Hp → Option (Loc × Hp)
noncomputable def LocW (env : Env) (a : Addr) : Prop := a = env.locals
noncomputable def DenAW (W : Env → Addr → Prop) (c : Cx) (k : Nat) (vars : List (Nat × Str)) (sc : Scope) (t : Expr) (f : SA) : Prop :=
  ∀ (env : Env) (A : Around) (s : Shared) (F : Addr → Prop) (ρ : List Addr) (loc : Loc) (σ : Hp) (v : V) (x : Value) (loc' : Loc) (σ' : Hp) (Q : Unit → Shared → Prop) (E : Value → Shared → Prop),
    env.scope = sc → AOk c k A → HInv c.lay F c.h₀ ρ σ s.heap → FrI c.lay vars F ρ env loc s.heap → VR c.lay F ρ s.heap v x → f v loc σ = some (loc', σ') →
    (∀ s' ρ', HInv c.lay F c.h₀ ρ' σ' s'.heap → FrI c.lay vars F ρ' env loc' s'.heap → Adv ρ σ s ρ' σ' s' (W env) → Q () s') →
    wpAny (model c.prog c.w) A (assign t env x) Q E s
noncomputable abbrev DenA := DenAW OwnW
noncomputable abbrev DenAL := DenAW LocW

noncomputable def nmA (i : Nat) : SA := fun v loc σ => if i < loc.length then some (loc.set i (some v), σ) else none

section
variable {lay : Addr → List Str} {F : Addr → Prop} {h₀ : Heap} {ρ : List Addr} {σ : Hp} {s : Shared} {vars : List (Nat × Str)} {env : Env} {loc : Loc}

theorem own_change {W : Addr → Prop} (H : HInv lay F h₀ ρ σ s.heap) (I0 : FrI lay vars F ρ env loc s.heap) {a : Addr} (ha : W a) (hF : F a) {h' : Heap} {o' : Obj} (hs : Heap.SameBut a s.heap h') (he : h'.get? a = some o') {tk : Nat} :
    HInv lay F h₀ ρ σ h' ∧ Adv ρ σ s ρ σ { s with heap := h', toks := tk } W ∧ Grow F ρ s.heap F ρ h' := by
  have kp : ∀ b o, ¬ F b → s.heap.get? b = some o → h'.get? b = some o := fun b o nf e => (hs.2 b (fun q => nf (q ▸ hF))).trans e
  have th : ∀ b o, s.heap.get? b = some o → ∃ o', h'.get? b = some o' := fun b o e => by
    by_cases q : b = a
    · exact ⟨o', q ▸ he⟩
    · exact ⟨o, (hs.2 b q).trans e⟩
  refine ⟨H.sameF kp fun b o _ e => th b o e, ⟨⟨[], by simp, by simp⟩, fun _ _ x => x, fun b o e _ nw => ?_, th, rfl, rfl, rfl⟩, ⟨fun b o fr e => kp b o fr.1 e, fun b o fr _ => fr, fun _ _ e => e⟩⟩
  exact (hs.2 b (fun q => nw (q ▸ ha))).trans e

theorem store_varW {W : Addr → Prop} {M : Model} {A : Around} {E : Value → Shared → Prop} {Q : Unit → Shared → Prop} (H : HInv lay F h₀ ρ σ s.heap) (I : FrI lay vars F ρ env loc s.heap) {i : Nat} {x : Str} {v : V} {y : Value} (hm : (i, x) ∈ vars) (hi : i < loc.length) (r : VR lay F ρ s.heap v y)
    (w1 : env.kindOf x = some .local → W env.locals) (w2 : ∀ a, env.kindOf x = some .cell → env.cells.lookup x = some a → W a)
    (q : ∀ s' : Shared, HInv lay F h₀ ρ σ s'.heap → FrI lay vars F ρ env (loc.set i (some v)) s'.heap → Adv ρ σ s ρ σ s' W → Q () s') : wpAny M A (storeName env x y) Q E s := by
  have hp : (env.scope.kind == .class || (env.scope.kind == .module && env.locals != env.globals)) = false := by rw [I.kind]; rfl
  have new : ∀ {j : Nat} {z : Str} {u : V}, (j, z) ∈ vars → (loc.set i (some v))[j]? = some (some u) → (j = i ∧ z = x ∧ u = v) ∨ (z ≠ x ∧ loc[j]? = some (some u)) := by
    intro j z u hj e
    by_cases ji : j = i
    · subst ji
      rw [List.getElem?_set_self hi] at e
      cases e
      exact .inl ⟨rfl, I.vok.inj2 _ _ _ hj hm, rfl⟩
    · rw [List.getElem?_set_ne (Ne.symm ji)] at e
      exact .inr ⟨fun zx => ji (I.vok.inj1 _ _ _ hj (zx ▸ hm)), e⟩
  rcases I.kinds i x hm with kd | ⟨kd, cl, hc⟩
  · obtain ⟨m, hn⟩ := I.ns
    refine wpAny_storeName_local kd hn (fun h' hn' hs' => ?_) hp
    obtain ⟨oL, _, _, eL, _⟩ := id hn'
    obtain ⟨H', A', G'⟩ := own_change (W := W) (tk := s.toks + 1) H I (w1 kd) I.loF hs' eL
    refine q _ H' ⟨I.vok, I.kind, I.glob, I.bi, ⟨_, hn'⟩, I.loF, fun z d e => ?_, I.cellsNe, I.kinds, fun j z u hj e => ?_⟩ A'
    · obtain ⟨a, b, w, d'⟩ := I.cellsF z d e
      exact ⟨a, b, w, d'.sameBut hs' b⟩
    · rcases new hj e with ⟨rfl, rfl, rfl⟩ | ⟨zx, e'⟩
      · exact ⟨y, .inl ⟨kd, _, hn', if_pos rfl⟩, r.grow G'⟩
      · obtain ⟨y', hy, r'⟩ := I.vals j z u hj e'
        refine ⟨y', ?_, r'.grow G'⟩
        rcases hy with ⟨k', m', a, b⟩ | ⟨k', c', a, b⟩
        · cases ns_uniq hn a
          exact .inl ⟨k', _, hn', by show (if z = x then _ else _) = _; rw [if_neg zx]; exact b⟩
        · exact .inr ⟨k', c', a, b.sameBut hs' (I.cellsF z c' a).2.1⟩
  · obtain ⟨fc, nc, w, hw⟩ := I.cellsF x cl hc
    refine wpAny_storeName_cell I.kind kd hc hw fun h' hc' hs' => ?_
    obtain ⟨oC, eC, _⟩ := id hc'
    obtain ⟨H', A', G'⟩ := own_change (W := W) (tk := s.toks) H I (w2 cl kd hc) fc hs' eC
    have kn : ∀ m, s.heap.Ns env.locals m → h'.Ns env.locals m := fun m hn => hn.sameBut hs' (Ne.symm nc)
    refine q _ H' ⟨I.vok, I.kind, I.glob, I.bi, let ⟨m, hn⟩ := I.ns; ⟨m, kn m hn⟩, I.loF, fun z d e => ?_, I.cellsNe, I.kinds, fun j z u hj e => ?_⟩ A'
    · obtain ⟨a, b, w', d'⟩ := I.cellsF z d e
      by_cases dc : d = cl
      · subst dc; exact ⟨a, b, _, hc'⟩
      · exact ⟨a, b, w', d'.sameBut hs' dc⟩
    · rcases new hj e with ⟨rfl, rfl, rfl⟩ | ⟨zx, e'⟩
      · exact ⟨y, .inr ⟨kd, cl, hc, hc'⟩, r.grow G'⟩
      · obtain ⟨y', hy, r'⟩ := I.vals j z u hj e'
        refine ⟨y', ?_, r'.grow G'⟩
        rcases hy with ⟨k', m', a, b⟩ | ⟨k', c', a, b⟩
        · exact .inl ⟨k', m', kn _ a, b⟩
        · refine .inr ⟨k', c', a, b.sameBut hs' fun q => zx ?_⟩
          subst q; exact I.cellsNe _ _ _ a hc
theorem store_var {M : Model} {A : Around} {E : Value → Shared → Prop} {Q : Unit → Shared → Prop} (H : HInv lay F h₀ ρ σ s.heap) (I : FrI lay vars F ρ env loc s.heap) {i : Nat} {x : Str} {v : V} {y : Value} (hm : (i, x) ∈ vars) (hi : i < loc.length) (r : VR lay F ρ s.heap v y)
    (q : ∀ s' : Shared, HInv lay F h₀ ρ σ s'.heap → FrI lay vars F ρ env (loc.set i (some v)) s'.heap → Adv ρ σ s ρ σ s' (OwnW env) → Q () s') : wpAny M A (storeName env x y) Q E s :=
  store_varW H I hm hi r (fun _ => .inl rfl) (fun a _ h => .inr ⟨x, h⟩) q
end

section
variable {c : Cx} {k : Nat} {vars : List (Nat × Str)} {sc : Scope}

theorem den_nmAL {i : Nat} {x : Str} {pos} (hm : (i, x) ∈ vars) (hl : sc.names.lookup x = some .local) : DenAL c k vars sc (.Name x pos) (nmA i) := by
  intro env A s F ρ loc σ v y loc' σ' Q E hs _ H I r e q
  unfold nmA at e
  split at e
  · rename_i hi
    cases e
    refine wpAny_assign_Name (store_varW (W := LocW env) H I hm hi r (fun _ => rfl) (fun a h _ => ?_) fun s' H' I' A' => q s' ρ H' I' A')
    rw [Env.kindOf, hs, hl] at h; cases h
  · cases e
theorem den_nmA {i : Nat} {x : Str} {pos} (hm : (i, x) ∈ vars) : DenA c k vars sc (.Name x pos) (nmA i) := by
  intro env A s F ρ loc σ v y loc' σ' Q E _ _ H I r e q
  unfold nmA at e
  split at e
  · rename_i hi
    cases e
    exact wpAny_assign_Name (store_var H I hm hi r fun s' H' I' A' => q s' ρ H' I' A')
  · cases e

theorem Adv.ofE {ρ ρ' : List Addr} {σ σ' : Hp} {s s' : Shared} {W : Addr → Prop} (x : Adv ρ σ s ρ' σ' s' NoW) : Adv ρ σ s ρ' σ' s' W := x.mono fun _ q => q.elim

theorem den_nil : DenSs c k vars sc [] nilS := by
  intro env A s F ρ loc σ fl loc' σ' Q E _ _ H I e q
  cases e
  exact wpAny_execs_nil (q _ _ ρ H I .refl .next)
theorem den_cons {st : Stmt} {rest : List Stmt} {f g : SS} (hf : DenS c k vars sc st f) (hg : DenSs c k vars sc rest g) : DenSs c k vars sc (st :: rest) (seqS f g) := by
  intro env A s F ρ loc σ fl loc' σ' Q E hs hA H I e q
  refine wpAny_execs_cons ?_
  unfold seqS at e
  split at e
  · rename_i loc₁ σ₁ e1
    refine hf env A s F ρ loc σ .next loc₁ σ₁ _ _ hs hA H I e1 fun x s₁ ρ₁ H₁ I₁ A₁ r => ?_
    cases r
    exact hg env A s₁ F ρ₁ loc₁ σ₁ fl loc' σ' _ _ hs hA H₁ I₁ e fun x s₂ ρ₂ H₂ I₂ A₂ r => q x s₂ ρ₂ H₂ I₂ (A₁.trans H.len H₁.len A₂) r
  · rename_i hne
    have nn : fl ≠ .next := fun z => hne loc' σ' (by rw [e, z])
    refine hf env A s F ρ loc σ fl loc' σ' _ _ hs hA H I e fun x s₁ ρ₁ H₁ I₁ A₁ r => ?_
    have z := q x s₁ ρ₁ H₁ I₁ A₁ r
    cases r with
    | next => exact absurd rfl nn
    | brk => exact z
    | cont => exact z
    | ret _ => exact z

theorem den_if {t : Expr} {a b : List Stmt} {pos} {ft : ST} {f g : SS} (ht : DenT c k vars sc t ft) (ha : DenSs c k vars sc a f) (hb : DenSs c k vars sc b g) : DenS c k vars sc (.If t a b pos) (ifS ft f g) := by
  intro env A s F ρ loc σ fl loc' σ' Q E hs hA H I e q
  unfold ifS at e
  refine wpAny_If ?_
  split at e
  · rename_i σ₁ e1
    refine ht env A s F ρ loc σ true σ₁ _ _ hs.1 hA H I e1 fun s₁ ρ₁ H₁ A₁ => ?_
    simp only [if_true]
    exact ha env A s₁ F ρ₁ loc σ₁ fl loc' σ' _ _ hs hA H₁ (I.adv H A₁) e fun x s₂ ρ₂ H₂ I₂ A₂ r => q x s₂ ρ₂ H₂ I₂ (A₁.ofE.trans H.len H₁.len A₂) r
  · rename_i σ₁ e1
    refine ht env A s F ρ loc σ false σ₁ _ _ hs.1 hA H I e1 fun s₁ ρ₁ H₁ A₁ => ?_
    simp only [Bool.false_eq_true, if_false]
    exact hb env A s₁ F ρ₁ loc σ₁ fl loc' σ' _ _ hs hA H₁ (I.adv H A₁) e fun x s₂ ρ₂ H₂ I₂ A₂ r => q x s₂ ρ₂ H₂ I₂ (A₁.ofE.trans H.len H₁.len A₂) r
  · cases e

theorem den_asg {i : Nat} {x : Str} {px pos} {value : Expr} {f : SE} (hv : DenE c k vars sc value f) (hm : (i, x) ∈ vars)
    (hs : ∀ env : Env, env.scope = sc → swapsWith value (some (.Name x px)) pos.line env = pure false) : DenS c k vars sc (.Assign [.Name x px] value pos) (asgS i f) := by
  intro env A s F ρ loc σ fl loc' σ' Q E hsc hA H I e q
  unfold asgS at e
  split at e
  · rename_i v σ₁ e1
    split at e
    · rename_i hi
      cases e
      refine wpAny_Assign_Name (hv env A s F ρ loc σ v σ' _ _ hsc.1 hA H I e1 fun y s₁ ρ₁ H₁ A₁ r => ?_) (hs env hsc.1)
      exact store_var H₁ (I.adv H A₁) hm hi r fun s' H' I' A' => q .next s' ρ₁ H' I' (A₁.ofE.trans H.len H₁.len A') .next
    · cases e
  · cases e

theorem den_ret {e₀ : Expr} {pos} {f : SE} (hv : DenE c k vars sc e₀ f) : DenS c k vars sc (.Return (some e₀) pos) (retS f) := by
  intro env A s F ρ loc σ fl loc' σ' Q E hsc hA H I e q
  unfold retS at e
  split at e
  · rename_i v σ₁ e1
    cases e
    exact wpAny_Return_some (hv env A s F ρ loc σ v σ' _ _ hsc.1 hA H I e1 fun y s₁ ρ₁ H₁ A₁ r => q _ s₁ ρ₁ H₁ (I.adv H A₁) A₁.ofE (.ret r))
  · cases e
theorem den_brk {pos} : DenS c k vars sc (.Break pos) brkS := by
  intro env A s F ρ loc σ fl loc' σ' Q E hsc hA H I e q
  cases e
  exact wpAny_Break (q _ _ ρ H I .refl .brk)
end
end Mine
namespace Mine
open PySem PySem.Spec PySem.Calls PyProof.Rows PySem.W

noncomputable def trV : V → Option Bool
  | .bool b => some b
  | .none => some false
  | _ => none
noncomputable def cmT (f : SE) : ST := fun loc σ => match f loc σ with
  | some (a, σ₁) => (match trV a with | some b => some (b, σ₁) | none => none)
  | none => none
noncomputable def allT (op : BoolOp) : List ST → ST
  | [] => fun _ σ => some (op == .And, σ)
  | f :: fs => fun loc σ => match f loc σ with
    | some (b, σ₁) => (match op, b with
      | .And, false => some (false, σ₁)
      | .Or, true => some (true, σ₁)
      | _, _ => allT op fs loc σ₁)
    | none => none

section
variable {c : Cx} {k : Nat} {vars : List (Nat × Str)} {sc : Scope}

theorem truthy_V {M : Model} {A : Around} {E : Value → Shared → Prop} {Q : Bool → Shared → Prop} {s : Shared} {lay F ρ h} {v : V} {x : Value} {b : Bool} (r : VR lay F ρ h v x) (e : trV v = some b) (q : Q b s) : wpAny M A (truthy x) Q E s := by
  cases r with
  | none => cases e; exact fun _ _ _ => q
  | bool => cases e; exact wpAny_truthy_bool q
  | _ => cases e

theorem den_valT {e₀ : Expr} {f : SE} (hv : DenE c k vars sc e₀ f) (he : ∀ (env : Env) (whole : Sem Value), isTrue e₀ env whole = (do let v ← whole; standAt e₀.pos; holding [v] (truthy v))) : DenT c k vars sc e₀ (cmT f) := by
  intro env A s F ρ loc σ b σ' Q E hs hA H I e q
  unfold cmT at e
  split at e
  · rename_i a σ₁ e1
    split at e
    · rename_i b' e2
      cases e
      exact wpAny_isTrue_value (hv env A s F ρ loc σ a σ' _ _ hs hA H I e1 fun x s₁ ρ₁ H₁ A₁ r => truthy_V r e2 (q s₁ ρ₁ H₁ A₁)) (he env _)
    · cases e
  · cases e
theorem den_cmpT {l r : Expr} {op : CmpOp} {pos} {f g : SE} {o : SF} (hl : DenE c k vars sc l f) (hr : DenE c k vars sc r g) (ho : FnOk c k (two (compareOp op)) o) (hm : behindInMarks op r = false) :
    DenT c k vars sc (.Compare l [op] [r] pos) (cmT (op2 o f g)) := by
  intro env A s F ρ loc σ b σ' Q E hs hA H I e q
  unfold cmT at e
  split at e
  · rename_i v σ₃ e0
    split at e
    · rename_i b' eb
      cases e
      unfold op2 at e0
      split at e0
      · rename_i a σ₁ e1
        split at e0
        · rename_i b₂ σ₂ e2
          refine wpAny_isTrue_Compare1 (hl env A s F ρ loc σ a σ₁ _ _ hs hA H I e1 fun x s₁ ρ₁ H₁ A₁ r₁ => ?_) hm
          refine hr env A s₁ F ρ₁ loc σ₁ b₂ σ₂ _ _ hs hA H₁ (I.adv H A₁) e2 fun y s₂ ρ₂ H₂ A₂ r₂ => ?_
          exact ho A s₂ F ρ₂ σ₂ [a, b₂] [x, y] v σ' _ E hA H₂ (.cons (r₁.adv H₁ A₂) (.cons r₂ .nil)) e0 fun z s₃ ρ₃ H₃ A₃ r₃ => truthy_V r₃ eb (q s₃ ρ₃ H₃ ((A₁.trans H.len H₁.len A₂).trans H.len H₂.len A₃))
        · cases e0
      · cases e0
    · cases e
  · cases e
noncomputable def DenTs (c : Cx) (k : Nat) (vars : List (Nat × Str)) (sc : Scope) (op : BoolOp) (es : List Expr) (f : ST) : Prop :=
  ∀ (env : Env) (A : Around) (s : Shared) (F : Addr → Prop) (ρ : List Addr) (loc : Loc) (σ : Hp) (b : Bool) (σ' : Hp) (Q : Bool → Shared → Prop) (E : Value → Shared → Prop),
    env.scope = sc → AOk c k A → HInv c.lay F c.h₀ ρ σ s.heap → FrI c.lay vars F ρ env loc s.heap → f loc σ = some (b, σ') →
    (∀ s' ρ', HInv c.lay F c.h₀ ρ' σ' s'.heap → Adv ρ σ s ρ' σ' s' NoW → Q b s') →
    wpAny (model c.prog c.w) A (allTrue op es env) Q E s
theorem den_allNil {op : BoolOp} : DenTs c k vars sc op [] (allT op []) := by
  intro env A s F ρ loc σ b σ' Q E hs hA H I e q
  cases e
  cases op with
  | And => exact wpAny_allTrue_And_nil (q s ρ H .refl)
  | Or => exact wpAny_allTrue_Or_nil (q s ρ H .refl)
theorem den_allCons {op : BoolOp} {x : Expr} {rest : List Expr} {f : ST} {fs : List ST} (hx : DenT c k vars sc x f) (hr : DenTs c k vars sc op rest (allT op fs)) : DenTs c k vars sc op (x :: rest) (allT op (f :: fs)) := by
  intro env A s F ρ loc σ b σ' Q E hs hA H I e q
  simp only [allT] at e
  split at e
  · rename_i b₁ σ₁ e1
    cases op with
    | And =>
      refine wpAny_allTrue_And_cons (hx env A s F ρ loc σ b₁ σ₁ _ _ hs hA H I e1 fun s₁ ρ₁ H₁ A₁ => ?_)
      cases b₁ with
      | false => cases e; exact q s₁ ρ₁ H₁ A₁
      | true => exact hr env A s₁ F ρ₁ loc σ₁ b σ' _ _ hs hA H₁ (I.adv H A₁) e fun s₂ ρ₂ H₂ A₂ => q s₂ ρ₂ H₂ (A₁.trans H.len H₁.len A₂)
    | Or =>
      refine wpAny_allTrue_Or_cons (hx env A s F ρ loc σ b₁ σ₁ _ _ hs hA H I e1 fun s₁ ρ₁ H₁ A₁ => ?_)
      cases b₁ with
      | true => cases e; exact q s₁ ρ₁ H₁ A₁
      | false => exact hr env A s₁ F ρ₁ loc σ₁ b σ' _ _ hs hA H₁ (I.adv H A₁) e fun s₂ ρ₂ H₂ A₂ => q s₂ ρ₂ H₂ (A₁.trans H.len H₁.len A₂)
  · cases e
theorem den_boolT {op : BoolOp} {es : List Expr} {pos} {f : ST} (h : DenTs c k vars sc op es f) : DenT c k vars sc (.BoolOp op es pos) f := by
  intro env A s F ρ loc σ b σ' Q E hs hA H I e q
  exact wpAny_isTrue_BoolOp (h env A s F ρ loc σ b σ' Q E hs hA H I e q)
end

noncomputable def DenArgs (c : Cx) (k : Nat) (vars : List (Nat × Str)) (sc : Scope) (es : List Expr) (f : Loc → Hp → Option (List V × Hp)) : Prop :=
  ∀ (env : Env) (A : Around) (s : Shared) (F : Addr → Prop) (ρ : List Addr) (loc : Loc) (σ : Hp) (vs : List V) (σ' : Hp) (pos : Pos) (Q : List Value → Shared → Prop) (E : Value → Shared → Prop),
    env.scope = sc → AOk c k A → HInv c.lay F c.h₀ ρ σ s.heap → FrI c.lay vars F ρ env loc s.heap → f loc σ = some (vs, σ') →
    (∀ xs s' ρ', HInv c.lay F c.h₀ ρ' σ' s'.heap → Adv ρ σ s ρ' σ' s' NoW → VRs c.lay F ρ' s'.heap vs xs → Q xs s') →
    wpAny (model c.prog c.w) A (spliced (backTo pos (starEach es env))) Q E s

section
variable {lay : Addr → List Str} {F : Addr → Prop} {h₀ : Heap} {ρ : List Addr} {σ : Hp} {h : Heap}
theorem get_size_none (h : Heap) : h.get? h.objs.size = none := by
  cases e : h.get? h.objs.size with
  | none => rfl
  | some o => exact absurd (Heap.lt_size e) (Nat.lt_irrefl _)
theorem HInv.freeNew (H : HInv lay F h₀ ρ σ h) {a : Addr} (hn : h.get? a = none) : Free F ρ a :=
  ⟨fun f => (by obtain ⟨_, o, e⟩ := H.fr a f; rw [hn] at e; cases e), fun m => (by obtain ⟨_, _, o, e⟩ := H.own a m; rw [hn] at e; cases e)⟩
theorem HInv.new0 (H : HInv lay F h₀ ρ σ h) {a : Addr} (hn : h.get? a = none) : h₀.get? a = none := by
  cases e : h₀.get? a with
  | none => rfl
  | some o => have := H.base a o e; rw [hn] at this; cases this
theorem HInv.slot (H : HInv lay F h₀ ρ σ h) {h' : Heap} {a : Addr} {so : SO} (hk : ∀ b o, h.get? b = some o → h'.get? b = some o) (hn : h.get? a = none) (he : ∃ o, h'.get? a = some o) (hr : OR lay F (ρ ++ [a]) h' so a) : HInv lay F h₀ (ρ ++ [a]) (σ ++ [so]) h' := by
  have fr := H.freeNew hn
  have G : Grow F ρ h F (ρ ++ [a]) h' := ⟨fun b o _ e => hk b o e, fun b o q e => ⟨q.1, fun m => (by
      rcases List.mem_append.mp m with m | m
      · exact q.2 m
      · rw [List.mem_singleton.mp m, hn] at e; cases e)⟩, fun n b e => (by
      obtain ⟨hl, _⟩ := List.getElem?_eq_some_iff.mp e
      rw [List.getElem?_append_left hl]; exact e)⟩
  refine ⟨by simp [H.len], ?_, fun b hb => ?_, fun b fb => let ⟨x, o, e⟩ := H.fr b fb; ⟨x, o, hk _ _ e⟩, fun n o b e q => ?_, fun b o e => hk _ _ (H.base b o e)⟩
  · refine List.nodup_append.mpr ⟨H.nodup, by simp, fun x hx y hy => ?_⟩
    rw [List.mem_singleton.mp hy]; rintro rfl; exact fr.2 hx
  · rcases List.mem_append.mp hb with hb | hb
    · obtain ⟨x, y, o, e⟩ := H.own b hb; exact ⟨x, y, o, hk _ _ e⟩
    · rw [List.mem_singleton.mp hb]; exact ⟨fr.1, H.new0 hn, he⟩
  · by_cases hl : n < σ.length
    · rw [List.getElem?_append_left hl] at e
      rw [List.getElem?_append_left (H.len ▸ hl)] at q
      exact (H.objs n o b e q).grow hk G
    · have hl' : σ.length ≤ n := Nat.le_of_not_lt hl
      rw [List.getElem?_append_right hl'] at e
      rw [List.getElem?_append_right (H.len ▸ hl')] at q
      have z : n - σ.length = 0 := by
        obtain ⟨hz, _⟩ := List.getElem?_eq_some_iff.mp e
        simpa using hz
      rw [z] at e
      rw [← H.len, z] at q
      simp at e q
      subst e q
      exact hr
theorem Adv.slot {s : Shared} {h' : Heap} {tk : Nat} {a : Addr} {so : SO} {W : Addr → Prop} (hk : ∀ b o, s.heap.get? b = some o → h'.get? b = some o) (hn : s.heap.get? a = none) :
    Adv ρ σ s (ρ ++ [a]) (σ ++ [so]) { s with heap := h', toks := tk } W :=
  ⟨⟨[a], rfl, fun b hb => by rw [List.mem_singleton.mp hb]; exact hn⟩, fun n hl ⟨o, e, d⟩ => ⟨o, by rwa [List.getElem?_append_left hl] at e, d⟩, fun b o e _ _ => hk b o e, fun b o e => ⟨o, hk b o e⟩, rfl, rfl, rfl⟩
theorem push_keep (h : Heap) (o : Obj) : ∀ b o', h.get? b = some o' → (h.push o).get? b = some o' := fun _ _ e => Heap.get?_push_of_some o e
end

noncomputable def tupE (fs : List SE) : SE := fun loc σ => match argsE fs loc σ with
  | some (vs, σ₁) => some (.tup vs, σ₁)
  | none => none
noncomputable def lstE (fs : List SE) : SE := fun loc σ => match argsE fs loc σ with
  | some (vs, σ₁) => some (.lst vs, σ₁)
  | none => none
noncomputable def mlstE (fs : List SE) : SE := fun loc σ => match argsE fs loc σ with
  | some (vs, σ₁) => some (.ref σ₁.length, σ₁ ++ [.lst vs])
  | none => none

theorem argsE_length : ∀ (fs : List SE) (loc : Loc) (σ : Hp) (vs : List V) (σ' : Hp), argsE fs loc σ = some (vs, σ') → vs.length = fs.length
  | [], _, _, _, _, e => by cases e; rfl
  | f :: fs, loc, σ, vs, σ', e => by
    simp only [argsE] at e
    split at e
    · split at e
      · rename_i as σ₂ e2
        cases e
        simp [argsE_length fs _ _ _ _ e2]
      · cases e
    · cases e

section
variable {c : Cx} {k : Nat} {vars : List (Nat × Str)} {sc : Scope}
theorem den_argNil : DenArgs c k vars sc [] (argsE []) := by
  intro env A s F ρ loc σ vs σ' pos Q E hs hA H I e q
  cases e
  exact wpAny_items_nil (q [] s ρ H .refl .nil)
theorem den_argCons {e₀ : Expr} {rest : List Expr} {f : SE} {fs : List SE} (he : DenE c k vars sc e₀ f) (hr : DenArgs c k vars sc rest (argsE fs)) (hst : ∀ env : Env, starEach (e₀ :: rest) env = (false, eval e₀ env) :: starEach rest env) : DenArgs c k vars sc (e₀ :: rest) (argsE (f :: fs)) := by
  intro env A s F ρ loc σ vs σ' pos Q E hs hA H I e q
  simp only [argsE] at e
  split at e
  · rename_i a σ₁ e1
    split at e
    · rename_i as σ₂ e2
      cases e
      refine wpAny_items_cons (he env A s F ρ loc σ a σ₁ _ _ hs hA H I e1 fun x s₁ ρ₁ H₁ A₁ r₁ => ?_) (hst env)
      exact hr env A s₁ F ρ₁ loc σ₁ as σ' pos _ _ hs hA H₁ (I.adv H A₁) e2 fun xs s₂ ρ₂ H₂ A₂ r₂ => q (x :: xs) s₂ ρ₂ H₂ (A₁.trans H.len H₁.len A₂) (.cons (r₁.adv H₁ A₂) r₂)
    · cases e
  · cases e

theorem den_tup {es : List Expr} {n pos} {fs : List SE} (hr : DenArgs c k vars sc es (argsE fs)) (hz : fs.length ≤ 1000) : DenE c k vars sc (.Tuple es n pos) (tupE fs) := by
  intro env A s F ρ loc σ v σ' Q E hs hA H I e q
  unfold tupE at e
  split at e
  · rename_i vs σ₁ e1
    cases e
    refine wpAny_Tuple (hr env A s F ρ loc σ vs σ' pos _ _ hs hA H I e1 fun xs s₁ ρ₁ H₁ A₁ r₁ => ⟨?_, ?_⟩)
    · rw [← r₁.length, argsE_length _ _ _ _ _ e1, sizeLine_eq]; omega
    · have hk := push_keep s₁.heap { cls := .type "tuple", data := .seq xs.toArray }
      have fr := H₁.freeNew (get_size_none s₁.heap)
      have A₂ : Adv ρ₁ σ' s₁ ρ₁ σ' { s₁ with heap := s₁.heap.push { cls := .type "tuple", data := .seq xs.toArray } } NoW := Adv.ext hk
      exact q _ _ ρ₁ (H₁.ext hk) (A₁.trans H.len H₁.len A₂) (.tup fr ⟨_, Heap.get?_push_size _ rfl, rfl, _, rfl⟩ (by simpa using r₁.adv H₁ A₂))
  · cases e
theorem den_lst {es : List Expr} {pos} {fs : List SE} (hr : DenArgs c k vars sc es (argsE fs)) (hz : fs.length ≤ 1000) : DenE c k vars sc (.List es pos) (lstE fs) := by
  intro env A s F ρ loc σ v σ' Q E hs hA H I e q
  unfold lstE at e
  split at e
  · rename_i vs σ₁ e1
    cases e
    refine wpAny_List (hr env A s F ρ loc σ vs σ' pos _ _ hs hA H I e1 fun xs s₁ ρ₁ H₁ A₁ r₁ => ⟨?_, ?_⟩)
    · rw [← r₁.length, argsE_length _ _ _ _ _ e1, sizeLine_eq]; omega
    · have hk := push_keep s₁.heap { cls := .type "list", data := .seq xs.toArray }
      have fr := H₁.freeNew (get_size_none s₁.heap)
      have A₂ : Adv ρ₁ σ' s₁ ρ₁ σ' { s₁ with heap := s₁.heap.push { cls := .type "list", data := .seq xs.toArray } } NoW := Adv.ext hk
      exact q _ _ ρ₁ (H₁.ext hk) (A₁.trans H.len H₁.len A₂) (.lst fr ⟨_, Heap.get?_push_size _ rfl⟩ (by simpa using r₁.adv H₁ A₂))
  · cases e
theorem den_mlst {es : List Expr} {pos} {fs : List SE} (hr : DenArgs c k vars sc es (argsE fs)) (hz : fs.length ≤ 1000) : DenE c k vars sc (.List es pos) (mlstE fs) := by
  intro env A s F ρ loc σ v σ' Q E hs hA H I e q
  unfold mlstE at e
  split at e
  · rename_i vs σ₁ e1
    cases e
    refine wpAny_List (hr env A s F ρ loc σ vs σ₁ pos _ _ hs hA H I e1 fun xs s₁ ρ₁ H₁ A₁ r₁ => ⟨?_, ?_⟩)
    · rw [← r₁.length, argsE_length _ _ _ _ _ e1, sizeLine_eq]; omega
    · have hk := push_keep s₁.heap { cls := .type "list", data := .seq xs.toArray }
      have hn := get_size_none s₁.heap
      have A₂ : Adv ρ₁ σ₁ s₁ (ρ₁ ++ [s₁.heap.objs.size]) (σ₁ ++ [.lst vs]) { s₁ with heap := s₁.heap.push { cls := .type "list", data := .seq xs.toArray } } NoW := Adv.slot hk hn
      have H₂ : HInv c.lay F c.h₀ (ρ₁ ++ [s₁.heap.objs.size]) (σ₁ ++ [.lst vs]) (s₁.heap.push { cls := .type "list", data := .seq xs.toArray }) :=
        H₁.slot hk hn ⟨_, Heap.get?_push_size _ rfl⟩ ⟨xs.toArray, ⟨_, Heap.get?_push_size _ rfl⟩, by simpa using r₁.adv H₁ A₂⟩
      exact q _ _ _ H₂ (A₁.trans H.len H₁.len A₂) (.ref (by rw [H₁.len]; simp))
  · cases e
end
end Mine
namespace Mine
open PySem PySem.Spec PySem.Calls PyProof.Rows PySem.W

section
variable {lay : Addr → List Str} {F : Addr → Prop} {h₀ : Heap} {ρ : List Addr} {σ : Hp} {h h' : Heap} {n : Nat} {a : Addr}
theorem Grow.upd (hn : ρ[n]? = some a) (hs : Heap.SameBut a h h') : Grow F ρ h F ρ h' :=
  ⟨fun b _ fr e => (hs.2 b (fun q => fr.2 (q ▸ List.mem_of_getElem? hn))).trans e, fun _ _ fr _ => fr, fun _ _ e => e⟩
theorem nodup_get {l : List Addr} (nd : l.Nodup) {i j : Nat} {b : Addr} (hi : l[i]? = some b) (hj : l[j]? = some b) : i = j := by
  obtain ⟨li, ei⟩ := List.getElem?_eq_some_iff.mp hi
  obtain ⟨lj, ej⟩ := List.getElem?_eq_some_iff.mp hj
  rcases Nat.lt_trichotomy i j with q | q | q
  · exact absurd (ei.trans ej.symm) (List.pairwise_iff_getElem.mp nd i j li lj q)
  · exact q
  · exact absurd (ej.trans ei.symm) (List.pairwise_iff_getElem.mp nd j i lj li q)
theorem HInv.upd (H : HInv lay F h₀ ρ σ h) {so : SO} (hn : ρ[n]? = some a) (hs : Heap.SameBut a h h') (he : ∃ o, h'.get? a = some o) (hr : OR lay F ρ h' so a) : HInv lay F h₀ ρ (σ.set n so) h' := by
  have G : Grow F ρ h F ρ h' := Grow.upd hn hs
  have ma := List.mem_of_getElem? hn
  have kp : ∀ b o, b ≠ a → h.get? b = some o → h'.get? b = some o := fun b o q e => (hs.2 b q).trans e
  have th : ∀ b o, h.get? b = some o → ∃ o', h'.get? b = some o' := fun b o e => by
    by_cases q : b = a
    · exact q ▸ he
    · exact ⟨o, kp b o q e⟩
  refine ⟨by rw [List.length_set]; exact H.len, H.nodup, fun b hb => let ⟨x, y, o, e⟩ := H.own b hb; ⟨x, y, th b o e⟩, fun b fb => let ⟨y, o, e⟩ := H.fr b fb; ⟨y, th b o e⟩, fun m o b e q => ?_, fun b o e => ?_⟩
  · by_cases mn : m = n
    · subst mn
      rw [hn] at q
      have hl : m < σ.length := by rw [H.len]; exact (List.getElem?_eq_some_iff.mp hn).1
      rw [List.getElem?_set_self hl] at e
      cases e; cases q
      exact hr
    · rw [List.getElem?_set_ne (Ne.symm mn)] at e
      have ba : b ≠ a := fun z => mn (nodup_get H.nodup q (z ▸ hn))
      have r := H.objs m o b e q
      cases o with
      | lst vs => obtain ⟨items, ⟨n, ho⟩, v⟩ := r; exact ⟨items, ⟨n, kp _ _ ba ho⟩, v.grow G⟩
      | dict C vs => obtain ⟨mm, xs, ⟨o, es, ep, e, z⟩, q, v⟩ := r; exact ⟨mm, xs, ⟨o, es, ep, kp _ _ ba e, z⟩, q, v.grow G⟩
      | frm L ns vs => obtain ⟨rfl, mm, xs, ⟨o, es, ep, e, z⟩, q, v⟩ := r; exact ⟨rfl, mm, xs, ⟨o, es, ep, kp _ _ ba e, z⟩, q, v.grow G⟩
      | dead => trivial
  · refine kp b o (fun z => ?_) (H.base b o e)
    rw [z, (H.own a ma).2.1] at e; cases e
theorem Adv.upd {s : Shared} {so : SO} {tk : Nat} {W : Addr → Prop} (hn : ρ[n]? = some a) (hal : alive σ n) (hs : Heap.SameBut a s.heap h') (he : ∃ o, h'.get? a = some o) : Adv ρ σ s ρ (σ.set n so) { s with heap := h', toks := tk } W := by
  refine ⟨⟨[], by simp, by simp⟩, fun m hm ⟨o, e, d⟩ => ?_, fun b o e nl _ => (hs.2 b (fun q => nl ⟨n, q ▸ hn, hal⟩)).trans e, fun b o e => ?_, rfl, rfl, rfl⟩
  · by_cases mn : m = n
    · subst mn; exact hal
    · rw [List.getElem?_set_ne (Ne.symm mn)] at e; exact ⟨o, e, d⟩
  · by_cases q : b = a
    · exact q ▸ he
    · exact ⟨o, (hs.2 b q).trans e⟩
end

noncomputable def attrs? (σ : Hp) : V → Option (Addr × List V)
  | .obj C vs => some (C, vs)
  | .inst C n => match σ[n]? with
    | some (.dict C' vs) => if Nat.beq C' C then some (C, vs) else none
    | _ => none
  | _ => none
noncomputable def V.notG : V → Bool
  | .g _ => false
  | _ => true

theorem handed_of {lay F ρ h} {v : V} {x : Value} (r : VR lay F ρ h v x) (e : v.notG = true) : handedIn x = true := by
  cases r <;> first | rfl | cases e

theorem inst_at {lay : Addr → List Str} {F : Addr → Prop} {h₀ : Heap} {ρ : List Addr} {σ : Hp} {h : Heap} (H : HInv lay F h₀ ρ σ h) {v : V} {x : Value} (r : VR lay F ρ h v x) {C : Addr} {vs : List V} (e : attrs? σ v = some (C, vs)) :
    ∃ a dx m xs, x = .ref a ∧ h.get? a = some (instObj C dx) ∧ h.Ns1 dx m ∧ AttrMap (lay C) xs m ∧ VRs lay F ρ h vs xs := by
  cases r with
  | obj fa fd ha hd k rs => cases e; exact ⟨_, _, _, _, rfl, ha, hd, k, rs⟩
  | inst fa ha hn =>
    simp only [attrs?] at e
    split at e
    · rename_i C' vs' es
      split at e
      · rename_i hc
        have := Nat.eq_of_beq_eq_true hc
        subst this
        cases e
        obtain ⟨m, xs, a1, a2, a3⟩ := H.objs _ _ _ es hn
        exact ⟨_, _, m, xs, rfl, ha, a1, a2, a3⟩
      · cases e
    · cases e
  | _ => cases e

theorem lookIn_ns {h : Heap} {dx : Addr} {m : Str → Option Value} (hn : h.Ns dx m) : ∃ od, h.get? dx = some od ∧ ∀ name, lookIn name od = some (m name) := by
  obtain ⟨o, es, ep, ho, hd, hk, hm⟩ := hn
  refine ⟨o, ho, fun name => ?_⟩
  unfold lookIn
  rw [hd]
  dsimp only
  have hany : es.toList.any (·.refKey) = false := by
    rw [List.any_eq_false]; intro e he
    obtain ⟨n, t, q⟩ := hk e (Array.mem_toList_iff.mp he)
    simp [DictEntry.refKey, q]
  rw [← hm name]
  unfold nsFind findBy
  rw [← Array.find?_toList]
  split
  · rename_i e he; rw [he]; rfl
  · rename_i he; rw [he, hany]; rfl

theorem InstAt.ofNs {h : Heap} {a dx C : Addr} {od : Obj} (ha : h.get? a = some (instObj C dx)) (hd : h.get? dx = some od) : PySem.W.InstAt h a (instObj C dx) C (some od) := ⟨ha, rfl, rfl, hd⟩

theorem zip_lookup_at {names : List Str} {xs : List Value} {i : Nat} {x : Str} {y : Value} (nd : names.Nodup) (hx : names[i]? = some x) (hy : xs[i]? = some y) : (names.zip xs).lookup x = some y := by
  induction names generalizing xs i with
  | nil => simp at hx
  | cons n ns ih =>
    cases xs with
    | nil => simp at hy
    | cons z zs =>
      cases i with
      | zero => simp at hx hy; subst hx hy; simp
      | succ i =>
        have hx' : ns[i]? = some x := by simpa using hx
        have : x ≠ n := fun q => (List.nodup_cons.mp nd).1 (q ▸ List.mem_of_getElem? hx')
        rw [List.zip_cons_cons, List.lookup_cons]
        have hb : (x == n) = false := beq_eq_false_iff_ne.mpr this
        rw [hb]
        exact ih (List.nodup_cons.mp nd).2 hx' (by simpa using hy)
theorem zip_lookup_none {names : List Str} {xs : List Value} {x : Str} (hx : x ∉ names) : (names.zip xs).lookup x = none := by
  induction names generalizing xs with
  | nil => simp
  | cons n ns ih =>
    cases xs with
    | nil => simp
    | cons z zs =>
      rw [List.zip_cons_cons, List.lookup_cons]
      have hb : (x == n) = false := beq_eq_false_iff_ne.mpr fun q => hx (q ▸ List.mem_cons_self)
      rw [hb]
      exact ih fun q => hx (List.mem_cons_of_mem _ q)
theorem attrMap_within {names : List Str} {xs : List Value} {m : Str → Option Value} (hm : AttrMap names xs m) : Within m names := fun y hy => by
  apply Classical.byContradiction
  intro hn
  exact hy ((hm y).trans (zip_lookup_none hn))
theorem attrMap_put {names : List Str} {xs : List Value} {m : Str → Option Value} {x : Str} {y : Value} (nd : names.Nodup) (hx : names[xs.length]? = some x) (hm : AttrMap names xs m) : AttrMap names (xs ++ [y]) (fun z => if z = x then some y else m z) := by
  intro z
  have key : ∀ (names : List Str) (xs : List Value), names.Nodup → names[xs.length]? = some x → (names.zip (xs ++ [y])).lookup z = if z = x then some y else (names.zip xs).lookup z := by
    intro names
    induction names with
    | nil => intro xs _ e; simp at e
    | cons n ns ih =>
      intro xs nd e
      cases xs with
      | nil =>
        simp at e
        subst e
        show ((n, y) :: (ns.zip ([] : List Value))).lookup z = _
        rw [List.zip_nil_right, List.lookup_cons, List.lookup_nil]
        by_cases q : z = n
        · subst q; simp
        · have hb : (z == n) = false := beq_eq_false_iff_ne.mpr q
          rw [hb, if_neg q]; rfl
      | cons w ws =>
        have e' : ns[ws.length]? = some x := by simpa using e
        show ((n, w) :: (ns.zip (ws ++ [y]))).lookup z = if z = x then some y else ((n, w) :: (ns.zip ws)).lookup z
        rw [List.lookup_cons, List.lookup_cons, ih ws (List.nodup_cons.mp nd).2 e']
        by_cases q : z = n
        · subst q
          have : z ≠ x := fun r => (List.nodup_cons.mp nd).1 (by rw [r]; exact List.mem_of_getElem? e')
          simp [this]
        · have hb : (z == n) = false := beq_eq_false_iff_ne.mpr q
          rw [hb]
  rw [key names xs nd hx]
  show (if z = x then some y else m z) = _
  rw [hm z]

noncomputable def atF (C : Addr) (i : Nat) : SF := fun vs σ => match vs with
  | [v] => (match attrs? σ v with
    | some (C', ws) => if Nat.beq C' C then (match ws[i]? with | some w => if w.notG then some (w, σ) else none | none => none) else none
    | none => none)
  | _ => none

section
variable {c : Cx} {k : Nat} {vars : List (Nat × Str)} {sc : Scope}

theorem get_attr (O : c.Ok) {C : Addr} {i : Nat} {name : Str} (hg : plainGet c.K C name = true) (hh : hasDictIn c.K C = true) (ha : findIn c.K (.ref C) name = some none) (hl : (c.lay C)[i]? = some name) (nd : (c.lay C).Nodup) :
    FnOk c k (one fun x => getAttr x name true) (atF C i) := by
  intro A s F ρ σ vs xs v σ' Q E hA H r e q
  unfold atF at e
  split at e
  · rename_i v₀
    split at e
    · rename_i C' ws ea
      split at e
      · rename_i hc
        have := Nat.eq_of_beq_eq_true hc
        subst this
        split at e
        · rename_i w hw
          split at e
          · rename_i hnw
            cases e
            cases r with
            | cons r0 _ =>
              obtain ⟨a, dx, m, ys, rfl, hia, hns, hm, rs⟩ := inst_at H r0 ea
              obtain ⟨y, hy, ry⟩ := rs.get i hw
              obtain ⟨od, hod, hlk⟩ := lookIn_ns (Heap.Ns1.ns hns)
              have hv : m name = some y := (hm name).trans (zip_lookup_at nd hl hy)
              show wpAny _ _ (getAttr (.ref a) name true) _ _ _
              refine get_value (O.atK H) (InstAt.ofNs hia hod) (plainGet_of hg).1 (findObj_own hh ha rfl (by rw [hlk, hv])) (handed_of ry hnw) (q _ _ ρ H .toks ry)
          · cases e
        · cases e
      · cases e
    · cases e
  · cases e

theorem den_op1 {t : Value → Sem Value} {o : Expr} {e₁ : Expr} {f : SE} {F₁ : SF} (ho : DenE c k vars sc o f) (hF : FnOk c k (one t) F₁)
    (he : ∀ (env : Env) (A : Around) (s : Shared) (Q E : Value → Shared → Prop), env.scope = sc → wpAny (model c.prog c.w) A (eval o env) (fun x s₁ => wpAny (model c.prog c.w) A (t x) Q E s₁) E s → wpAny (model c.prog c.w) A (eval e₁ env) Q E s) : DenE c k vars sc e₁ (op1 F₁ f) := by
  intro env A s F ρ loc σ v σ' Q E hs hA H I e q
  unfold op1 at e
  split at e
  · rename_i a σ₁ e1
    refine he env A s Q E hs (ho env A s F ρ loc σ a σ₁ _ _ hs hA H I e1 fun x s₁ ρ₁ H₁ A₁ r₁ => ?_)
    exact hF A s₁ F ρ₁ σ₁ [a] [x] v σ' Q E hA H₁ (.cons r₁ .nil) e fun z s₃ ρ₃ H₃ A₃ r₃ => q z s₃ ρ₃ H₃ (A₁.trans H.len H₁.len A₃) r₃
  · cases e
theorem den_at {value : Expr} {attr : Str} {pos : Pos} {f : SE} {F₁ : SF} (ho : DenE c k vars sc value f) (hF : FnOk c k (one fun x => getAttr x attr true) F₁)
    (he : ∀ env : Env, eval (.Attribute value attr pos) env = (do let o ← eval value env; standAt pos.atName; let r ← holding [o] (getAttr o attr true); letTemporaryGo value o r; pure r)) : DenE c k vars sc (.Attribute value attr pos) (op1 F₁ f) :=
  den_op1 ho hF fun env _ _ _ _ _ h => Attribute_any_ h (he env)

noncomputable def clsF (C : Addr) (v : V) : SF := fun vs σ => match vs with
  | [.g (.ref a)] => if Nat.beq a C then some (v, σ) else none
  | _ => none
theorem get_clsattr (O : c.Ok) {C : Addr} {name : Str} {mc x : Value} {v : V} (hr : readsIn c.K C mc = true) (e₀ : findCls c.K (.ref C) mc name = some (.val x)) (hh : handedIn x = true) (hv : ∀ F ρ h, VR c.lay F ρ h v x) :
    FnOk c k (one fun x => getAttr x name true) (clsF C v) := by
  intro A s F ρ σ vs xs v' σ' Q E hA H r e q
  unfold clsF at e
  split at e
  · rename_i a
    split at e
    · rename_i hc
      have := Nat.eq_of_beq_eq_true hc
      subst this
      cases e
      cases r with
      | cons r0 _ => cases r0; exact cls_value (O.atK H) hr e₀ hh (q _ _ ρ H .toks (hv _ _ _))
    · cases e
  · cases e

noncomputable def stA (C : Addr) (i : Nat) (f : SE) : SA := fun v loc σ => match f loc σ with
  | some (.inst C' n, σ₁) => if Nat.beq C' C then (match σ₁[n]? with
    | some (.dict C'' ws) => if Nat.beq C'' C && Nat.beq ws.length i then some (loc, σ₁.set n (.dict C (ws ++ [v]))) else none
    | _ => none) else none
  | _ => none
theorem set_attr (O : c.Ok) {C : Addr} {name : Str} {A : Around} {s : Shared} {F : Addr → Prop} {ρ : List Addr} {σ : Hp} {n : Nat} {ws : List V} {v : V} {x y : Value} {Q : Unit → Shared → Prop} {E : Value → Shared → Prop}
    (hs : findIn c.K (.ref C) "__setattr__" = some (some (.builtin "object.__setattr__"))) (hp : plainOver c.K C = true) (ht : takerIn c.K C name = some none) (hh : hasDictIn c.K C = true) (nd : (c.lay C).Nodup) (hl : (c.lay C)[ws.length]? = some name) (hz : (c.lay C).length ≤ 1000)
    (H : HInv c.lay F c.h₀ ρ σ s.heap) (rx : VR c.lay F ρ s.heap (.inst C n) x) (hn : σ[n]? = some (.dict C ws)) (ry : VR c.lay F ρ s.heap v y)
    (q : ∀ s', HInv c.lay F c.h₀ ρ (σ.set n (.dict C (ws ++ [v]))) s'.heap → Adv ρ σ s ρ (σ.set n (.dict C (ws ++ [v]))) s' NoW → Q () s') : wpAny (model c.prog c.w) A (setAttr x name y) Q E s := by
  cases rx with
  | @inst _ a dx _ fa ha hρ =>
    obtain ⟨m, xs, hns, hm, rs⟩ := H.objs _ _ _ hn hρ
    obtain ⟨od, hod, hlk⟩ := lookIn_ns (Heap.Ns1.ns hns)
    have I := InstAt.ofNs ha hod
    refine set_plain (O.atK H) I hs ?_
    refine osa_open (s := { s with toks := s.toks + 1 }) (O.atK H) I hp ht fun b => ?_
    obtain ⟨cd, hc, hd'⟩ := any_some hh
    refine wpAny_bind (wpAny_pure (wpAny_bind (wpAny_bind (wpAny_loadPart ha (wpAny_bind (looks_clsIn (O.atK H) hc _ _ _ _ (fun _ _ e => e) ?_))))))
    rw [hd']
    refine wpAny_pure (a := some dx) (wpAny_bind (wpAny_pure ?_))
    have hpast : ∀ {h' : Heap} {m' : Str → Option Value}, h'.Ns1 dx m' → Within m' (c.lay C) → (c.lay C).length ≤ 1000 → ∃ o', h'.get? dx = some o' ∧ o'.data.pastItsLine = none := fun x w z => by
      obtain ⟨o', es, ep, e, d, l⟩ := x.count w
      exact ⟨o', e, by rw [d]; exact pastItsLine_dict (by rw [sizeLine_eq]; omega)⟩
    refine wpAny_bind (wpAny_nsSet1 hns fun h' hns' hsb => ?_)
    have hm' := attrMap_put (y := y) nd (rs.length ▸ hl) hm
    obtain ⟨o', ho', hpl⟩ := hpast hns' (attrMap_within hm') hz
    refine wpAny_bind (wpAny_lookBehind ho' hpl (wpAny_pure ?_))
    refine q _ (H.upd hρ hsb ⟨o', ho'⟩ ⟨_, xs ++ [y], hns', hm', ?_⟩) (Adv.upd hρ ⟨_, hn, by simp⟩ hsb ⟨o', ho'⟩)
    exact (rs.grow (Grow.upd hρ hsb)).append (.cons (ry.grow (Grow.upd hρ hsb)) .nil)
theorem den_atA (O : c.Ok) {C : Addr} {i : Nat} {o : Expr} {name : Str} {pos} {f : SE} (ho : DenE c k vars sc o f)
    (hs : findIn c.K (.ref C) "__setattr__" = some (some (.builtin "object.__setattr__"))) (hp : plainOver c.K C = true) (ht : takerIn c.K C name = some none) (hh : hasDictIn c.K C = true) (nd : (c.lay C).Nodup) (hl : (c.lay C)[i]? = some name) (hz : (c.lay C).length ≤ 1000) :
    DenA c k vars sc (.Attribute o name pos) (stA C i f) := by
  intro env A s F ρ loc σ v x loc' σ' Q E hsc hA H I r e q
  unfold stA at e
  split at e
  · rename_i C' n σ₁ e1
    split at e
    · rename_i hc
      have := Nat.eq_of_beq_eq_true hc
      subst this
      split at e
      · rename_i C'' ws es
        split at e
        · rename_i hb
          obtain ⟨b1, b2⟩ := Bool.and_eq_true_iff.mp hb
          have := Nat.eq_of_beq_eq_true b1
          subst this
          have := Nat.eq_of_beq_eq_true b2
          subst this
          cases e
          show wpAny _ _ (do let ov ← holding [x] (eval o env); standAt pos.atName; holding [x, ov] (setAttr ov name x); release [x, ov] []) _ _ _
          refine wpAny_bind (wpAny_holding (ho env A s F ρ loc σ _ σ₁ _ _ hsc hA H I e1 fun y s₁ ρ₁ H₁ A₁ r₁ => wpAny_bind (wpAny_standAt (wpAny_bind (wpAny_holding ?_)))))
          refine set_attr O hs hp ht hh nd hl hz H₁ r₁ es (r.adv H A₁) fun s₂ H₂ A₂ => ?_
          have I₁ := I.adv H A₁
          exact fun Γ p _ => (Sem.wp_release _ _ _ _ _ _ _ _).mpr (q s₂ ρ₁ H₂ (I₁.adv H₁ A₂) (A₁.ofE.trans H.len H₁.len A₂.ofE))
        · cases e
      · cases e
    · cases e
  · cases e
end
end Mine
namespace Mine
open PySem PySem.Spec PySem.Calls PyProof.Rows PySem.W

theorem AOk.deeper {c : Cx} {k : Nat} {A : Around} (h : AOk c (k + 1) A) (env : Env) : AOk c k (A.deeper env) := by
  obtain ⟨fr, a, b, u, g⟩ := h
  refine ⟨fun el e => ⟨Nat.le_of_succ_le (fr el e).1, fun z => absurd (fr el e).1 (by omega)⟩, a, ?_, ?_, g⟩
  · show A.depth + 1 + 4 * k < _; omega
  · show A.units + 3 + 40 * k < _; omega
theorem AOk.st {c : Cx} {k : Nat} {A : Around} (h : AOk c (k + 1) A) {sc : Scope} {env : Env} (hs : env.scope = sc) (hf : env.frame = some env.locals) : StOk c k sc env (A.deeper env) := by
  refine ⟨hs, fun el e z => ?_⟩
  have := (h.1 el e).2 (by omega)
  exact ⟨Around.frames_deeper this, hf⟩
theorem AOk.in1 {c : Cx} {k : Nat} {A : Around} (h : AOk c (k + 1) A) : AOk c k A.in1 := by
  obtain ⟨fr, a, b, u, g⟩ := h
  refine ⟨fun el e => ⟨Nat.le_of_succ_le (fr el e).1, fun z => absurd (fr el e).1 (by omega)⟩, a, ?_, ?_, g⟩
  · show A.depth + 4 * k < _; omega
  · show A.units + 1 + 40 * k < _; omega
theorem AOk.le {c : Cx} {k j : Nat} {A : Around} (h : AOk c k A) (hj : j ≤ k) : AOk c j A := by
  obtain ⟨fr, a, b, u, g⟩ := h
  have h1 : 4 * j ≤ 4 * k := Nat.mul_le_mul_left 4 hj
  have h2 : 40 * j ≤ 40 * k := Nat.mul_le_mul_left 40 hj
  refine ⟨fun el e => ⟨Nat.le_trans hj (fr el e).1, fun z => (fr el e).2 ?_⟩, a, by omega, by omega, g⟩
  have := (fr el e).1; omega
theorem AOk.room {c : Cx} {k : Nat} {A : Around} (h : AOk c k A) : A.depth < recursionLimit := by have := h.2.2.1; omega
theorem AOk.units {c : Cx} {k : Nat} {A : Around} (h : AOk c k A) : A.units < cLine := by have := h.2.2.2.1; omega
theorem AOk.make {c : Cx} {k : Nat} {A : Around} (h : AOk c (k + 1) A) (C : Addr) (vals : List Value) : AOk c k (A.under (.builtin "type.__call__" ⟨.ref C :: vals, []⟩)) := by
  obtain ⟨fr, a, b, u, g⟩ := h
  refine ⟨fun el e => ⟨Nat.le_of_succ_le (fr el e).1, fun z => absurd (fr el e).1 (by omega)⟩, a, ?_, ?_, ?_⟩
  · rw [depth_under_make]; omega
  · rw [units_under_make]; omega
  · have e1 : (A.under (.builtin "type.__call__" ⟨.ref C :: vals, []⟩)).guards = pushGuards (Code.guards (.builtin "type.__call__" ⟨.ref C :: vals, []⟩)) A.guards := rfl
    have e2 : Code.guards (.builtin "type.__call__" ⟨.ref C :: vals, []⟩) = [] := by simp [Code.guards, Code.isGuard, guardIds]
    rw [e1, e2]; exact g

noncomputable def CodeOk (c : Cx) (k : Nat) (cd : List Value → Code) (f : SF) : Prop :=
  ∀ (A : Around) (s : Shared) (F : Addr → Prop) (ρ : List Addr) (σ : Hp) (vs : List V) (xs : List Value) (v : V) (σ' : Hp) (R : Result → Shared → Prop),
    AOk c k A → HInv c.lay F c.h₀ ρ σ s.heap → VRs c.lay F ρ s.heap vs xs → f vs σ = some (v, σ') →
    (∀ z s' ρ', HInv c.lay F c.h₀ ρ' σ' s'.heap → Adv ρ σ s ρ' σ' s' NoW → VR c.lay F ρ' s'.heap v z → R (.ok (.ret z)) s') → codeAny (model c.prog c.w) A (cd xs) R s
theorem CodeOk.fn {c : Cx} {k : Nat} {f : Value} {F₀ : SF} (h : CodeOk c k (fun xs => .call f ⟨xs, []⟩) F₀) : FnOk c k (fun xs => call f xs) F₀ := by
  intro A s F ρ σ vs xs v σ' Q E hA H r e q
  exact wpAny_call (h A s F ρ σ vs xs v σ' _ hA H r e fun z s' ρ' H' A' r' => q z s' ρ' H' A' r')
noncomputable def kw1 (f : Value) (n : Str) (xs : List Value) : Sem Value := call f xs.dropLast [(n, xs.getLastD .none)]
theorem CodeOk.kw {c : Cx} {k : Nat} {f : Value} {n : Str} {F₀ : SF} (h : CodeOk c k (fun xs => .call f ⟨xs.dropLast, [(n, xs.getLastD .none)]⟩) F₀) : FnOk c k (kw1 f n) F₀ := by
  intro A s F ρ σ vs xs v σ' Q E hA H r e q
  exact wpAny_call (h A s F ρ σ vs xs v σ' _ hA H r e fun z s' ρ' H' A' r' => q z s' ρ' H' A' r')
theorem FnOk.le {c : Cx} {k j : Nat} {t : List Value → Sem Value} {f : SF} (h : FnOk c k t f) (hj : k ≤ j) : FnOk c j t f := fun A s F ρ σ vs xs v σ' Q E hA => h A s F ρ σ vs xs v σ' Q E (hA.le hj)
theorem CodeOk.le {c : Cx} {k j : Nat} {t : List Value → Code} {f : SF} (h : CodeOk c k t f) (hj : k ≤ j) : CodeOk c j t f := fun A s F ρ σ vs xs v σ' R hA => h A s F ρ σ vs xs v σ' R (hA.le hj)

theorem bindL_skip {kd : Str → Option NameKind} {x : Str} : ∀ (l : List (Str × Value)) (m : Str → Option Value), (∀ p ∈ l, p.1 ≠ x) → bindL kd l m x = m x
  | [], _, _ => rfl
  | (n, v) :: r, m, h => by
    unfold bindL
    rw [bindL_skip r _ fun p hp => h p (List.mem_cons_of_mem _ hp)]
    have : x ≠ n := fun e => h (n, v) List.mem_cons_self e.symm
    split <;> simp [this]
theorem bindC_skip {kd : Str → Option NameKind} {x : Str} : ∀ (l : List (Str × Value)) (m : Str → Option Value), (∀ p ∈ l, p.1 ≠ x) → bindC kd l m x = m x
  | [], _, _ => rfl
  | (n, v) :: r, m, h => by
    unfold bindC
    rw [bindC_skip r _ fun p hp => h p (List.mem_cons_of_mem _ hp)]
    have : x ≠ n := fun e => h (n, v) List.mem_cons_self e.symm
    split <;> simp [this]
theorem zip_fst_mem {names : List Str} {xs : List Value} {p : Str × Value} (h : p ∈ names.zip xs) : p.1 ∈ names := (List.of_mem_zip h).1
theorem bindL_at {kd : Str → Option NameKind} : ∀ (names : List Str) (xs : List Value) (m : Str → Option Value) {i : Nat} {x : Str} {y : Value}, names.Nodup → names[i]? = some x → xs[i]? = some y → kd x = some .local → bindL kd (names.zip xs) m x = some y
  | [], _, _, _, _, _, _, h, _, _ => by simp at h
  | _ :: _, [], _, _, _, _, _, _, h, _ => by simp at h
  | n :: ns, z :: zs, m, i, x, y, nd, hx, hy, hk => by
    obtain ⟨n1, n2⟩ := List.nodup_cons.mp nd
    rw [List.zip_cons_cons]
    unfold bindL
    cases i with
    | zero =>
      simp at hx hy
      subst hx hy
      rw [bindL_skip _ _ fun p hp (e : p.1 = _) => n1 (by rw [← e]; exact zip_fst_mem hp), if_pos hk]; simp
    | succ i => exact bindL_at ns zs _ n2 (by simpa using hx) (by simpa using hy) hk
theorem bindC_at {kd : Str → Option NameKind} : ∀ (names : List Str) (xs : List Value) (m : Str → Option Value) {i : Nat} {x : Str} {y : Value}, names.Nodup → names[i]? = some x → xs[i]? = some y → kd x ≠ some .local → bindC kd (names.zip xs) m x = some y
  | [], _, _, _, _, _, _, h, _, _ => by simp at h
  | _ :: _, [], _, _, _, _, _, _, h, _ => by simp at h
  | n :: ns, z :: zs, m, i, x, y, nd, hx, hy, hk => by
    obtain ⟨n1, n2⟩ := List.nodup_cons.mp nd
    rw [List.zip_cons_cons]
    unfold bindC
    cases i with
    | zero =>
      simp at hx hy
      subst hx hy
      rw [bindC_skip _ _ fun p hp (e : p.1 = _) => n1 (by rw [← e]; exact zip_fst_mem hp), if_neg hk]; simp
    | succ i => exact bindC_at ns zs _ n2 (by simpa using hx) (by simpa using hy) hk

theorem Grow.lessF {F F' : Addr → Prop} {ρ : List Addr} {h : Heap} (hF : ∀ a, F a → F' a) : Grow F' ρ h F ρ h := ⟨fun _ _ _ e => e, fun _ _ fr _ => ⟨fun f => fr.1 (hF _ f), fr.2⟩, fun _ _ e => e⟩
theorem HInv.lessF {lay : Addr → List Str} {F F' : Addr → Prop} {h₀ : Heap} {ρ : List Addr} {σ : Hp} {h : Heap} (H : HInv lay F' h₀ ρ σ h) (hF : ∀ a, F a → F' a) : HInv lay F h₀ ρ σ h := by
  have G : Grow F' ρ h F ρ h := Grow.lessF hF
  refine ⟨H.len, H.nodup, fun a ha => let ⟨x, y⟩ := H.own a ha; ⟨fun f => x (hF a f), y⟩, fun a ha => H.fr a (hF a ha), fun n o a e q => ?_, H.base⟩
  have r := H.objs n o a e q
  cases o with
  | lst vs => obtain ⟨items, z, v⟩ := r; exact ⟨items, z, v.grow G⟩
  | dict C vs => obtain ⟨m, xs, z, q, v⟩ := r; exact ⟨m, xs, z, q, v.grow G⟩
  | frm L ns vs => obtain ⟨rfl, m, xs, z, q, v⟩ := r; exact ⟨rfl, m, xs, z, q, v.grow G⟩
  | dead => trivial

structure FnShape (c : Cx) (f : Addr) (fd : FuncData) (body : List Stmt) (names : List Str) (vars : List (Nat × Str)) (nloc : Nat) : Prop where
  look : ∃ oc od osl, c.K.lookup f = some ⟨oc, od, .func fd, osl⟩
  code : codeIn c.K fd.code fd.qualname = true
  stmts : fd.body = .stmts body
  closure : fd.closure = []
  globals : fd.globals = mainGlobals
  builtins : fd.builtins = builtinsNs
  co : fd.scope.isCoroutine = false
  gen : fd.scope.isGenerator = false
  kind : fd.scope.kind = .function
  nodup : names.Nodup
  vok : VarsOk vars
  kinds : ∀ p ∈ vars, fd.scope.names.lookup p.2 = some .local ∨ fd.scope.names.lookup p.2 = some .cell
  pars : ∀ i x, names[i]? = some x → (i, x) ∈ vars
  size : names.length ≤ nloc

noncomputable def Binds (K : Frag) (fd : FuncData) (mk : List Value → Args) (names : List Str) (extra : Bool) : Prop :=
  ∀ (M : Model) (A : Around) (s : Shared) (Q : List (Str × Value) → Shared → Prop) (E : Value → Shared → Prop) (xs : List Value), K.In s.heap → xs.length + (if extra then 1 else 0) = names.length →
    (if extra then Q (names.zip (xs ++ [.ref s.heap.objs.size])) { s with heap := s.heap.push emptyDict } else Q (names.zip xs) s) → wpAny M A (bindArgs fd (mk xs)) Q E s

noncomputable def locOf (vs : List V) (nloc : Nat) : Loc := vs.map some ++ List.replicate (nloc - vs.length) none
noncomputable def fnF (n nloc : Nat) (extra : Bool) (fb : SS) : SF := fun vs σ =>
  if Nat.beq vs.length n then
    match fb (locOf (if extra then vs ++ [.edict] else vs) nloc) σ with
    | some (.ret v, _, σ') => some (v, σ')
    | some (.next, _, σ') => some (.none, σ')
    | _ => none
  else none

theorem locOf_get {vs : List V} {nloc i : Nat} {v : V} (h : (locOf vs nloc)[i]? = some (some v)) : vs[i]? = some v := by
  unfold locOf at h
  by_cases hl : i < vs.length
  · rw [List.getElem?_append_left (by simpa using hl)] at h
    simpa using h
  · rw [List.getElem?_append_right (by simpa using Nat.le_of_not_lt hl)] at h
    obtain ⟨h1, h2⟩ := List.getElem?_eq_some_iff.mp h
    simp at h2

theorem OR.mono0 {lay : Addr → List Str} {F F' : Addr → Prop} {ρ : List Addr} {h h' : Heap} {o : SO} {a : Addr} (r : OR lay F ρ h o a) (hk : ∀ b o, h.get? b = some o → h'.get? b = some o) (G : Grow F ρ h F' ρ h') : OR lay F' ρ h' o a := by
  cases o with
  | lst vs => obtain ⟨items, ⟨n, ho⟩, v⟩ := r; exact ⟨items, ⟨n, hk _ _ ho⟩, v.grow G⟩
  | dict C vs => obtain ⟨m, xs, ⟨o, es, ep, e, z⟩, q, v⟩ := r; exact ⟨m, xs, ⟨o, es, ep, hk _ _ e, z⟩, q, v.grow G⟩
  | frm L ns vs => obtain ⟨rfl, m, xs, ⟨o, es, ep, e, z⟩, q, v⟩ := r; exact ⟨rfl, m, xs, ⟨o, es, ep, hk _ _ e, z⟩, q, v.grow G⟩
  | dead => trivial

theorem code_enter {c : Cx} (O : c.Ok) {f : Addr} {fd : FuncData} {body : List Stmt} {names : List Str} {vars : List (Nat × Str)} {nloc : Nat} (S : FnShape c f fd body names vars nloc)
    {A : Around} {s : Shared} {F : Addr → Prop} {ρ : List Addr} {σ : Hp} {vs : List V} {xs : List Value} {R : Result → Shared → Prop}
    (H : HInv c.lay F c.h₀ ρ σ s.heap) (r : VRs c.lay F ρ s.heap vs xs) (hn : xs.length = names.length)
    (q : ∀ env h' tk, env.scope = fd.scope → env.frame = some env.locals → env.cells = cellsFrom (s.heap.objs.size + 1) fd.scope.names [] → (∀ b o, s.heap.get? b = some o → ¬ OwnW env b) → (∀ b o, s.heap.get? b = some o → h'.get? b = some o) →
      HInv c.lay (fun a => F a ∨ OwnW env a) c.h₀ ρ σ h' → FrI c.lay vars (fun a => F a ∨ OwnW env a) ρ env (locOf vs nloc) h' → codeAny (model c.prog c.w) A (.func body env) R { s with heap := h', toks := tk }) :
    wpAny (model c.prog c.w) A.in1 (newFunctionEnv fd.scope fd.globals fd.closure (names.zip xs) (fd.qualname ++ ".<locals>.") (some f) fd.code none fd.builtins)
        (fun env s₂ => s₂.heap.NoLimit ∧ codeAny (model c.prog c.w) A (.func body env) R s₂) (fun e s' => R (.error e) s') s := by
  rw [S.closure]
  have kindOf : ∀ x, (fd.scope.names.lookup x = some .local ∨ fd.scope.names.lookup x = some .cell) → fd.scope.names.lookup x = some .local ∨ (fd.scope.names.lookup x = some .cell ∧ ((cellsFrom (s.heap.objs.size + 1) fd.scope.names []).lookup x).isSome = true) :=
    fun x h => h.imp id fun h => ⟨h, cellsFrom_some _ _ _ (.inl h)⟩
  refine wpAny_newFunctionEnv_cells S.kind (fun p hp => ?_) fun env henv s' IC => ?_
  · obtain ⟨i, hi, he⟩ := List.getElem_of_mem (zip_fst_mem hp)
    exact kindOf _ (S.kinds _ (S.pars i p.1 (by rw [← he]; exact List.getElem?_eq_getElem hi)))
  have eL : env.locals = s.heap.objs.size := by rw [henv]; rfl
  have eS : env.scope = fd.scope := by rw [henv]; rfl
  have eC : env.cells = cellsFrom (s.heap.objs.size + 1) fd.scope.names [] := by rw [henv]; rfl
  have eK : ∀ x, env.kindOf x = fd.scope.names.lookup x := fun x => by rw [Env.kindOf, eS]
  have newOwn : ∀ a, OwnW env a → s.heap.objs.size ≤ a := fun a w => by
    rcases w with rfl | ⟨x, hx⟩
    · rw [eL]; exact Nat.le_refl _
    · exact Nat.le_of_lt (eL ▸ IC.above x a (mem_of_lookup hx))
  have notOwn : ∀ b o, s.heap.get? b = some o → ¬ OwnW env b := fun b o e w => Nat.lt_irrefl _ (Nat.lt_of_lt_of_le (Heap.lt_size e) (newOwn b w))
  have hk := IC.toInCall.keep
  obtain ⟨h', tk, rfl⟩ := IC.toInCall.same
  dsimp only at hk
  have G : Grow F ρ s.heap (fun a => F a ∨ OwnW env a) ρ h' := ⟨fun b o _ e => hk b o e, fun b o fr e => ⟨fun w => w.elim fr.1 (notOwn b o e), fr.2⟩, fun _ _ e => e⟩
  have ownThere : ∀ a, OwnW env a → ∃ o, h'.get? a = some o := fun a w => by
    rcases w with rfl | ⟨x, hx⟩
    · obtain ⟨o, _, _, ho, _⟩ := IC.toInCall.ns; exact ⟨o, ho⟩
    · obtain ⟨o, ho, _⟩ := IC.cell x a hx; exact ⟨o, ho⟩
  have H' : HInv c.lay (fun a => F a ∨ OwnW env a) c.h₀ ρ σ h' := by
    refine ⟨H.len, H.nodup, fun a ha => ?_, fun a w => ?_, fun n o a e z => OR.mono0 (H.objs n o a e z) hk G, fun b o e => hk _ _ (H.base b o e)⟩
    · obtain ⟨x, y, o, e⟩ := H.own a ha
      exact ⟨fun w => w.elim x (notOwn a o e), y, o, hk _ _ e⟩
    · rcases w with w | w
      · obtain ⟨y, o, e⟩ := H.fr a w; exact ⟨y, o, hk _ _ e⟩
      · refine ⟨?_, ownThere a w⟩
        cases e : c.h₀.get? a with
        | none => rfl
        | some o => exact absurd w (notOwn a o (H.base a o e))
  have I' : FrI c.lay vars (fun a => F a ∨ OwnW env a) ρ env (locOf vs nloc) h' := by
    refine ⟨S.vok, by rw [eS]; exact S.kind, by rw [henv]; exact S.globals, by rw [henv]; exact S.builtins, ⟨_, IC.toInCall.ns⟩, .inr (.inl rfl), fun x a hx => ⟨.inr (.inr ⟨x, hx⟩), Nat.ne_of_gt (IC.above x a (mem_of_lookup hx)), _, IC.cell x a hx⟩,
      fun x y a hx hy => name_of_addr IC.apart (mem_of_lookup hx) (mem_of_lookup hy), fun i x hx => ?_, fun i x v hx hv => ?_⟩
    · rw [eK]
      refine (kindOf x (S.kinds _ hx)).imp id fun ⟨a, b⟩ => ⟨a, ?_⟩
      rw [eC]; exact Option.isSome_iff_exists.mp b
    · have hv' := locOf_get hv
      obtain ⟨y, hy, ry⟩ := r.get i hv'
      obtain ⟨il, _⟩ := List.getElem?_eq_some_iff.mp hy
      obtain ⟨x', hx'⟩ : ∃ x', names[i]? = some x' := ⟨names[i]'(hn ▸ il), List.getElem?_eq_getElem _⟩
      have : x = x' := S.vok.inj2 i x x' hx (S.pars i x' hx')
      subst this
      refine ⟨y, ?_, ry.grow G⟩
      rcases kindOf x (S.kinds _ hx) with hk1 | ⟨hk1, hk2⟩
      · exact .inl ⟨(eK x).trans hk1, _, IC.toInCall.ns, bindL_at names xs _ S.nodup hx' hy ((eK x).trans hk1)⟩
      · obtain ⟨a, ha⟩ := Option.isSome_iff_exists.mp hk2
        have ha' : env.cells.lookup x = some a := by rw [eC]; exact ha
        refine .inr ⟨(eK x).trans hk1, a, ha', ?_⟩
        have z := IC.cell x a ha'
        rwa [bindC_at names xs _ S.nodup hx' hy (by rw [eK, hk1]; decide)] at z
  have eF : env.frame = some env.locals := by rw [henv]; rfl
  exact ⟨(O.atL H').keeps fun _ _ e => e, q env h' tk eS eF eC notOwn hk H' I'⟩
theorem code_run {c : Cx} {k : Nat} (O : c.Ok) {f : Addr} {fd : FuncData} {body : List Stmt} {names : List Str} {vars : List (Nat × Str)} {nloc : Nat} {fb : SS} (S : FnShape c f fd body names vars nloc) (hb : DenSs c k vars fd.scope body fb)
    {A : Around} {s : Shared} {F : Addr → Prop} {ρ : List Addr} {σ : Hp} {vs : List V} {xs : List Value} {fl : Fl} {loc' : Loc} {σ' : Hp} {R : Result → Shared → Prop}
    (hA : AOk c (k + 1) A) (H : HInv c.lay F c.h₀ ρ σ s.heap) (r : VRs c.lay F ρ s.heap vs xs) (hn : xs.length = names.length) (e : fb (locOf vs nloc) σ = some (fl, loc', σ'))
    (q : ∀ z s' ρ', HInv c.lay F c.h₀ ρ' σ' s'.heap → Adv ρ σ s ρ' σ' s' NoW → FlR c.lay F ρ' s'.heap fl z → R (.ok (.ret (match z with | .ret v => v | _ => .none))) s') :
    wpAny (model c.prog c.w) A.in1 (newFunctionEnv fd.scope fd.globals fd.closure (names.zip xs) (fd.qualname ++ ".<locals>.") (some f) fd.code none fd.builtins)
        (fun env s₂ => s₂.heap.NoLimit ∧ codeAny (model c.prog c.w) A (.func body env) R s₂) (fun e s' => R (.error e) s') s := by
  refine code_enter O S H r hn fun env h' tk eS eF _ notOwn hk H' I' => codeAny_func ?_
  refine hb env (A.deeper env) _ (fun a => F a ∨ OwnW env a) ρ (locOf vs nloc) σ fl loc' σ' _ _ (hA.st eS eF) (hA.deeper env) H' I' e fun z s₂ ρ₂ H₂ I₂ A₂ r₂ => ?_
  have rz : FlR c.lay F ρ₂ s₂.heap fl z := by
    cases r₂ with
    | next => exact .next
    | brk => exact .brk
    | cont => exact .cont
    | ret r => exact .ret (r.grow (Grow.lessF fun a f => .inl f))
  refine q z s₂ ρ₂ (H₂.lessF fun a f => .inl f) ?_ rz
  obtain ⟨tl, rfl, ht⟩ := A₂.tl
  refine ⟨⟨tl, rfl, fun a ha => ?_⟩, A₂.live, fun b o e nl _ => A₂.keep b o (hk b o e) nl (notOwn b o e), fun b o e => A₂.there b o (hk b o e), A₂.gens, A₂.drawn, A₂.os⟩
  cases e : s.heap.get? a with
  | none => rfl
  | some o => have z := hk a o e; rw [show h'.get? a = none from ht a ha] at z; cases z
end Mine
namespace Mine
open PySem PySem.Spec PySem.Calls PyProof.Rows PySem.W

theorem code_fn {c : Cx} {k : Nat} (O : c.Ok) {f : Addr} {fd : FuncData} {body : List Stmt} {names : List Str} {vars : List (Nat × Str)} {nloc n : Nat} {fb : SS} {mk : List Value → Args} (S : FnShape c f fd body names vars nloc) (hb : DenSs c k vars fd.scope body fb)
    (B : Binds c.K fd mk names false) (hn : n = names.length) : CodeOk c (k + 1) (fun xs => .call (.ref f) (mk xs)) (fnF n nloc false fb) := by
  intro A s F ρ σ vs xs v σ' R hA H r e q
  unfold fnF at e
  split at e
  · rename_i hl
    have hl := Nat.eq_of_beq_eq_true hl
    obtain ⟨oc, od, osl, look⟩ := S.look
    refine codeAny_call_function hA.room ((O.atK H) _ _ look) rfl S.co S.gen S.stmts (codeRec_of (O.atK H) S.code) ?_
    have hx : xs.length = names.length := by rw [← r.length, hl, hn]
    refine B _ _ _ _ _ xs (O.atK H) (by simpa using hx) ?_
    simp only [Bool.false_eq_true, if_false] at e ⊢
    split at e
    · rename_i v' loc' σ₁ e1
      cases e
      exact code_run O S hb hA H r hx e1 fun z s' ρ' H' A' r' => by cases r' with | ret r' => exact q _ s' ρ' H' A' r'
    · rename_i loc' σ₁ e1
      cases e
      exact code_run O S hb hA H r hx e1 fun z s' ρ' H' A' r' => by cases r'; exact q _ s' ρ' H' A' .none
    · cases e
  · cases e

theorem code_fnX {c : Cx} {k : Nat} (O : c.Ok) {f : Addr} {fd : FuncData} {body : List Stmt} {names : List Str} {vars : List (Nat × Str)} {nloc n : Nat} {fb : SS} {mk : List Value → Args} (S : FnShape c f fd body names vars nloc) (hb : DenSs c k vars fd.scope body fb)
    (B : Binds c.K fd mk names true) (hn : n + 1 = names.length) : CodeOk c (k + 1) (fun xs => .call (.ref f) (mk xs)) (fnF n nloc true fb) := by
  intro A s F ρ σ vs xs v σ' R hA H r e q
  unfold fnF at e
  split at e
  · rename_i hl
    have hl := Nat.eq_of_beq_eq_true hl
    obtain ⟨oc, od, osl, look⟩ := S.look
    refine codeAny_call_function hA.room ((O.atK H) _ _ look) rfl S.co S.gen S.stmts (codeRec_of (O.atK H) S.code) ?_
    have hx : xs.length + 1 = names.length := by rw [← r.length, hl, hn]
    refine B _ _ _ _ _ xs (O.atK H) (by simpa using hx) ?_
    simp only [if_true] at e ⊢
    have hk := push_keep s.heap emptyDict
    have fr := H.freeNew (get_size_none s.heap)
    have nsys : (s.heap.objs.size == sysModules) = false := by
      obtain ⟨o, _, _, ho, _⟩ := O.atG H
      have h3 : (3 : Nat) < s.heap.objs.size := Heap.lt_size ho
      exact beq_eq_false_iff_ne.mpr fun z => by have : s.heap.objs.size = 1 := z; omega
    have A₁ : Adv ρ σ s ρ σ { s with heap := s.heap.push emptyDict } NoW := Adv.ext hk
    have H₁ : HInv c.lay F c.h₀ ρ σ (s.heap.push emptyDict) := H.ext hk
    have r₁ : VRs c.lay F ρ (s.heap.push emptyDict) (vs ++ [.edict]) (xs ++ [.ref s.heap.objs.size]) := (r.adv H A₁).append (.cons (.edict fr (Heap.get?_push_size _ rfl) nsys) .nil)
    have hx' : (xs ++ [Value.ref s.heap.objs.size]).length = names.length := by simpa using hx
    split at e
    · rename_i v' loc' σ₁ e1
      cases e
      exact code_run (s := { s with heap := s.heap.push emptyDict }) O S hb hA H₁ r₁ hx' e1 fun z s' ρ' H' A' r' => by cases r' with | ret r' => exact q _ s' ρ' H' (A₁.trans H.len H₁.len A') r'
    · rename_i loc' σ₁ e1
      cases e
      exact code_run (s := { s with heap := s.heap.push emptyDict }) O S hb hA H₁ r₁ hx' e1 fun z s' ρ' H' A' r' => by cases r'; exact q _ s' ρ' H' (A₁.trans H.len H₁.len A') .none
    · cases e
  · cases e

mutual
noncomputable def V.lowB (n : Nat) : V → Bool
  | .ref m => Nat.blt m n
  | .inst _ m => Nat.blt m n
  | .tup vs => V.lowBs n vs
  | .lst vs => V.lowBs n vs
  | .obj _ vs => V.lowBs n vs
  | _ => true
noncomputable def V.lowBs (n : Nat) : List V → Bool
  | [] => true
  | v :: vs => V.lowB n v && V.lowBs n vs
end
noncomputable def SO.lowB (n : Nat) : SO → Bool
  | .lst vs => V.lowBs n vs
  | .dict _ vs => V.lowBs n vs
  | .frm _ _ vs => V.lowBs n vs
  | .dead => true
noncomputable def V.frz (n : Nat) (σ : Hp) : V → V
  | .ref m => if Nat.blt m n then .ref m else match σ[m]? with
    | some (.lst ws) => .lst ws
    | _ => .ref m
  | .inst C m => if Nat.blt m n then .inst C m else match σ[m]? with
    | some (.dict C' ws) => if Nat.beq C' C then .obj C ws else .inst C m
    | _ => .inst C m
  | v => v
noncomputable def trunc (n : Nat) (v : V) (σ : Hp) : Option (V × Hp) :=
  if (V.frz n σ v).lowB n && (σ.take n).all (SO.lowB n) then some (V.frz n σ v, σ.take n) else none
noncomputable def trF (f : SF) : SF := fun vs σ => match f vs σ with
  | some (v, σ') => trunc σ.length v σ'
  | none => none

section
variable {lay : Addr → List Str} {F : Addr → Prop} {ρ tl : List Addr} {h : Heap}
theorem Free.left {a : Addr} (fr : Free F (ρ ++ tl) a) : Free F ρ a := ⟨fr.1, fun m => fr.2 (List.mem_append_left _ m)⟩
theorem slot_left {n : Nat} {a : Addr} (hl : Nat.blt n ρ.length = true) (e : (ρ ++ tl)[n]? = some a) : ρ[n]? = some a := by
  rwa [List.getElem?_append_left (Nat.le_of_ble_eq_true hl)] at e
theorem VR.shrink {v : V} {x : Value} (hv : v.lowB ρ.length = true) (r : VR lay F (ρ ++ tl) h v x) : VR lay F ρ h v x :=
  VR.rec (motive_1 := fun v x _ => v.lowB ρ.length = true → VR lay F ρ h v x) (motive_2 := fun vs xs _ => V.lowBs ρ.length vs = true → VRs lay F ρ h vs xs) (fun _ => .none) (fun _ => .bool) (fun _ => .int) (fun _ => .str) (fun _ => .g)
    (fun fr ht _ ih b => .tup fr.left ht (ih b))
    (fun fr ht _ ih b => .lst fr.left ht (ih b))
    (fun fa fd ha hd k _ ih b => .obj fa.left fd.left ha hd k (ih b))
    (fun fa ha hn b => .inst fa.left ha (slot_left b hn))
    (fun hn b => .ref (slot_left b hn))
    (fun fa hr _ => .rng fa.left hr)
    (fun fa hr z _ => .edict fa.left hr z)
    (fun _ => .nil) (fun _ _ a b q => .cons (a (Bool.and_eq_true_iff.mp q).1) (b (Bool.and_eq_true_iff.mp q).2)) r hv
theorem VRs.shrink {vs : List V} {xs : List Value} (hv : V.lowBs ρ.length vs = true) (r : VRs lay F (ρ ++ tl) h vs xs) : VRs lay F ρ h vs xs := by
  induction xs generalizing vs with
  | nil => cases r; exact .nil
  | cons x xs ih => cases r with | cons a b => exact .cons (a.shrink (Bool.and_eq_true_iff.mp hv).1) (ih (Bool.and_eq_true_iff.mp hv).2 b)
theorem HInv.shrink {h₀ : Heap} {σ : Hp} (H : HInv lay F h₀ (ρ ++ tl) σ h) (hb : (σ.take ρ.length).all (SO.lowB ρ.length) = true) : HInv lay F h₀ ρ (σ.take ρ.length) h := by
  have hle : ρ.length ≤ σ.length := by rw [H.len, List.length_append]; omega
  refine ⟨by rw [List.length_take]; omega, (List.nodup_append.mp H.nodup).1, fun a ha => H.own a (List.mem_append_left _ ha), H.fr, fun n o a e q => ?_, H.base⟩
  obtain ⟨hn, _⟩ := List.getElem?_eq_some_iff.mp q
  have hbo := List.all_eq_true.mp hb o (List.mem_of_getElem? e)
  rw [List.getElem?_take_of_lt hn] at e
  have r := H.objs n o a e (by rw [List.getElem?_append_left hn]; exact q)
  cases o with
  | lst vs => obtain ⟨items, z, v⟩ := r; exact ⟨items, z, v.shrink hbo⟩
  | dict C vs => obtain ⟨m, xs, z, q, v⟩ := r; exact ⟨m, xs, z, q, v.shrink hbo⟩
  | frm L ns vs => obtain ⟨rfl, m, xs, z, q, v⟩ := r; exact ⟨rfl, m, xs, z, q, v.shrink hbo⟩
  | dead => trivial
theorem out_left {n : Nat} {a : Addr} (nd : (ρ ++ tl).Nodup) (hl : Nat.blt n ρ.length = false) (e : (ρ ++ tl)[n]? = some a) : a ∉ ρ := by
  have hge : ρ.length ≤ n := by
    apply Nat.le_of_not_lt; intro q
    rw [show Nat.blt n ρ.length = true from Nat.ble_eq_true_of_le q] at hl; cases hl
  rw [List.getElem?_append_right hge] at e
  exact fun m => (List.nodup_append.mp nd).2.2 a m a (List.mem_of_getElem? e) rfl
theorem VR.frz {h₀ : Heap} {σ : Hp} (H : HInv lay F h₀ (ρ ++ tl) σ h) {v : V} {x : Value} (hb : (V.frz ρ.length σ v).lowB ρ.length = true) (r : VR lay F (ρ ++ tl) h v x) : VR lay F ρ h (V.frz ρ.length σ v) x := by
  have r0 := r
  cases r with
  | @ref a m e =>
    simp only [V.frz] at hb ⊢
    cases hm : Nat.blt m ρ.length with
    | true => rw [hm] at hb; simp only [if_true] at hb ⊢; exact .ref (slot_left hm e)
    | false =>
      rw [hm] at hb
      simp only [Bool.false_eq_true, if_false] at hb ⊢
      split at hb
      · rename_i ws es
        obtain ⟨items, hi, rs⟩ := H.objs _ _ _ es e
        exact .lst ⟨(H.own a (List.mem_of_getElem? e)).1, out_left H.nodup hm e⟩ hi (rs.shrink hb)
      · simp only [V.lowB] at hb; rw [hm] at hb; cases hb
  | @inst C a dx m fa ha e =>
    simp only [V.frz] at hb ⊢
    cases hm : Nat.blt m ρ.length with
    | true => rw [hm] at hb; simp only [if_true] at hb ⊢; exact .inst fa.left ha (slot_left hm e)
    | false =>
      rw [hm] at hb
      simp only [Bool.false_eq_true, if_false] at hb ⊢
      split at hb
      · rename_i C' ws es
        split at hb
        · rename_i hc
          have := Nat.eq_of_beq_eq_true hc
          subst this
          try rw [if_pos hc]
          obtain ⟨mm, xs, hi, hmm, rs⟩ := H.objs _ _ _ es e
          exact .obj fa.left ⟨(H.own dx (List.mem_of_getElem? e)).1, out_left H.nodup hm e⟩ ha hi hmm (rs.shrink hb)
        · simp only [V.lowB] at hb; rw [hm] at hb; cases hb
      · simp only [V.lowB] at hb; rw [hm] at hb; cases hb
  | _ => exact VR.shrink hb r0
end

section
variable {c : Cx} {k : Nat}
theorem trunc_ok {lay : Addr → List Str} {F : Addr → Prop} {h₀ : Heap} {ρ ρ' : List Addr} {σ σ' σ'' : Hp} {s s' : Shared} {v w : V} {z : Value} (H : HInv lay F h₀ ρ σ s.heap) (H' : HInv lay F h₀ ρ' σ' s'.heap) (A' : Adv ρ σ s ρ' σ' s' NoW) (r' : VR lay F ρ' s'.heap v z)
    (e : trunc σ.length v σ' = some (w, σ'')) : HInv lay F h₀ ρ σ'' s'.heap ∧ Adv ρ σ s ρ σ'' s' NoW ∧ VR lay F ρ s'.heap w z := by
  unfold trunc at e
  rw [H.len] at e
  split at e
  · rename_i hb
    obtain ⟨b1, b2⟩ := Bool.and_eq_true_iff.mp hb
    cases e
    obtain ⟨tl, rfl, ht⟩ := A'.tl
    refine ⟨H'.shrink b2, ⟨⟨[], by simp, by simp⟩, fun n hn ⟨o, eo, d⟩ => A'.live n hn ⟨o, ?_, d⟩, A'.keep, A'.there, A'.gens, A'.drawn, A'.os⟩, r'.frz H' b1⟩
    rwa [List.getElem?_take_of_lt (H.len ▸ hn)] at eo
  · cases e
theorem CodeOk.tr {cd : List Value → Code} {f : SF} (h : CodeOk c k cd f) : CodeOk c k cd (trF f) := by
  intro A s F ρ σ vs xs v σ' R hA H r e q
  unfold trF at e
  split at e
  · rename_i v₁ σ₁ e1
    refine h A s F ρ σ vs xs v₁ σ₁ R hA H r e1 fun z s' ρ' H' A' r' => ?_
    obtain ⟨a, b, d⟩ := trunc_ok H H' A' r' e
    exact q z s' ρ a b d
  · cases e

noncomputable def clsC (C : Addr) (fi : SF) : SF := fun vs σ => match fi (.inst C σ.length :: vs) (σ ++ [.dict C []]) with
  | some (.none, σ') => some (.inst C σ.length, σ')
  | _ => none
theorem code_cls (O : c.Ok) {C fI : Addr} {fi : SF} (hi : CodeOk c k (fun xs => .call (.ref fI) ⟨xs, []⟩) fi) (hm : makesIn c.K C = true) (hf : findIn c.K (.ref C) "__init__" = some (some (.ref fI))) (ht : isFn c.K (.ref fI) = true) :
    CodeOk c (k + 1) (fun xs => .call (.ref C) ⟨xs, []⟩) (clsC C fi) := by
  intro A s F ρ σ vs xs v σ' R hA H r e q
  unfold clsC at e
  split at e
  · rename_i σ₁ e1
    cases e
    have X := O.atK H
    obtain ⟨h, g, d, t, os⟩ := s
    dsimp only at H r q X
    refine make_core (init := .ref fI) (makes_of X hm) (looks_findIn X hf) (fun self => bind_fn X self (beq_iff_eq.mp ht)) (.inl (by rfl)) ?_
    have hk1 := push_keep h emptyDict
    have hn1 := get_size_none h
    have hk2 := push_keep (h.push emptyDict) (instObj C h.objs.size)
    have hk : ∀ b o, h.get? b = some o → ((h.push emptyDict).push (instObj C h.objs.size)).get? b = some o := fun b o e => hk2 b o (hk1 b o e)
    have hd : ((h.push emptyDict).push (instObj C h.objs.size)).get? h.objs.size = some emptyDict := hk2 _ _ (Heap.get?_push_size _ rfl)
    have sz : (h.push emptyDict).objs.size = h.objs.size + 1 := Heap.size_push ..
    have hx : ((h.push emptyDict).push (instObj C h.objs.size)).get? (h.objs.size + 1) = some (instObj C h.objs.size) := by
      rw [← sz]; exact Heap.get?_push_size _ rfl
    have hn2 : h.get? (h.objs.size + 1) = none := by
      cases e : h.get? (h.objs.size + 1) with
      | none => rfl
      | some o => exact absurd (Heap.lt_size e) (Nat.not_lt.mpr (Nat.le_succ _))
    have A₁ : Adv ρ σ ⟨h, g, d, t, os⟩ (ρ ++ [h.objs.size]) (σ ++ [.dict C []]) ⟨(h.push emptyDict).push (instObj C h.objs.size), g, d, t, os⟩ NoW := Adv.slot (s := ⟨h, g, d, t, os⟩) hk hn1
    have N1 : ((h.push emptyDict).push (instObj C h.objs.size)).Ns1 h.objs.size fun _ => none := Heap.Ns1.of_empty ⟨_, #[], 0, hd, rfl, fun _ he => by simp at he, fun _ => rfl⟩
    have H₁ : HInv c.lay F c.h₀ (ρ ++ [h.objs.size]) (σ ++ [.dict C []]) ((h.push emptyDict).push (instObj C h.objs.size)) :=
      H.slot hk hn1 ⟨_, hd⟩ ⟨fun _ => none, [], N1, fun x => by simp, .nil⟩
    have rI : VR c.lay F (ρ ++ [h.objs.size]) ((h.push emptyDict).push (instObj C h.objs.size)) (.inst C σ.length) (.ref (h.objs.size + 1)) := by
      refine .inst ⟨(H.freeNew hn2).1, fun m => ?_⟩ hx (by rw [H.len]; simp)
      rcases List.mem_append.mp m with m | m
      · exact (H.freeNew hn2).2 m
      · exact absurd (List.mem_singleton.mp m) (Nat.succ_ne_self _)
    refine hi (A.under (.builtin "type.__call__" ⟨.ref C :: xs, []⟩)) _ F _ _ (.inst C σ.length :: vs) _ .none σ' _ (hA.make C xs) H₁ (.cons rI (r.adv H A₁)) e1 fun z s' ρ' H' A' r' => ?_
    cases r'
    refine ⟨rfl, q _ s' ρ' H' (A₁.trans H.len H₁.len A') (rI.adv H₁ A')⟩
  · cases e
end

section
variable {c : Cx} {k : Nat} {vars : List (Nat × Str)} {sc : Scope}
noncomputable def callE (f : SF) (fs : List SE) : SE := fun loc σ => match argsE fs loc σ with
  | some (vs, σ₁) => f vs σ₁
  | none => none
noncomputable def Keep (c : Cx) (f : Value) : Prop := ∀ (M : Model) (h : Heap), c.K.In h → ∃ kk, (kk = Keeper.frame ∨ kk = Keeper.machine ∨ kk = Keeper.boundFrame) ∧ Looks M h (keeperOf f) kk
theorem Keep.K {f : Value} (e : keepIn c.K f = true) : Keep c f := fun _ h X => keeps_K e h X
theorem Keep.builtin {i : String} : Keep c (.builtin i) := fun _ _ _ => ⟨.machine, .inr (.inl rfl), Looks.of_pure rfl⟩
theorem Keep.type {i : String} : Keep c (.type i) := fun _ _ _ => ⟨.machine, .inr (.inl rfl), Looks.of_pure rfl⟩

theorem wpAny_of_spl_nil {M : Model} {A : Around} {E : Value → Shared → Prop} {s : Shared} {f : Value} {pos : Pos} {Q : Args → Shared → Prop} (h : wpAny M A (spliced (backTo pos [])) (fun vs s' => Q ⟨vs, []⟩ s') E s) : wpAny M A (evalArgs f true (backTo pos []) []) Q E s := by
  unfold evalArgs
  show wpAny M A (spliced (backTo pos []) >>= _) Q E s
  refine wpAny_bind (wpAny_mono h (fun vs s' h' => ?_) fun _ _ x => x)
  refine wpAny_bind (wpAny_pure (wpAny_holding ?_))
  exact wpAny_bind (wpAny_pure (wpAny_bind (wpAny_pure (wpAny_pure h'))))
theorem evalArgs_any {M : Model} {A : Around} {E : Value → Shared → Prop} {s : Shared} {f : Value} {pos : Pos} {es : List Expr} {env : Env} {Q : Args → Shared → Prop} (hst : ∀ p ∈ starEach es env, p.1 = false)
    (h : wpAny M A (spliced (backTo pos (starEach es env))) (fun vs s' => Q ⟨vs, []⟩ s') E s) : wpAny M A (evalArgs f true (backTo pos (starEach es env)) []) Q E s := by
  cases hs : starEach es env with
  | nil =>
    rw [hs] at h
    exact wpAny_of_spl_nil h
  | cons p r =>
    obtain ⟨b, t⟩ := p
    have hb : b = false := hst (b, t) (by rw [hs]; exact List.mem_cons_self)
    subst hb
    rw [hs] at h
    exact evalArgs_plain h
end
end Mine
namespace Mine
open PySem PySem.Spec PySem.Calls PyProof.Rows PySem.W

noncomputable def starFree : List Expr → Bool
  | [] => true
  | .Starred .. :: _ => false
  | _ :: r => starFree r
theorem starEach_free {env : Env} : ∀ {es : List Expr}, starFree es = true → ∀ q ∈ starEach es env, q.1 = false
  | [], _, q, hq => by cases hq
  | e :: r, h, q, hq => by
    cases e <;> first
      | (rcases List.mem_cons.mp hq with rfl | hq
         · rfl
         · exact starEach_free (es := r) h q hq)
      | cases h
theorem starFree_cons {e : Expr} {r : List Expr} (h : starFree (e :: r) = true) (env : Env) : starEach (e :: r) env = (false, eval e env) :: starEach r env := by
  cases e <;> first | rfl | cases h

section
variable {c : Cx} {k : Nat} {vars : List (Nat × Str)} {sc : Scope}
theorem den_argC {e₀ : Expr} {rest : List Expr} {f : SE} {fs : List SE} (he : DenE c k vars sc e₀ f) (hr : DenArgs c k vars sc rest (argsE fs)) (hst : starFree [e₀] = true) : DenArgs c k vars sc (e₀ :: rest) (argsE (f :: fs)) :=
  den_argCons he hr fun env => by cases e₀ <;> first | rfl | cases hst

theorem any_free {es : List Expr} {env : Env} {pos : Pos} (h : starFree es = true) : (backTo pos (starEach es env)).any (·.1) = false := by
  rw [List.any_eq_false]
  intro q hq
  obtain ⟨p, hp, rfl⟩ := List.mem_map.mp hq
  simp [starEach_free h p hp]

theorem callWith_go {f : Value} {F₁ : SF} {args : List Expr} {fs : List SE} (O : c.Ok) (hk : Keep c f) (ha : DenArgs c k vars sc args (argsE fs)) (hst : starFree args = true)
    {env : Env} {A : Around} {s : Shared} {F : Addr → Prop} {ρ : List Addr} {loc : Loc} {σ : Hp} {first : List Value} {firstV : List V} {v : V} {σ' : Hp} {pos : Pos} {Q E : Value → Shared → Prop}
    (hs : env.scope = sc) (hA : AOk c k A) (H : HInv c.lay F c.h₀ ρ σ s.heap) (I : FrI c.lay vars F ρ env loc s.heap) (hF : FnOk c k (fun xs => call f xs) F₁) (rf : VRs c.lay F ρ s.heap firstV first)
    (e : (match argsE fs loc σ with | some (vs, σ₁) => F₁ (firstV ++ vs) σ₁ | none => none) = some (v, σ'))
    (q : ∀ z s' ρ', HInv c.lay F c.h₀ ρ' σ' s'.heap → Adv ρ σ s ρ' σ' s' NoW → VR c.lay F ρ' s'.heap v z → Q z s') :
    wpAny (model c.prog c.w) A (callWith pos f first (backTo pos (starEach args env)) []) Q E s := by
  split at e
  · rename_i vs σ₁ e1
    refine callWith_of (P := fun h => c.K.In h) (by rw [any_free hst]; rfl) (fun h X => hk _ h X) (evalArgs_any (starEach_free hst) ?_)
    refine ha env A s F ρ loc σ vs σ₁ pos _ _ hs hA H I e1 fun xs s₁ ρ₁ H₁ A₁ r₁ => ⟨O.atK H₁, ?_⟩
    exact hF A s₁ F ρ₁ σ₁ (firstV ++ vs) (first ++ xs) v σ' Q E hA H₁ ((rf.adv H A₁).append r₁) e fun z s₂ ρ₂ H₂ A₂ r₂ => q z s₂ ρ₂ H₂ (A₁.trans H.len H₁.len A₂) r₂
  · cases e

theorem den_call (O : c.Ok) {id : Str} {p pos : Pos} {f : Value} {F₁ : SF} {args : List Expr} {fs : List SE} (hf : DenE c k vars sc (.Name id p) (kE (.g f))) (hk : Keep c f) (hF : FnOk c k (fun xs => call f xs) F₁) (ha : DenArgs c k vars sc args (argsE fs)) (hst : starFree args = true) :
    DenE c k vars sc (.Call (.Name id p) args [] pos) (callE F₁ fs) := by
  intro env A s F ρ loc σ v σ' Q E hs hA H I e q
  refine wpAny_Call_Name_kw (hf env A s F ρ loc σ (.g f) σ _ _ hs hA H I rfl fun x s₁ ρ₁ H₁ A₁ r₁ => ?_)
  cases r₁
  exact callWith_go O hk ha hst hs hA H₁ (I.adv H A₁) hF (first := []) (firstV := []) .nil e fun z s₂ ρ₂ H₂ A₂ r₂ => q z s₂ ρ₂ H₂ (A₁.trans H.len H₁.len A₂) r₂

noncomputable def MethAt (c : Cx) (name : Str) (f : Value) (chk : Hp → V → Bool) : Prop :=
  ∀ (A : Around) (s : Shared) (F : Addr → Prop) (ρ : List Addr) (σ : Hp) (v : V) (x : Value) (pl : Sem Bool) (Q : Value × List Value → Shared → Prop) (E : Value → Shared → Prop),
    HInv c.lay F c.h₀ ρ σ s.heap → VR c.lay F ρ s.heap v x → chk σ v = true → Q (f, [x]) s → wpAny (model c.prog c.w) A (getMethod x name pl) Q E s
noncomputable def chkI (C : Addr) (σ : Hp) (v : V) : Bool := match attrs? σ v with
  | some (C', _) => Nat.beq C' C
  | none => false
noncomputable def chkStr (_ : Hp) (v : V) : Bool := match v with | .str _ => true | _ => false
noncomputable def chkRef (σ : Hp) (v : V) : Bool := match v with
  | .ref n => (match σ[n]? with | some (.lst _) => true | _ => false)
  | _ => false
theorem meth_inst (O : c.Ok) {C f : Addr} {name : Str} (hg : plainGet c.K C name = true) (hf : findIn c.K (.ref C) name = some (some (.ref f))) (ht : isFn c.K (.ref f) = true) (hn : name ∉ c.lay C) : MethAt c name (.ref f) (chkI C) := by
  intro A s F ρ σ v x pl Q E H r hc q
  unfold chkI at hc
  split at hc
  · rename_i C' vs ea
    have := Nat.eq_of_beq_eq_true hc
    subst this
    obtain ⟨a, dx, m, xs, rfl, hia, hns, hm, rs⟩ := inst_at H r ea
    obtain ⟨od, hod, hlk⟩ := lookIn_ns (Heap.Ns1.ns hns)
    refine method_fn (O.atK H) (InstAt.ofNs hia hod) (plainGet_of hg).1 (plainGet_of hg).2 hf (beq_iff_eq.mp ht) ?_ q
    show (lookIn name od).map _ = _
    rw [hlk, hm name, zip_lookup_none hn]; rfl
  · cases hc
theorem meth_str {name : Str} {id : String} (h : ∀ {M : Model} {A : Around} {s : Shared} {x : Str} {t : Tok} {pl : Sem Bool} {Q : Value × List Value → Shared → Prop} {E : Value → Shared → Prop}, Q (.builtin id, [.str x t]) s → wpAny M A (getMethod (.str x t) name pl) Q E s) : MethAt c name (.builtin id) chkStr := by
  intro A s F ρ σ v x pl Q E H r hc q
  cases r with
  | str => exact h q
  | _ => cases hc
theorem meth_append : MethAt c "append" (.builtin "list.append") chkRef := by
  intro A s F ρ σ v x pl Q E H r hc q
  cases r with
  | @ref a n hn =>
    simp only [chkRef] at hc
    split at hc
    · rename_i vs es
      obtain ⟨items, ⟨m, ho⟩, rs⟩ := H.objs _ _ _ es hn
      exact getMethod_list_append ho rfl rfl q
    · cases hc
  | _ => cases hc

noncomputable def methE (chk : Hp → V → Bool) (F₁ : SF) (fo : SE) (fs : List SE) : SE := fun loc σ => match fo loc σ with
  | some (a, σ₁) => if chk σ₁ a then (match argsE fs loc σ₁ with
    | some (vs, σ₂) => F₁ ([a] ++ vs) σ₂
    | none => none) else none
  | none => none
noncomputable def MethForm (o : Expr) (name : Str) (apos : Pos) (args : List Expr) (kws : List Keyword) (pos : Pos) (sc : Scope) : Prop :=
  ∀ env : Env, env.scope = sc → ∃ pl : Sem Bool, eval (.Call (.Attribute o name apos) args kws pos) env = (do
    let ov ← eval o env
    standAt apos.atName
    let (f, first) ← holding [ov] (getMethod ov name pl)
    callWith pos f first (backTo pos (starEach args env)) (backToKw pos (keywordEach kws env)))

theorem den_meth (O : c.Ok) {o : Expr} {name : Str} {apos pos : Pos} {f : Value} {F₁ : SF} {args : List Expr} {fo : SE} {fs : List SE} {chk : Hp → V → Bool} (ho : DenE c k vars sc o fo) (hm : MethAt c name f chk) (hk : Keep c f) (hF : FnOk c k (fun xs => call f xs) F₁) (ha : DenArgs c k vars sc args (argsE fs)) (hst : starFree args = true)
    (hev : MethForm o name apos args [] pos sc) : DenE c k vars sc (.Call (.Attribute o name apos) args [] pos) (methE chk F₁ fo fs) := by
  intro env A s F ρ loc σ v σ' Q E hs hA H I e q
  obtain ⟨pl, he⟩ := hev env hs
  refine methodCall_KW (pl := pl) ?_ he
  unfold methE at e
  split at e
  · rename_i a σ₁ e1
    split at e
    · rename_i hc
      refine ho env A s F ρ loc σ a σ₁ _ _ hs hA H I e1 fun x s₁ ρ₁ H₁ A₁ r₁ => ?_
      refine hm A s₁ F ρ₁ σ₁ a x pl _ _ H₁ r₁ hc ?_
      exact callWith_go O hk ha hst hs hA H₁ (I.adv H A₁) hF (first := [x]) (firstV := [a]) (.cons r₁ .nil) e fun z s₂ ρ₂ H₂ A₂ r₂ => q z s₂ ρ₂ H₂ (A₁.trans H.len H₁.len A₂) r₂
    · cases e
  · cases e

noncomputable def methKwE (chk : Hp → V → Bool) (F₁ : SF) (fo : SE) (fs : List SE) (b : Bool) : SE := fun loc σ => match fo loc σ with
  | some (a, σ₁) => if chk σ₁ a then (match argsE fs loc σ₁ with
    | some (vs, σ₂) => F₁ ([a] ++ vs ++ [.bool b]) σ₂
    | none => none) else none
  | none => none
theorem den_methKw (O : c.Ok) {o : Expr} {name kn : Str} {apos pos p1 p2 : Pos} {n : Nat} {b : Bool} {f : Value} {F₁ : SF} {e₀ : Expr} {fo f₀ : SE} {chk : Hp → V → Bool} (ho : DenE c k vars sc o fo) (hm : MethAt c name f chk) (hk : Keep c f) (hF : FnOk c k (kw1 f kn) F₁) (ha : DenE c k vars sc e₀ f₀) (hst : starFree [e₀] = true)
    (hev : MethForm o name apos [e₀] [⟨some kn, .Constant (.bool b) n p1, p2⟩] pos sc) : DenE c k vars sc (.Call (.Attribute o name apos) [e₀] [⟨some kn, .Constant (.bool b) n p1, p2⟩] pos) (methKwE chk F₁ fo [f₀] b) := by
  intro env A s F ρ loc σ v σ' Q E hs hA H I e q
  obtain ⟨pl, he⟩ := hev env hs
  refine methodCall_KW (pl := pl) ?_ he
  have hargs := den_argC ha (den_argNil (c := c) (k := k) (vars := vars) (sc := sc)) hst
  unfold methKwE at e
  split at e
  · rename_i a σ₁ e1
    split at e
    · rename_i hc
      split at e
      · rename_i vs σ₂ e2
        refine ho env A s F ρ loc σ a σ₁ _ _ hs hA H I e1 fun x s₁ ρ₁ H₁ A₁ r₁ => ?_
        refine hm A s₁ F ρ₁ σ₁ a x pl _ _ H₁ r₁ hc ?_
        refine callWith_of (P := fun h => c.K.In h) (by rw [any_free hst]; rfl) (fun h X => hk _ h X) ?_
        have hse := starFree_cons hst env
        have goal : wpAny (model c.prog c.w) A (spliced (backTo pos (starEach [e₀] env))) (fun vs s₁ => wpAny (model c.prog c.w) A (evalAll ((backToKw pos (keywordEach [⟨some kn, .Constant (.bool b) n p1, p2⟩] env)).map (·.2))) (fun ks s₂ => c.K.In s₂.heap ∧ wpAny (model c.prog c.w) A (call f ([x] ++ vs) ([kn].zip ks)) Q E s₂) E s₁) E s₁ := by
          refine hargs env A s₁ F ρ₁ loc σ₁ vs σ₂ pos _ _ hs hA H₁ (I.adv H A₁) e2 fun xs s₂ ρ₂ H₂ A₂ r₂ => ?_
          refine wpAny_evalAll_cons (wpAny_bind ?_)
          refine wpAny_Constant_bool (wpAny_bind (wpAny_standAt (wpAny_pure (wpAny_evalAll_nil ⟨O.atK H₂, ?_⟩))))
          have z := hF A s₂ F ρ₂ σ₂ ([a] ++ vs ++ [.bool b]) ([x] ++ xs ++ [.bool b]) v σ' Q E hA H₂ ((((VRs.cons r₁ .nil).adv H₁ A₂).append r₂).append (.cons .bool .nil)) e fun z s₃ ρ₃ H₃ A₃ r₃ => q z s₃ ρ₃ H₃ ((A₁.trans H.len H₁.len A₂).trans H.len H₂.len A₃) r₃
          unfold kw1 at z
          rw [List.dropLast_concat] at z
          have gl : ([x] ++ xs ++ [Value.bool b]).getLastD .none = .bool b := by rw [List.getLastD_eq_getLast?, List.getLast?_concat]; rfl
          rw [gl] at z
          exact z
        rw [hse] at goal ⊢
        exact evalArgs_kw rfl goal
      · cases e
    · cases e
  · cases e
end
end Mine
namespace Mine
open PySem PySem.Spec PySem.Calls PyProof.Rows PySem.W

structure It (c : Cx) (A : Around) (I : Addr) (wr fp : List Addr) (target : Expr) (vs : List V) (sf : Bool) (St : (Addr → Prop) → Nat → List Addr → Heap → Prop) : Prop where
  sub : ∀ b ∈ wr, b ∈ fp
  frame : ∀ F F' i ρ h ρ' h', St F i ρ h → Grow F ρ h F' ρ' h' → (∀ b ∈ fp, ∀ o, h.get? b = some o → h'.get? b = some o) → St F' i ρ' h'
  item : ∀ F', (∀ b ∈ wr, F' b) → ∀ i (s : Shared) ρ σ v (Q : Value → Shared → Prop) (E : Value → Shared → Prop), vs[i]? = some v → St F' i ρ s.heap → HInv c.lay F' c.h₀ ρ σ s.heap →
    (∀ x h' tk, St F' (i + 1) ρ h' → HInv c.lay F' c.h₀ ρ σ h' → (∀ b o, b ∉ wr → s.heap.get? b = some o → h'.get? b = some o) → (∀ b o, s.heap.get? b = some o → ∃ o', h'.get? b = some o') → VR c.lay F' ρ h' v x → Q x { s with heap := h', toks := tk }) →
    wpAny (model c.prog c.w) A (pyNext (.ref I)) (fun r s₁ => match r with | none => False | some x => wpAny (model c.prog c.w) A (letOwnedTupleGo target (.ref I) x) (fun _ s₂ => Q x s₂) E s₁) E s
  done : ∀ F' (s : Shared) ρ (Q : Shared → Prop) (E : Value → Shared → Prop), St F' vs.length ρ s.heap →
    (∀ h' tk, (∀ b o, b ∉ wr → s.heap.get? b = some o → h'.get? b = some o) → Q { s with heap := h', toks := tk }) →
    wpAny (model c.prog c.w) A (pyNext (.ref I)) (fun r s₁ => match r with | none => Q s₁ | some _ => False) E s
  self : sf = true → ∀ F' (s : Shared) ρ (Q : Value → Shared → Prop) (E : Value → Shared → Prop), St F' 0 ρ s.heap → Q (.ref I) s → wpAny (model c.prog c.w) A (pyIter (.ref I)) Q E s

noncomputable def forL (tgt : SA) (body : SS) : List V → SS
  | [], loc, σ => some (.next, loc, σ)
  | v :: vs, loc, σ => match tgt v loc σ with
    | some (loc₁, σ₁) => (match body loc₁ σ₁ with
      | some (.next, l, σ₂) => forL tgt body vs l σ₂
      | some (.cont, l, σ₂) => forL tgt body vs l σ₂
      | some (.brk, l, σ₂) => some (.next, l, σ₂)
      | some (.ret v, l, σ₂) => some (.ret v, l, σ₂)
      | none => none)
    | none => none

section
variable {lay : Addr → List Str} {F F' : Addr → Prop} {h₀ : Heap} {ρ ρ' : List Addr} {σ σ' : Hp} {s s' : Shared} {W : Addr → Prop}
theorem notLive_adv (hl : σ.length = ρ.length) (x : Adv ρ σ s ρ' σ' s' W) {b : Addr} (nl : ¬ Live ρ σ b) (he : ∃ o, s.heap.get? b = some o) : ¬ Live ρ' σ' b := fun ⟨n, e, al⟩ => by
  obtain ⟨tl, rfl, ht⟩ := x.tl
  by_cases hn : n < ρ.length
  · exact nl ⟨n, by rwa [List.getElem?_append_left hn] at e, x.live n (hl ▸ hn) al⟩
  · rw [List.getElem?_append_right (Nat.le_of_not_lt hn)] at e
    obtain ⟨o, ho⟩ := he
    rw [ht b (List.mem_of_getElem? e)] at ho; cases ho
theorem adv_wr {wr : List Addr} {h' : Heap} {tk : Nat} (hk : ∀ b o, b ∉ wr → s.heap.get? b = some o → h'.get? b = some o) (ht : ∀ b o, s.heap.get? b = some o → ∃ o', h'.get? b = some o') : Adv ρ σ s ρ σ { s with heap := h', toks := tk } (fun b => b ∈ wr) :=
  ⟨⟨[], by simp, by simp⟩, fun _ _ x => x, fun b o e _ nw => hk b o nw e, ht, rfl, rfl, rfl⟩
theorem FrI.chg {vars : List (Nat × Str)} {env : Env} {loc : Loc} (I : FrI lay vars F ρ env loc s.heap) (H : HInv lay F h₀ ρ σ s.heap) (x : Adv ρ σ s ρ' σ' s' W) (hw : ∀ b, W b → F b) (hn : ∀ b, OwnW env b → ¬ W b) : FrI lay vars F ρ' env loc s'.heap := by
  have nl : ∀ b, F b → ¬ Live ρ σ b := fun b fb l => (H.own b l.mem).1 fb
  have kp : ∀ b o, OwnW env b → s.heap.get? b = some o → s'.heap.get? b = some o := fun b o ob e => x.keep b o e (nl b (I.ownF b ob)) (hn b ob)
  have kn : ∀ m, s.heap.Ns env.locals m → s'.heap.Ns env.locals m := fun m ⟨o, es, ep, e, r⟩ => ⟨o, es, ep, kp _ _ (.inl rfl) e, r⟩
  have kc : ∀ y c v, env.cells.lookup y = some c → s.heap.IsCell c v → s'.heap.IsCell c v := fun y c v hy ⟨o, e, r⟩ => ⟨o, kp _ _ (.inr ⟨y, hy⟩) e, r⟩
  refine ⟨I.vok, I.kind, I.glob, I.bi, let ⟨m, q⟩ := I.ns; ⟨m, kn m q⟩, I.loF, fun y c e => let ⟨a, b, v, d⟩ := I.cellsF y c e; ⟨a, b, v, kc y c v e d⟩, I.cellsNe, I.kinds, fun i y v hi hl => ?_⟩
  obtain ⟨z, hz, hv⟩ := I.vals i y v hi hl
  refine ⟨z, ?_, hv.grow (x.grow H hw)⟩
  rcases hz with ⟨k, m, a, b⟩ | ⟨k, c, a, b⟩
  · exact .inl ⟨k, m, kn m a, b⟩
  · exact .inr ⟨k, c, a, kc y c _ a b⟩
theorem FrI.moreF {vars : List (Nat × Str)} {env : Env} {loc : Loc} {h h' : Heap} (I : FrI lay vars F ρ env loc h) (hF : ∀ a, F a → F' a) (hk : ∀ b o, h.get? b = some o → h'.get? b = some o) (G : Grow F ρ h F' ρ h') : FrI lay vars F' ρ env loc h' := by
  refine ⟨I.vok, I.kind, I.glob, I.bi, let ⟨m, q⟩ := I.ns; ⟨m, q.keeps hk⟩, hF _ I.loF, fun y c e => let ⟨a, b, v, d⟩ := I.cellsF y c e; ⟨hF _ a, b, v, d.keeps hk⟩, I.cellsNe, I.kinds, fun i y v hi hl => ?_⟩
  obtain ⟨z, hz, hv⟩ := I.vals i y v hi hl
  refine ⟨z, ?_, hv.grow G⟩
  rcases hz with ⟨k, m, a, b⟩ | ⟨k, c, a, b⟩
  · exact .inl ⟨k, m, a.keeps hk, b⟩
  · exact .inr ⟨k, c, a, b.keeps hk⟩
theorem HInv.moreF {h h' : Heap} (H : HInv lay F h₀ ρ σ h) (hF : ∀ a, F a → F' a) (hk : ∀ b o, h.get? b = some o → h'.get? b = some o) (hn : ∀ a, F' a → F a ∨ (h.get? a = none ∧ ∃ o, h'.get? a = some o)) : HInv lay F' h₀ ρ σ h' ∧ Grow F ρ h F' ρ h' := by
  have G : Grow F ρ h F' ρ h' := ⟨fun b o _ e => hk b o e, fun b o fr e => ⟨fun f => (hn b f).elim fr.1 fun q => (by rw [q.1] at e; cases e), fr.2⟩, fun _ _ e => e⟩
  refine ⟨⟨H.len, H.nodup, fun a ha => ?_, fun a w => ?_, fun n o a e z => OR.mono0 (H.objs n o a e z) hk G, fun b o e => hk _ _ (H.base b o e)⟩, G⟩
  · obtain ⟨x, y, o, e⟩ := H.own a ha
    exact ⟨fun w => (hn a w).elim x fun q => (by rw [q.1] at e; cases e), y, o, hk _ _ e⟩
  · rcases hn a w with w | w
    · obtain ⟨y, o, e⟩ := H.fr a w; exact ⟨y, o, hk _ _ e⟩
    · exact ⟨H.new0 w.1, w.2⟩
theorem HInv.dropWr {h h' : Heap} {wr : List Addr} (H : HInv lay F' h₀ ρ σ h) (hF : ∀ a, F a → F' a ∧ a ∉ wr) (hw : ∀ b ∈ wr, F' b) (hk : ∀ b o, b ∉ wr → h.get? b = some o → h'.get? b = some o) : HInv lay F h₀ ρ σ h' ∧ Grow F' ρ h F ρ h' := by
  have G : Grow F' ρ h F ρ h' := ⟨fun b o fr e => hk b o (fun q => fr.1 (hw b q)) e, fun b o fr _ => ⟨fun f => fr.1 (hF b f).1, fr.2⟩, fun _ _ e => e⟩
  refine ⟨⟨H.len, H.nodup, fun a ha => ?_, fun a f => ?_, fun n o a e z => ?_, fun b o e => ?_⟩, G⟩
  · obtain ⟨x, y, o, e⟩ := H.own a ha
    exact ⟨fun f => x (hF a f).1, y, o, hk a o (fun q => x (hw a q)) e⟩
  · obtain ⟨y, o, e⟩ := H.fr a (hF a f).1
    exact ⟨y, o, hk a o (hF a f).2 e⟩
  · have na := (H.own a (List.mem_of_getElem? z)).1
    have kp : ∀ o, h.get? a = some o → h'.get? a = some o := fun o e => hk a o (fun q => na (hw a q)) e
    have r := H.objs n o a e z
    cases o with
    | lst vs => obtain ⟨items, ⟨n, ho⟩, v⟩ := r; exact ⟨items, ⟨n, kp _ ho⟩, v.grow G⟩
    | dict C vs => obtain ⟨m, xs, ⟨o, es, ep, e, z⟩, q, v⟩ := r; exact ⟨m, xs, ⟨o, es, ep, kp _ e, z⟩, q, v.grow G⟩
    | frm L ns vs => obtain ⟨rfl, m, xs, ⟨o, es, ep, e, z⟩, q, v⟩ := r; exact ⟨rfl, m, xs, ⟨o, es, ep, kp _ e, z⟩, q, v.grow G⟩
    | dead => trivial
  · refine hk b o (fun q => ?_) (H.base b o e)
    rw [(H.fr b (hw b q)).1] at e; cases e
end

inductive ForI (c : Cx) (vars : List (Nat × Str)) (F' : Addr → Prop) (env : Env) (ws : List V) (St : (Addr → Prop) → Nat → List Addr → Heap → Prop) (tgt : SA) (fb : SS) (ρ : List Addr) (σ : Hp) (s : Shared) (W : Addr → Prop) (r : Fl × Loc × Hp) : Nat → Shared → Prop
  | mk {m i : Nat} {loc₁ : Loc} {σ₁ : Hp} {ρ₁ : List Addr} {s' : Shared} : i ≤ ws.length → m = ws.length - i → St F' i ρ₁ s'.heap → HInv c.lay F' c.h₀ ρ₁ σ₁ s'.heap → FrI c.lay vars F' ρ₁ env loc₁ s'.heap → Adv ρ σ s ρ₁ σ₁ s' W → forL tgt fb (ws.drop i) loc₁ σ₁ = some r → ForI c vars F' env ws St tgt fb ρ σ s W r m s'
noncomputable def ForQ (I : Nat → Shared → Prop) (n : Nat) (R : Result → Shared → Prop) (f : Flow) (s : Shared) : Prop := match f with
  | .next | .cont => ∃ m, m < n ∧ I m s
  | .brk => R (.ok .next) s
  | .ret v => R (.ok (.ret v)) s
theorem for_go {c : Cx} {k : Nat} {vars : List (Nat × Str)} {sc : Scope} {A : Around} {F' : Addr → Prop} {Ia : Addr} {wr fp : List Addr} {target : Expr} {ws : List V} {sf : Bool} {St : (Addr → Prop) → Nat → List Addr → Heap → Prop} {tgt : SA} {fb : SS} {body : List Stmt}
    (T : It c A Ia wr fp target ws sf St) (hwF' : ∀ b ∈ wr, F' b) (ht : DenA c k vars sc target tgt) (hb : DenSs c k vars sc body fb) {env : Env} {s : Shared} {ρ : List Addr} {loc : Loc} {σ : Hp} {fl : Fl} {loc' : Loc} {σ' : Hp} {R : Result → Shared → Prop}
    (hs : StOk c k sc env A) (hA : AOk c k A) (H : HInv c.lay F' c.h₀ ρ σ s.heap) (I : FrI c.lay vars F' ρ env loc s.heap) (st : St F' 0 ρ s.heap)
    (hfp : ∀ b ∈ fp, ¬ Live ρ σ b ∧ ¬ OwnW env b ∧ ∃ o, s.heap.get? b = some o)
    (e : forL tgt fb ws loc σ = some (fl, loc', σ'))
    (q : ∀ z s₁ ρ' h' tk, HInv c.lay F' c.h₀ ρ' σ' s₁.heap → FrI c.lay vars F' ρ' env loc' s₁.heap → Adv ρ σ s ρ' σ' s₁ (fun b => OwnW env b ∨ b ∈ wr) → FlR c.lay F' ρ' s₁.heap fl z → (∀ b o, b ∉ wr → s₁.heap.get? b = some o → h'.get? b = some o) → R (.ok z) { s₁ with heap := h', toks := tk }) :
    codeAny (model c.prog c.w) A (.forLoop target (.ref Ia) body [] env) R s := by
  refine codeAny_forLoop_any (ForI c vars F' env ws St tgt fb ρ σ s (fun b => OwnW env b ∨ b ∈ wr) (fl, loc', σ'))
    ?_ (ws.length - 0) (.mk (i := 0) (Nat.zero_le _) rfl st H I .refl e)
  intro m s' z
  cases z with
  | @mk i loc₁ σ₁ ρ₁ _ hi hm st₁ H₁ I₁ A₁ e₁ =>
  subst hm
  have hfp₁ : ∀ b ∈ fp, ¬ Live ρ₁ σ₁ b := fun b hb => notLive_adv H.len A₁ (hfp b hb).1 (hfp b hb).2.2
  have hwF : ∀ b, (OwnW env b ∨ b ∈ wr) → F' b := fun b w => w.elim (I₁.ownF b) (hwF' b)
  by_cases hlt : i < ws.length
  · obtain ⟨v, hv⟩ : ∃ v, ws[i]? = some v := ⟨_, List.getElem?_eq_getElem hlt⟩
    have hd : ws.drop i = v :: ws.drop (i + 1) := by
      rw [List.drop_eq_getElem_cons hlt]
      have := (List.getElem?_eq_some_iff.mp hv).2
      rw [this]
    rw [hd] at e₁
    simp only [forL] at e₁
    refine wpAny_mono (T.item F' hwF' i s' ρ₁ σ₁ v (fun x s₂ => wpAny (model c.prog c.w) A (assign target env x) (fun _ s₂ => wpAny (model c.prog c.w) A (execs body env) (ForQ (ForI c vars F' env ws St tgt fb ρ σ s (fun b => OwnW env b ∨ b ∈ wr) (fl, loc', σ')) (ws.length - i) R) (notedBy (model c.prog c.w) A env fun e s' => R (.error e) s') s₂) (notedBy (model c.prog c.w) A env fun e s' => R (.error e) s') s₂) (notedBy (model c.prog c.w) A env fun e s' => R (.error e) s') hv st₁ H₁ fun x h₂ tk₂ st₂ H₂ kp₂ th₂ r₂ => ?_) (fun r s₁ h => by cases r with | none => exact h.elim | some x => exact h) fun _ _ h => h
    have A₂ : Adv ρ₁ σ₁ s' ρ₁ σ₁ { s' with heap := h₂, toks := tk₂ } (fun b => OwnW env b ∨ b ∈ wr) := (adv_wr kp₂ th₂).mono fun b w => .inr w
    have I₂ : FrI c.lay vars F' ρ₁ env loc₁ h₂ := I₁.chg (s' := { s' with heap := h₂, toks := tk₂ }) H₁ (adv_wr kp₂ th₂) hwF' fun b ob hw => (hfp b (T.sub b hw)).2.1 ob
    split at e₁
    · rename_i loc₂ σ₂ e₂
      refine ht env A _ F' ρ₁ loc₁ σ₁ v x loc₂ σ₂ _ _ hs.1 hA H₂ I₂ r₂ e₂ fun s₃ ρ₃ H₃ I₃ A₃ => ?_
      have bodyGo : ∀ f₄ loc₄ σ₄, fb loc₂ σ₂ = some (f₄, loc₄, σ₄) → (∀ z s₄ ρ₄, HInv c.lay F' c.h₀ ρ₄ σ₄ s₄.heap → FrI c.lay vars F' ρ₄ env loc₄ s₄.heap → Adv ρ σ s ρ₄ σ₄ s₄ (fun b => OwnW env b ∨ b ∈ wr) → St F' (i + 1) ρ₄ s₄.heap → FlR c.lay F' ρ₄ s₄.heap f₄ z →
          ForQ (ForI c vars F' env ws St tgt fb ρ σ s (fun b => OwnW env b ∨ b ∈ wr) (fl, loc', σ')) (ws.length - i) R z s₄) → wpAny (model c.prog c.w) A (execs body env) (ForQ (ForI c vars F' env ws St tgt fb ρ σ s (fun b => OwnW env b ∨ b ∈ wr) (fl, loc', σ')) (ws.length - i) R) (notedBy (model c.prog c.w) A env fun e s' => R (.error e) s') s₃ := by
        intro f₄ loc₄ σ₄ e₄ h₄
        refine hb env A s₃ F' ρ₃ loc₂ σ₂ f₄ loc₄ σ₄ _ _ hs hA H₃ I₃ e₄ fun z s₄ ρ₄ H₄ I₄ A₄ r₄ => ?_
        have A34 := A₃.trans H₂.len H₃.len A₄
        refine h₄ z s₄ ρ₄ H₄ I₄ ((A₁.trans H.len H₁.len A₂).trans H.len H₂.len (A34.mono fun b w => .inl w)) ?_ r₄
        refine T.frame _ _ _ _ _ _ _ st₂ (A34.grow H₂ I₂.ownF) fun b hb o e => A34.keep b o e (hfp₁ b hb) (hfp b hb).2.1
      split at e₁
      · rename_i l σ₄ e₄
        refine bodyGo _ _ _ e₄ fun z s₄ ρ₄ H₄ I₄ A₄ st₄ r₄ => ?_
        cases r₄
        exact ⟨ws.length - (i + 1), Nat.sub_succ_lt_self _ _ hlt, .mk hlt rfl st₄ H₄ I₄ A₄ e₁⟩
      · rename_i l σ₄ e₄
        refine bodyGo _ _ _ e₄ fun z s₄ ρ₄ H₄ I₄ A₄ st₄ r₄ => ?_
        cases r₄
        exact ⟨ws.length - (i + 1), Nat.sub_succ_lt_self _ _ hlt, .mk hlt rfl st₄ H₄ I₄ A₄ e₁⟩
      · rename_i l σ₄ e₄
        cases e₁
        refine bodyGo _ _ _ e₄ fun z s₄ ρ₄ H₄ I₄ A₄ st₄ r₄ => ?_
        cases r₄
        exact q .next s₄ ρ₄ s₄.heap s₄.toks H₄ I₄ A₄ .next fun _ _ _ e => e
      · rename_i w l σ₄ e₄
        cases e₁
        refine bodyGo _ _ _ e₄ fun z s₄ ρ₄ H₄ I₄ A₄ st₄ r₄ => ?_
        cases r₄ with
        | ret r => exact q (.ret _) s₄ ρ₄ s₄.heap s₄.toks H₄ I₄ A₄ (.ret r) fun _ _ _ e => e
      · cases e₁
    · cases e₁
  · have hin : i = ws.length := by omega
    subst hin
    simp only [List.drop_length, forL] at e₁
    cases e₁
    refine wpAny_mono (T.done F' s' ρ₁ (fun s₁ => R (.ok .next) s₁) _ st₁ fun h' tk kp => q .next s' ρ₁ h' tk H₁ I₁ A₁ .next kp) (fun r s₁ h => ?_) fun _ _ h => h
    cases r with
    | none => exact wpAny_execs_nil h
    | some x => exact h.elim
end Mine
namespace Mine
open PySem PySem.Spec PySem.Calls PyProof.Rows PySem.W

noncomputable def rngL (a b : Int) : List V := (List.range (b - a).toNat).map fun (i : Nat) => .int (a + (i : Int))
noncomputable def srcOf (σ : Hp) : V → Option (List V × Option Nat)
  | .lst vs => some (vs, none)
  | .tup vs => some (vs, none)
  | .ref n => match σ[n]? with
    | some (.lst vs) => some (vs, some n)
    | _ => none
  | .rng a b => if decide (-1000000 ≤ a) && decide (a ≤ 1000000) && decide (-1000000 ≤ b) && decide (b ≤ 1000000) then some (rngL a b, none) else none
  | .str s => if s.cps.all (· < 128) then some (s.cps.toList.map fun c => .str ⟨#[c]⟩, none) else none
  | _ => none
noncomputable def lend : Option Nat → Hp → Hp
  | none, σ => σ
  | some n, σ => σ.set n .dead
noncomputable def giveBack : Option Nat → List V → Hp → Hp
  | none, _, σ => σ
  | some n, ws, σ => σ.set n (.lst ws)

structure ItStart (c : Cx) (A : Around) (F : Addr → Prop) (ρ : List Addr) (σb : Hp) (target : Expr) (ws : List V) (s s₁ : Shared) (Ia : Addr) (wr fp : List Addr) (sf : Bool) (St : (Addr → Prop) → Nat → List Addr → Heap → Prop) : Prop where
  it : It c A Ia wr fp target ws sf St
  st : St (fun a => F a ∨ a ∈ wr) 0 ρ s₁.heap
  inv : HInv c.lay (fun a => F a ∨ a ∈ wr) c.h₀ ρ σb s₁.heap
  new : ∀ b ∈ wr, s.heap.get? b = none ∧ ∃ o, s₁.heap.get? b = some o
  fp : ∀ b ∈ fp, ¬ Live ρ σb b ∧ ¬ F b ∧ ∃ o, s₁.heap.get? b = some o
  keep : ∀ b o, s.heap.get? b = some o → s₁.heap.get? b = some o
  gens : s₁.gens = s.gens
  drawn : s₁.drawn = s.drawn
  os : s₁.os = s.os
  grow : Grow F ρ s.heap (fun a => F a ∨ a ∈ wr) ρ s₁.heap

theorem letOwned_skip {M : Model} {A : Around} {E : Value → Shared → Prop} {s : Shared} {target : Expr} {I : Addr} {x : Value} {o : Obj} {Q : Unit → Shared → Prop} (ho : s.heap.get? I = some o) (n : String) (hc : o.cls = .type n)
    (hn : (["enumerate", "zip", "dict_itemiterator", "dict_reverseitemiterator", "odict_iterator", "itertools.zip_longest", "itertools.pairwise"].contains n) = false) (q : Q () s) : wpAny M A (letOwnedTupleGo target (.ref I) x) Q E s := by
  have key : wpAny M A (do
      let (.ref r, .ref a) := ((.ref I : Value), x) | return
      let o ← load r
      match o.cls, o.data with
      | .type n, .fields vs =>
        if ["enumerate", "zip", "dict_itemiterator", "dict_reverseitemiterator", "odict_iterator", "itertools.zip_longest", "itertools.pairwise"].contains n && vs[0]? == some (rawInt a) then
          rule "for.unpacks-the-owned-tuple"
          updateField r 0 .none
      | _, _ => pure () : Sem Unit) Q E s := by
    cases x with
    | ref a =>
      refine wpAny_bind (wpAny_load ho ?_)
      rw [hc]
      cases o.data <;> first
        | exact wpAny_pure q
        | (simp only [hn, Bool.false_and, Bool.false_eq_true, if_false]; exact wpAny_pure q)
    | _ => exact wpAny_pure q
  unfold letOwnedTupleGo
  cases target <;> first | exact wpAny_pure q | exact key

section
variable {lay : Addr → List Str} {F : Addr → Prop} {h₀ : Heap} {ρ : List Addr} {σ : Hp} {h : Heap}
theorem lend_ok (H : HInv lay F h₀ ρ σ h) (b : Option Nat) : HInv lay F h₀ ρ (lend b σ) h := by
  cases b with
  | none => exact H
  | some n =>
    refine ⟨by simp [lend, H.len], H.nodup, H.own, H.fr, fun m o a e q => ?_, H.base⟩
    simp only [lend] at e
    by_cases mn : m = n
    · subst mn
      by_cases hl : m < σ.length
      · rw [List.getElem?_set_self hl] at e; cases e; trivial
      · rw [List.getElem?_eq_none (by simpa using Nat.le_of_not_lt hl)] at e; cases e
    · rw [List.getElem?_set_ne (Ne.symm mn)] at e
      exact H.objs m o a e q
theorem lend_live {b : Option Nat} {n : Nat} (al : alive (lend b σ) n) : alive σ n := by
  cases b with
  | none => exact al
  | some m =>
    obtain ⟨o, e, d⟩ := al
    simp only [lend] at e
    by_cases mn : n = m
    · subst mn
      by_cases hl : n < σ.length
      · rw [List.getElem?_set_self hl] at e; cases e; exact absurd rfl d
      · rw [List.getElem?_eq_none (by simpa using Nat.le_of_not_lt hl)] at e; cases e
    · rw [List.getElem?_set_ne (Ne.symm mn)] at e
      exact ⟨o, e, d⟩
theorem lend_dead {n : Nat} (al : alive (lend (some n) σ) n) : False := by
  obtain ⟨o, e, d⟩ := al
  simp only [lend] at e
  by_cases hl : n < σ.length
  · rw [List.getElem?_set_self hl] at e; cases e; exact absurd rfl d
  · rw [List.getElem?_eq_none (by simpa using Nat.le_of_not_lt hl)] at e; cases e
end

theorem itStart_of {c : Cx} {A : Around} {F : Addr → Prop} {ρ : List Addr} {σ : Hp} {b : Option Nat} {target : Expr} {ws : List V} {s : Shared} {fp : List Addr} {sf : Bool} {St : (Addr → Prop) → Nat → List Addr → Heap → Prop} (H : HInv c.lay F c.h₀ ρ σ s.heap) (o : Obj) (hf : o.isFreed = false)
    (hit : It c A s.heap.objs.size [s.heap.objs.size] (s.heap.objs.size :: fp) target ws sf St)
    (hst : Grow F ρ s.heap (fun a => F a ∨ a ∈ [s.heap.objs.size]) ρ (s.heap.push o) → St (fun a => F a ∨ a ∈ [s.heap.objs.size]) 0 ρ (s.heap.push o))
    (hfp : ∀ a ∈ fp, ¬ Live ρ (lend b σ) a ∧ ¬ F a ∧ ∃ o, s.heap.get? a = some o) : ItStart c A F ρ (lend b σ) target ws s { s with heap := s.heap.push o } s.heap.objs.size [s.heap.objs.size] (s.heap.objs.size :: fp) sf St := by
  have hk := push_keep s.heap o
  have hn := get_size_none s.heap
  have he : ∃ o', (s.heap.push o).get? s.heap.objs.size = some o' := ⟨o, Heap.get?_push_size _ hf⟩
  have fr := H.freeNew hn
  obtain ⟨H', G⟩ := (lend_ok H b).moreF (F' := fun a => F a ∨ a ∈ [s.heap.objs.size]) (fun a f => .inl f) hk fun a f => f.imp id fun m => by rw [List.mem_singleton.mp m]; exact ⟨hn, he⟩
  refine ⟨hit, hst G, H', fun a ha => by rw [List.mem_singleton.mp ha]; exact ⟨hn, he⟩, fun a ha => ?_, hk, rfl, rfl, rfl, G⟩
  rcases List.mem_cons.mp ha with rfl | ha
  · exact ⟨fun l => fr.2 l.mem, fr.1, he⟩
  · obtain ⟨x, y, o', e⟩ := hfp a ha
    exact ⟨x, y, o', hk _ _ e⟩

section
variable {c : Cx} {k : Nat} {target : Expr}

theorem item_go {F' : Addr → Prop} {A : Around} {I : Addr} {s : Shared} {ρ : List Addr} {σ : Hp} {h' : Heap} {o' : Obj} (H : HInv c.lay F' c.h₀ ρ σ s.heap) (hI : F' I) (hs : Heap.SameBut I s.heap h') (he : h'.get? I = some o') :
    HInv c.lay F' c.h₀ ρ σ h' ∧ (∀ b o, b ∉ [I] → s.heap.get? b = some o → h'.get? b = some o) ∧ (∀ b o, s.heap.get? b = some o → ∃ o', h'.get? b = some o') ∧ Grow F' ρ s.heap F' ρ h' := by
  have kp : ∀ b o, b ∉ [I] → s.heap.get? b = some o → h'.get? b = some o := fun b o nb e => (hs.2 b (fun q => nb (by rw [q]; exact List.mem_singleton.mpr rfl))).trans e
  have th : ∀ b o, s.heap.get? b = some o → ∃ o', h'.get? b = some o' := fun b o e => by
    by_cases q : b = I
    · exact ⟨o', q ▸ he⟩
    · exact ⟨o, (hs.2 b q).trans e⟩
  have kF : ∀ b o, ¬ F' b → s.heap.get? b = some o → h'.get? b = some o := fun b o nf e => (hs.2 b (fun q => nf (q ▸ hI))).trans e
  exact ⟨H.sameF kF fun b o _ e => th b o e, kp, th, ⟨fun b o fr e => kF b o fr.1 e, fun _ _ fr _ => fr, fun _ _ e => e⟩⟩

theorem it_list {A : Around} (hh : A.handled = none) (I ax : Addr) (hne : ax ≠ I) (items : Array Value) (ws : List V) :
    It c A I [I] [I, ax] target ws true (fun F' i ρ h => h.IsListIter I ax i ∧ h.PlainList ax items ∧ VRs c.lay F' ρ h ws items.toList) where
  sub := fun b hb => by rw [List.mem_singleton.mp hb]; exact List.mem_cons_self
  frame := fun _ _ i ρ h ρ' h' ⟨⟨o, ho, r⟩, ⟨n, hl⟩, v⟩ G hk => ⟨⟨o, hk I List.mem_cons_self o ho, r⟩, ⟨n, hk ax (List.mem_cons_of_mem _ (List.mem_singleton.mpr rfl)) _ hl⟩, v.grow G⟩
  item := fun F' hw i s ρ σ v Q E hv st H q => by
    have hI : F' I := hw I (List.mem_singleton.mpr rfl)
    obtain ⟨x, hx, rx⟩ := st.2.2.get i hv
    refine wpAny_pyNext_list_item st.1 st.2.1.isList (x := x) (by rw [← Array.getElem?_toList]; exact hx) fun h' hit' hs' => ?_
    obtain ⟨o', ho', hc', hd'⟩ := id hit'
    obtain ⟨H', kp, th, G⟩ := item_go (A := A) H hI hs' ho'
    refine letOwned_skip (s := { s with heap := h' }) ho' "list_iterator" hc' rfl ?_
    exact q x h' s.toks ⟨hit', st.2.1.extBut hs'.extBut hne, st.2.2.grow G⟩ H' kp th (rx.grow G)
  done := fun F' s ρ Q E st q => by
    have hn : items[ws.length]? = none := by
      rw [← Array.getElem?_toList, List.getElem?_eq_none]; rw [st.2.2.length]; exact Nat.le_refl _
    exact wpAny_pyNext_list_end hh st.1 st.2.1.isList hn fun h' he' => q h' s.toks fun b o nb e => he' b o (fun z => nb (by rw [z]; exact List.mem_singleton.mpr rfl)) e
  self := fun _ _ _ _ _ _ st q => wpAny_pyIter_listiter st.1 q

theorem it_tuple {A : Around} (hh : A.handled = none) (I ax : Addr) (hne : ax ≠ I) (items : Array Value) (ws : List V) :
    It c A I [I] [I, ax] target ws true (fun F' i ρ h => h.IsTupleIter I ax i ∧ h.IsTuple ax items ∧ VRs c.lay F' ρ h ws items.toList) where
  sub := fun b hb => by rw [List.mem_singleton.mp hb]; exact List.mem_cons_self
  frame := fun _ _ i ρ h ρ' h' ⟨⟨o, ho, r⟩, ⟨n, hl, r'⟩, v⟩ G hk => ⟨⟨o, hk I List.mem_cons_self o ho, r⟩, ⟨n, hk ax (List.mem_cons_of_mem _ (List.mem_singleton.mpr rfl)) _ hl, r'⟩, v.grow G⟩
  item := fun F' hw i s ρ σ v Q E hv st H q => by
    have hI : F' I := hw I (List.mem_singleton.mpr rfl)
    obtain ⟨x, hx, rx⟩ := st.2.2.get i hv
    refine wpAny_pyNext_tuple_item st.1 st.2.1 (x := x) (by rw [← Array.getElem?_toList]; exact hx) fun h' hit' hs' => ?_
    obtain ⟨o', ho', hc', hd'⟩ := id hit'
    obtain ⟨H', kp, th, G⟩ := item_go (A := A) H hI hs' ho'
    refine letOwned_skip (s := { s with heap := h' }) ho' "tuple_iterator" hc' rfl ?_
    exact q x h' s.toks ⟨hit', st.2.1.extBut hs'.extBut hne, st.2.2.grow G⟩ H' kp th (rx.grow G)
  done := fun F' s ρ Q E st q => by
    have hn : items[ws.length]? = none := by
      rw [← Array.getElem?_toList, List.getElem?_eq_none]; rw [st.2.2.length]; exact Nat.le_refl _
    exact wpAny_pyNext_tuple_end hh st.1 st.2.1 hn fun h' he' => q h' s.toks fun b o nb e => he' b o (fun z => nb (by rw [z]; exact List.mem_singleton.mpr rfl)) e
  self := fun _ _ _ _ _ _ st q => wpAny_pyIter_tupleiter st.1 q

theorem rngL_get {a b : Int} {i : Nat} {v : V} (h : (rngL a b)[i]? = some v) : v = .int (a + i) ∧ i < (b - a).toNat := by
  unfold rngL at h
  rw [List.getElem?_map] at h
  obtain ⟨j, hj, rfl⟩ := Option.map_eq_some_iff.mp h
  obtain ⟨hl, he⟩ := List.getElem?_eq_some_iff.mp hj
  rw [List.getElem_range] at he
  subst he
  exact ⟨rfl, by simpa using hl⟩

theorem it_range {A : Around} (hh : A.handled = none) (I : Addr) (a b : Int) :
    It c A I [I] [I] target (rngL a b) true (fun _ i _ h => IsRangeIter h I (a + i) (((b - a).toNat : Int) - i) 1) where
  sub := fun b hb => hb
  frame := fun _ _ i ρ h ρ' h' st G hk => hk I List.mem_cons_self _ st
  item := fun F' hw i s ρ σ v Q E hv st H q => by
    have hI : F' I := hw I (List.mem_singleton.mpr rfl)
    obtain ⟨rfl, hi⟩ := rngL_get hv
    refine wpAny_pyNext_range_item st (by omega) fun h' hit' hs' => ?_
    obtain ⟨H', kp, th, G⟩ := item_go (A := A) H hI hs' hit'
    refine letOwned_skip (s := { s with heap := h', toks := s.toks + 1 }) hit' "range_iterator" rfl rfl ?_
    refine q _ h' (s.toks + 1) ?_ H' kp th .int
    have e1 : a + ((i + 1 : Nat) : Int) = a + (i : Int) + 1 := by push_cast; omega
    have e2 : (((b - a).toNat : Nat) : Int) - ((i + 1 : Nat) : Int) = ((b - a).toNat : Int) - (i : Int) - 1 := by push_cast; omega
    rw [e1, e2]; exact hit'
  done := fun F' s ρ Q E st q => by
    have hl : (rngL a b).length = (b - a).toNat := by simp [rngL]
    rw [hl] at st
    exact wpAny_pyNext_range_end hh st (by omega) fun h' he' => q h' s.toks fun b o nb e => he' b o (fun z => nb (by rw [z]; exact List.mem_singleton.mpr rfl)) e
  self := fun _ _ _ _ _ _ st q => wpAny_pyIter_rangeiter st q

theorem it_str {A : Around} (hh : A.handled = none) (I : Addr) (x : Str) (t : Tok) :
    It c A I [I] [I] target (x.cps.toList.map fun c => .str ⟨#[c]⟩) false (fun _ i _ h => h.IsStrIter I "str_ascii_iterator" x t i) where
  sub := fun b hb => hb
  frame := fun _ _ i ρ h ρ' h' ⟨o, ho, r⟩ G hk => ⟨o, hk I List.mem_cons_self _ ho, r⟩
  item := fun F' hw i s ρ σ v Q E hv st H q => by
    have hI : F' I := hw I (List.mem_singleton.mpr rfl)
    rw [List.getElem?_map] at hv
    obtain ⟨ch, hch, rfl⟩ := Option.map_eq_some_iff.mp hv
    refine wpAny_pyNext_ascii_item st (c := ch) (by rw [← Array.getElem?_toList]; exact hch) fun h' hit' hs' => ?_
    obtain ⟨o', ho', hc', hd'⟩ := id hit'
    obtain ⟨H', kp, th, G⟩ := item_go (A := A) H hI hs' ho'
    refine letOwned_skip (s := { s with heap := h', toks := s.toks + 1 }) ho' "str_ascii_iterator" hc' rfl ?_
    exact q _ h' (s.toks + 1) hit' H' kp th .str
  done := fun F' s ρ Q E st q => by
    have hl : (x.cps.toList.map fun c => V.str ⟨#[c]⟩).length = x.cps.size := by simp
    rw [hl] at st
    exact wpAny_pyNext_ascii_end hh st (by simp) fun h' he' => q h' s.toks fun b o nb e => he' b o (fun z => nb (by rw [z]; exact List.mem_singleton.mpr rfl)) e
  self := fun h => nomatch h

noncomputable def V.isS : V → Bool
  | .str _ => true
  | _ => false
theorem src_ok {A : Around} {s : Shared} {F : Addr → Prop} {ρ : List Addr} {σ : Hp} {v : V} {x : Value} {ws : List V} {b : Option Nat} {Q E : Value → Shared → Prop} (hA : AOk c k A) (H : HInv c.lay F c.h₀ ρ σ s.heap) (r : VR c.lay F ρ s.heap v x) (e : srcOf σ v = some (ws, b))
    (q : ∀ Ia s₁ wr fp sf St, ItStart c A F ρ (lend b σ) target ws s s₁ Ia wr fp sf St → (v.isS = false → sf = true) → (∀ n, b = some n → ∃ a items, ρ[n]? = some a ∧ s.heap.PlainList a items ∧ VRs c.lay F ρ s.heap ws items.toList ∧ a ∈ fp) → Q (.ref Ia) s₁) : wpAny (model c.prog c.w) A (pyIter x) Q E s := by
  have hh := hA.2.1
  cases r with
  | @lst _ a items fa hl rs =>
    cases e
    obtain ⟨n, hl'⟩ := id hl
    have ne : a ≠ s.heap.objs.size := Nat.ne_of_lt (Heap.lt_size hl')
    refine wpAny_pyIter_list hl.isList (q _ _ _ _ _ _ (itStart_of H _ rfl (it_list hh _ a ne items ws) (fun G => ⟨⟨_, Heap.get?_push_size _ rfl, rfl, rfl⟩, ⟨n, push_keep _ _ _ _ hl'⟩, rs.grow G⟩) fun b hb => ?_) (fun _ => rfl) (fun _ z => nomatch z))
    rw [List.mem_singleton.mp hb]; exact ⟨fun l => fa.2 l.mem, fa.1, _, hl'⟩
  | @tup _ a items fa hl rs =>
    cases e
    obtain ⟨o, hl', r'⟩ := id hl
    have ne : a ≠ s.heap.objs.size := Nat.ne_of_lt (Heap.lt_size hl')
    refine wpAny_pyIter_tuple hl (q _ _ _ _ _ _ (itStart_of H _ rfl (it_tuple hh _ a ne items ws) (fun G => ⟨⟨_, Heap.get?_push_size _ rfl, rfl, rfl⟩, ⟨o, push_keep _ _ _ _ hl', r'⟩, rs.grow G⟩) fun b hb => ?_) (fun _ => rfl) (fun _ z => nomatch z))
    rw [List.mem_singleton.mp hb]; exact ⟨fun l => fa.2 l.mem, fa.1, _, hl'⟩
  | @rng lo hi a t u w fa hr =>
    simp only [srcOf] at e
    split at e
    · rename_i hb
      simp only [Bool.and_eq_true, decide_eq_true_eq] at hb
      cases e
      refine wpAny_pyIter_range hr (small_one (by omega) (by omega) (by omega) (by omega)) (q _ _ _ _ _ _ (itStart_of H _ rfl (it_range hh _ lo hi) (fun G => ?_) fun b hb => nomatch hb) (fun _ => rfl) (fun _ z => nomatch z))
      have e0 : Builtin.Range.rangeSize lo hi 1 = ((hi - lo).toNat : Int) - ((0 : Nat) : Int) := by rw [rangeSize_one]; split <;> omega
      rw [e0]
      have e1 : lo + ((0 : Nat) : Int) = lo := by omega
      show (s.heap.push _).get? _ = some { cls := .type "range_iterator", dict := none, data := .fields #[rawInt (lo + ((0 : Nat) : Int)), _, _], slots := #[] }
      rw [e1]
      exact Heap.get?_push_size _ rfl
    · cases e
  | @str x t =>
    simp only [srcOf] at e
    split at e
    · rename_i ha
      cases e
      exact wpAny_pyIter_ascii ha (q _ _ _ _ _ _ (itStart_of H _ rfl (it_str hh _ x t) (fun G => ⟨_, Heap.get?_push_size _ rfl, rfl, rfl⟩) fun b hb => nomatch hb) (fun h => nomatch h) (fun _ z => nomatch z))
    · cases e
  | @ref a n hn =>
    simp only [srcOf] at e
    split at e
    · rename_i vs es
      cases e
      obtain ⟨items, hl, rs⟩ := H.objs _ _ _ es hn
      obtain ⟨m, hl'⟩ := id hl
      have ne : a ≠ s.heap.objs.size := Nat.ne_of_lt (Heap.lt_size hl')
      refine wpAny_pyIter_list hl.isList (q _ _ _ _ _ _ (itStart_of (b := some n) H _ rfl (it_list hh _ a ne items ws) (fun G => ⟨⟨_, Heap.get?_push_size _ rfl, rfl, rfl⟩, ⟨m, push_keep _ _ _ _ hl'⟩, rs.grow G⟩) fun b hb => ?_) (fun _ => rfl) (fun n' z => ?_))
      · rw [List.mem_singleton.mp hb]
        refine ⟨fun ⟨j, ej, al⟩ => ?_, (H.own a (List.mem_of_getElem? hn)).1, _, hl'⟩
        have := nodup_get H.nodup ej hn
        subst this
        exact lend_dead al
      · cases z
        exact ⟨a, items, hn, hl, rs, List.mem_cons_of_mem _ (List.mem_singleton.mpr rfl)⟩
    · cases e
  | _ => cases e
end
end Mine
namespace Mine
open PySem PySem.Spec PySem.Calls PyProof.Rows PySem.W

noncomputable def forS (tgt : SA) (fb : SS) (fi : SE) : SS := fun loc σ => match fi loc σ with
  | some (v, σ₁) => (match srcOf σ₁ v with
    | some (ws, b) => (match forL tgt fb ws loc (lend b σ₁) with
      | some (fl, loc', σ₂) => some (fl, loc', giveBack b ws σ₂)
      | none => none)
    | none => none)
  | none => none

theorem FrI.dropWr {lay : Addr → List Str} {vars : List (Nat × Str)} {F F' : Addr → Prop} {ρ : List Addr} {env : Env} {loc : Loc} {h h' : Heap} {wr : List Addr} (I : FrI lay vars F' ρ env loc h) (hO : ∀ b, OwnW env b → F b ∧ b ∉ wr) (hk : ∀ b o, b ∉ wr → h.get? b = some o → h'.get? b = some o) (G : Grow F' ρ h F ρ h') : FrI lay vars F ρ env loc h' := by
  have kn : ∀ m, h.Ns env.locals m → h'.Ns env.locals m := fun m ⟨o, es, ep, e, r⟩ => ⟨o, es, ep, hk _ _ (hO _ (.inl rfl)).2 e, r⟩
  have kc : ∀ y c v, env.cells.lookup y = some c → h.IsCell c v → h'.IsCell c v := fun y c v hy ⟨o, e, r⟩ => ⟨o, hk _ _ (hO _ (.inr ⟨y, hy⟩)).2 e, r⟩
  refine ⟨I.vok, I.kind, I.glob, I.bi, let ⟨m, q⟩ := I.ns; ⟨m, kn m q⟩, (hO _ (.inl rfl)).1, fun y c e => let ⟨_, b, v, d⟩ := I.cellsF y c e; ⟨(hO _ (.inr ⟨y, e⟩)).1, b, v, kc y c v e d⟩, I.cellsNe, I.kinds, fun i y v hi hl => ?_⟩
  obtain ⟨z, hz, hv⟩ := I.vals i y v hi hl
  refine ⟨z, ?_, hv.grow G⟩
  rcases hz with ⟨k, m, a, b⟩ | ⟨k, c, a, b⟩
  · exact .inl ⟨k, m, kn m a, b⟩
  · exact .inr ⟨k, c, a, kc y c _ a b⟩

theorem loop_end {c : Cx} {A : Around} {F : Addr → Prop} {ρ : List Addr} {σ : Hp} {target : Expr} {ws : List V} {s s₁ s₂ : Shared} {Ia : Addr} {wr fp : List Addr} {sf : Bool} {St : (Addr → Prop) → Nat → List Addr → Heap → Prop} {b : Option Nat} {ρ' : List Addr} {σ₂ : Hp} {h' : Heap} {tk : Nat} {W : Addr → Prop}
    (hFw : ∀ a, F a → a ∉ wr) (S : ItStart c A F ρ (lend b σ) target ws s s₁ Ia wr fp sf St) (hb : ∀ n, b = some n → ∃ a items, ρ[n]? = some a ∧ s.heap.PlainList a items ∧ VRs c.lay (fun a => F a ∨ a ∈ wr) ρ s₁.heap ws items.toList ∧ a ∈ fp) (ha : ∀ n, b = some n → alive σ n)
    (H₂ : HInv c.lay (fun a => F a ∨ a ∈ wr) c.h₀ ρ' σ₂ s₂.heap) (A₂ : Adv ρ (lend b σ) s₁ ρ' σ₂ s₂ (fun b => W b ∨ b ∈ wr)) (hW : ∀ b, W b → F b) (hk : ∀ b o, b ∉ wr → s₂.heap.get? b = some o → h'.get? b = some o) :
    HInv c.lay F c.h₀ ρ' (giveBack b ws σ₂) h' ∧ Adv ρ σ s ρ' (giveBack b ws σ₂) { s₂ with heap := h', toks := tk } W ∧ Grow (fun a => F a ∨ a ∈ wr) ρ' s₂.heap F ρ' h' := by
  have nwr : ∀ a o, s.heap.get? a = some o → a ∉ wr := fun a o e m => by rw [(S.new a m).1] at e; cases e
  obtain ⟨H₃, G₃⟩ := H₂.dropWr (F := F) (wr := wr) (h' := h') (fun a f => ⟨.inl f, hFw a f⟩) (fun b m => .inr m) hk
  have hWw : ∀ b, (W b ∨ b ∈ wr) → F b ∨ b ∈ wr := fun b q => q.imp (hW b) id
  have G₂ : Grow (fun a => F a ∨ a ∈ wr) ρ s₁.heap (fun a => F a ∨ a ∈ wr) ρ' s₂.heap := A₂.grow S.inv hWw
  have kp : ∀ a o, s.heap.get? a = some o → ¬ Live ρ (lend b σ) a → ¬ W a → h'.get? a = some o := fun a o e nl nw => hk a o (nwr a o e) (A₂.keep a o (S.keep a o e) nl fun q => q.elim nw (nwr a o e))
  have th : ∀ a o, s.heap.get? a = some o → ∃ o', h'.get? a = some o' := fun a o e => by
    obtain ⟨o', e'⟩ := A₂.there a o (S.keep a o e)
    exact ⟨o', hk a o' (nwr a o e) e'⟩
  obtain ⟨tl, rfl, ht⟩ := A₂.tl
  have tl' : ∀ a ∈ tl, s.heap.get? a = none := fun a m => by
    cases e : s.heap.get? a with
    | none => rfl
    | some o => have z := S.keep a o e; rw [ht a m] at z; cases z
  have ll : (lend b σ).length = σ.length := by cases b <;> simp [lend]
  refine ⟨?_, ⟨⟨tl, rfl, tl'⟩, fun n hn al => ?_, fun a o e nl nw => kp a o e (fun ⟨j, ej, al⟩ => nl ⟨j, ej, lend_live al⟩) nw, th, A₂.gens.trans S.gens, A₂.drawn.trans S.drawn, A₂.os.trans S.os⟩, G₃⟩
  · cases b with
    | none => exact H₃
    | some n =>
      obtain ⟨a, items, hn, ⟨m, hl⟩, rs, hfp⟩ := hb n rfl
      obtain ⟨nl, nF, _⟩ := S.fp a hfp
      have hl' : h'.get? a = some _ := kp a _ hl nl (fun w => nF (hW a w))
      have hn' : (ρ ++ tl)[n]? = some a := by
        obtain ⟨q, _⟩ := List.getElem?_eq_some_iff.mp hn
        rw [List.getElem?_append_left q]; exact hn
      exact H₃.upd hn' (.refl ..) ⟨_, hl'⟩ ⟨items, ⟨m, hl'⟩, (rs.grow G₂).grow G₃⟩
  · cases b with
    | none => exact lend_live (A₂.live n (ll ▸ hn) al)
    | some m =>
      by_cases nm : n = m
      · subst nm; exact ha n rfl
      · obtain ⟨o, e, d⟩ := al
        simp only [giveBack] at e
        rw [List.getElem?_set_ne (Ne.symm nm)] at e
        exact lend_live (A₂.live n (ll ▸ hn) ⟨o, e, d⟩)

theorem srcOf_alive {σ : Hp} {v : V} {ws : List V} {b : Option Nat} (e : srcOf σ v = some (ws, b)) : ∀ n, b = some n → alive σ n := by
  intro n hb
  subst hb
  cases v with
  | ref m =>
    simp only [srcOf] at e
    split at e
    · rename_i vs es; cases e; exact ⟨_, es, by simp⟩
    · cases e
  | rng a b => simp only [srcOf] at e; split at e <;> cases e
  | str s => simp only [srcOf] at e; split at e <;> cases e
  | _ => cases e

section
variable {c : Cx} {k : Nat} {vars : List (Nat × Str)} {sc : Scope}
theorem den_for {target iter : Expr} {body : List Stmt} {pos : Pos} {tgt : SA} {fb : SS} {fi : SE} (hi : DenE c k vars sc iter fi) (ht : DenA c k vars sc target tgt) (hb : DenSs c k vars sc body fb) (hfs : ∀ (env : Env) (x : Value), foldedSetIterable iter env x = pure x) :
    DenS c k vars sc (.For target iter body [] pos) (forS tgt fb fi) := by
  intro env A s F ρ loc σ fl loc' σ' Q E hs hA H I e q
  unfold forS at e
  split at e
  · rename_i v σ₁ e1
    split at e
    · rename_i ws b e2
      split at e
      · rename_i fl₁ loc₁ σ₂ e3
        cases e
        refine wpAny_For (hi env A s F ρ loc σ v σ₁ _ _ hs.1 hA H I e1 fun x s₁ ρ₁ H₁ A₁ r₁ => ?_) (hfs env)
        have I₁ := I.adv H A₁
        refine src_ok (target := target) hA H₁ r₁ e2 fun Ia s₂ wr fp sf St S _ hbor => ?_
        have nwr : ∀ a o, s₁.heap.get? a = some o → a ∉ wr := fun a o e m => by rw [(S.new a m).1] at e; cases e
        have hO : ∀ a, OwnW env a → F a ∧ a ∉ wr := fun a w => ⟨I₁.ownF a w, by obtain ⟨_, o, e⟩ := H₁.fr a (I₁.ownF a w); exact nwr a o e⟩
        have I₂ : FrI c.lay vars (fun a => F a ∨ a ∈ wr) ρ₁ env loc s₂.heap := I₁.moreF (fun a f => .inl f) S.keep S.grow
        refine for_go S.it (fun a m => .inr m) ht hb hs hA S.inv I₂ S.st (fun a m => ⟨(S.fp a m).1, fun w => (S.fp a m).2.1 (hO a w).1, (S.fp a m).2.2⟩) e3 fun z s₃ ρ₃ h' tk H₃ I₃ A₃ r₃ hk => ?_
        obtain ⟨H₄, A₄, G₄⟩ := loop_end (tk := tk) (fun a f => by obtain ⟨_, o, e⟩ := H₁.fr a f; exact nwr a o e) S (fun n h => let ⟨a, it, x1, x2, x3, x4⟩ := hbor n h; ⟨a, it, x1, x2, x3.grow S.grow, x4⟩) (srcOf_alive e2) H₃ A₃ I₁.ownF hk
        refine q z _ ρ₃ H₄ (I₃.dropWr hO hk G₄) (A₁.ofE.trans H.len H₁.len A₄) ?_
        cases r₃ with
        | next => exact .next
        | brk => exact .brk
        | cont => exact .cont
        | ret r => exact .ret (r.grow G₄)
      · cases e
    · cases e
  · cases e

noncomputable def tupA : List SA → List V → Loc → Hp → Option (Loc × Hp)
  | [], [], loc, σ => some (loc, σ)
  | t :: ts, v :: vs, loc, σ => (match t v loc σ with
    | some (loc₁, σ₁) => tupA ts vs loc₁ σ₁
    | none => none)
  | _, _, _, _ => none
noncomputable def tupT (ts : List SA) : SA := fun v loc σ => match v with
  | .tup vs => tupA ts vs loc σ
  | _ => none
noncomputable def DenAs (W : Env → Addr → Prop) (c : Cx) (k : Nat) (vars : List (Nat × Str)) (sc : Scope) (es : List Expr) (ts : List SA) : Prop :=
  ∀ (env : Env) (A : Around) (s : Shared) (F : Addr → Prop) (ρ : List Addr) (loc : Loc) (σ : Hp) (vs : List V) (xs : List Value) (loc' : Loc) (σ' : Hp) (Q : Unit → Shared → Prop) (E : Value → Shared → Prop),
    env.scope = sc → AOk c k A → HInv c.lay F c.h₀ ρ σ s.heap → FrI c.lay vars F ρ env loc s.heap → VRs c.lay F ρ s.heap vs xs → tupA ts vs loc σ = some (loc', σ') →
    (∀ s' ρ', HInv c.lay F c.h₀ ρ' σ' s'.heap → FrI c.lay vars F ρ' env loc' s'.heap → Adv ρ σ s ρ' σ' s' (W env) → Q () s') →
    wpAny (model c.prog c.w) A (assignInOrder ((assignEach es env).map (·.2)) xs) Q E s
variable {W : Env → Addr → Prop}
theorem den_asNil : DenAs W c k vars sc [] [] := by
  intro env A s F ρ loc σ vs xs loc' σ' Q E hs hA H I r e q
  cases r with
  | nil => cases e; exact wpAny_pure (q s ρ H I .refl)
  | cons => cases e
theorem den_asCons {t : Expr} {rest : List Expr} {f : SA} {fs : List SA} (hW : ∀ env b, W env b → OwnW env b) (ht : DenAW W c k vars sc t f) (hr : DenAs W c k vars sc rest fs) (hst : starFree [t] = true) : DenAs W c k vars sc (t :: rest) (f :: fs) := by
  intro env A s F ρ loc σ vs xs loc' σ' Q E hs hA H I r e q
  have he : assignEach (t :: rest) env = (false, assign t env) :: assignEach rest env := by cases t <;> first | rfl | cases hst
  rw [he, List.map_cons]
  cases r with
  | nil => cases e
  | cons r rs =>
    simp only [tupA] at e
    split at e
    · rename_i loc₁ σ₁ e1
      refine wpAny_bind (wpAny_holding (ht env A s F ρ loc σ _ _ loc₁ σ₁ _ _ hs hA H I r e1 fun s₁ ρ₁ H₁ I₁ A₁ => ?_))
      exact hr env A s₁ F ρ₁ loc₁ σ₁ _ _ loc' σ' _ _ hs hA H₁ I₁ (rs.grow (A₁.grow H fun b w => I.ownF b (hW env b w))) e fun s₂ ρ₂ H₂ I₂ A₂ => q s₂ ρ₂ H₂ I₂ (A₁.trans H.len H₁.len A₂)
    · cases e
theorem tupA_len : ∀ {ts : List SA} {vs : List V} {loc : Loc} {σ : Hp} {r : Loc × Hp}, tupA ts vs loc σ = some r → ts.length = vs.length
  | [], [], _, _, _, _ => rfl
  | [], _ :: _, _, _, _, e => by cases e
  | _ :: _, [], _, _, _, e => by cases e
  | t :: ts, v :: vs, loc, σ, r, e => by
    simp only [tupA] at e
    split at e
    · simp [tupA_len e]
    · cases e
theorem assignEach_len {es : List Expr} {env : Env} : (assignEach es env).length = es.length := by
  induction es with
  | nil => rfl
  | cons e r ih => cases e <;> simp [assignEach, ih]
theorem assignEach_free {es : List Expr} {env : Env} (h : starFree es = true) : (assignEach es env).findIdx? (·.1) = none := by
  induction es with
  | nil => rfl
  | cons e r ih =>
    have hr : starFree r = true := by cases e <;> first | exact h | cases h
    cases e <;> first
      | (rw [show assignEach (_ :: r) env = (false, _) :: assignEach r env from rfl, List.findIdx?_cons, ih hr]; rfl)
      | cases h
theorem den_tupT {es : List Expr} {n : Nat} {pos : Pos} {ts : List SA} (h : DenAs W c k vars sc es ts) (hst : starFree es = true) (hl : es.length = ts.length) : DenAW W c k vars sc (.Tuple es n pos) (tupT ts) := by
  intro env A s F ρ loc σ v x loc' σ' Q E hs hA H I r e q
  unfold tupT at e
  split at e
  · rename_i vs
    cases r with
    | @tup _ a items fa ht rs =>
      have l1 := tupA_len e
      have l2 := rs.length
      have l3 : items.toList.length = items.size := by simp
      refine wpAny_assign_Tuple hA.2.1 ht (by rw [assignEach_len]; omega) (assignEach_free hst) fun h' he => ?_
      have hk : ∀ b o, s.heap.get? b = some o → h'.get? b = some o := fun b o e => he b o (Nat.ne_of_lt (Heap.lt_size e)) e
      have A₁ : Adv ρ σ s ρ σ { s with heap := h' } NoW := Adv.ext hk
      have H₁ : HInv c.lay F c.h₀ ρ σ h' := H.ext hk
      exact h env A _ F ρ loc σ vs items.toList loc' σ' _ _ hs hA H₁ (I.adv (s' := { s with heap := h' }) H A₁) (rs.adv (s' := { s with heap := h' }) H A₁) e fun s₂ ρ₂ H₂ I₂ A₂ => q s₂ ρ₂ H₂ I₂ (A₁.ofE.trans H.len H₁.len A₂)
  · cases e
end
end Mine
namespace Mine
open PySem PySem.Spec PySem.Calls PyProof.Rows PySem.W

noncomputable def cmpL (tgt : SA) (test : ST) (elt : SE) : List V → Loc → Hp → Option (List V × Hp)
  | [], _, σ => some ([], σ)
  | v :: vs, loc, σ => match tgt v loc σ with
    | some (loc₁, σ₁) => (match test loc₁ σ₁ with
      | some (true, σ₂) => (match elt loc₁ σ₂ with
        | some (w, σ₃) => (match cmpL tgt test elt vs loc₁ σ₃ with
          | some (ws, σ₄) => some (w :: ws, σ₄)
          | none => none)
        | none => none)
      | some (false, σ₂) => cmpL tgt test elt vs loc₁ σ₂
      | none => none)
    | none => none
noncomputable def clr (is : List Nat) (loc : Loc) : Loc := is.foldl (fun l i => l.set i none) loc
noncomputable def V.notS (v : V) : Bool := !v.isS
noncomputable def cmpE (is : List Nat) (tgt : SA) (test : ST) (elt : SE) (fi : SE) : SE := fun loc σ => match fi loc σ with
  | some (v, σ₁) => if v.notS then (match srcOf σ₁ v with
    | some (ws, b) => if Nat.ble ws.length 1000000 then (match cmpL tgt test elt ws (clr is loc) (lend b σ₁) with
      | some (rs, σ₂) => some (.lst rs, giveBack b ws σ₂)
      | none => none) else none
    | none => none) else none
  | none => none

noncomputable def DenIfs (c : Cx) (k : Nat) (vars : List (Nat × Str)) (sc : Scope) (ifs : List Expr) (f : ST) : Prop :=
  ∀ (env : Env) (A : Around) (s : Shared) (F : Addr → Prop) (ρ : List Addr) (loc : Loc) (σ : Hp) (b : Bool) (σ' : Hp) (Q : Bool → Shared → Prop) (E : Value → Shared → Prop),
    env.scope = sc → AOk c k A → HInv c.lay F c.h₀ ρ σ s.heap → FrI c.lay vars F ρ env loc s.heap → f loc σ = some (b, σ') →
    (∀ s' ρ', HInv c.lay F c.h₀ ρ' σ' s'.heap → Adv ρ σ s ρ' σ' s' NoW → Q b s') →
    wpAny (model c.prog c.w) A (forIn ifs true fun c r => if r = true then do let ok ← isTrue c env (eval c env); pure (ForInStep.yield ok) else pure (ForInStep.yield r)) Q E s
noncomputable def ttT : ST := fun _ σ => some (true, σ)

theorem clr_get : ∀ (is : List Nat) (loc : Loc) {i : Nat} {v : V}, (clr is loc)[i]? = some (some v) → loc[i]? = some (some v) ∧ i ∉ is
  | [], _, _, _, h => ⟨h, by simp⟩
  | j :: is, loc, i, v, h => by
    obtain ⟨a, b⟩ := clr_get is (loc.set j none) h
    by_cases e : i = j
    · subst e
      rw [List.getElem?_set] at a
      simp at a
    · rw [List.getElem?_set_ne (Ne.symm e)] at a
      exact ⟨a, by simp [e, b]⟩

section
variable {c : Cx} {k : Nat} {vars : List (Nat × Str)} {sc : Scope}
theorem den_if0 : DenIfs c k vars sc [] ttT := by
  intro env A s F ρ loc σ b σ' Q E hs hA H I e q
  cases e
  exact wpAny_tests_nil (q s ρ H .refl)
theorem den_if1 {t : Expr} {f : ST} (h : DenT c k vars sc t f) : DenIfs c k vars sc [t] f := by
  intro env A s F ρ loc σ b σ' Q E hs hA H I e q
  exact wpAny_tests_one (h env A s F ρ loc σ b σ' Q E hs hA H I e q)
end

theorem closure_of {env : Env} : ∀ (names : List (Str × NameKind)), (∀ p ∈ names, p.2 = .free → ∃ a, env.cells.lookup p.1 = some a) → ∀ (acc : List (Str × Addr)),
    ∃ cl : List (Str × Addr), (forIn names acc fun (x : Str × NameKind) (cs : List (Str × Addr)) => (do
      if (x.2 == .free) = true then do let a ← cellOf env x.1; pure (ForInStep.yield ((x.1, a) :: cs)) else pure (ForInStep.yield cs) : Sem (ForInStep (List (Str × Addr))))) = pure cl ∧
      (∀ n a, cl.lookup n = some a → env.cells.lookup n = some a ∨ acc.lookup n = some a) ∧ (∀ p ∈ names, p.2 = .free → (cl.lookup p.1).isSome = true) ∧ (∀ n, (acc.lookup n).isSome = true → (cl.lookup n).isSome = true)
  | [], _, acc => ⟨acc, rfl, fun _ _ h => .inr h, fun _ h => (nomatch h), fun _ h => h⟩
  | (n, kd) :: r, h, acc => by
    rw [List.forIn_cons]
    by_cases hk : (kd == NameKind.free) = true
    · obtain ⟨a, ha⟩ := h (n, kd) List.mem_cons_self (by simpa using hk)
      obtain ⟨cl, e, h1, h2, h3⟩ := closure_of r (fun p hp => h p (List.mem_cons_of_mem _ hp)) ((n, a) :: acc)
      refine ⟨cl, ?_, fun m b hb => ?_, fun p hp hf => ?_, fun m hm => h3 m ?_⟩
      · dsimp only
        rw [if_pos hk]
        have ce : cellOf env n = pure a := by unfold cellOf; rw [ha]
        rw [ce]
        exact e
      · rcases h1 m b hb with q | q
        · exact .inl q
        · rw [List.lookup_cons] at q
          cases hm : m == n with
          | true => rw [hm] at q; cases q; exact .inl (by rw [beq_iff_eq.mp hm]; exact ha)
          | false => rw [hm] at q; exact .inr q
      · rcases List.mem_cons.mp hp with rfl | hp
        · exact h3 n (by rw [List.lookup_cons]; simp)
        · exact h2 p hp hf
      · rw [List.lookup_cons]; split <;> first | rfl | exact hm
    · obtain ⟨cl, e, h1, h2, h3⟩ := closure_of r (fun p hp => h p (List.mem_cons_of_mem _ hp)) acc
      refine ⟨cl, ?_, h1, fun p hp hf => ?_, h3⟩
      · dsimp only
        rw [if_neg hk]
        exact e
      · rcases List.mem_cons.mp hp with rfl | hp
        · exact absurd (by simpa using hf) hk
        · exact h2 p hp hf
theorem closureFor_of {scope : Scope} {env : Env} (h : ∀ p ∈ scope.names, p.2 = .free → ∃ a, env.cells.lookup p.1 = some a) :
    ∃ cl, closureFor scope env = pure cl ∧ (∀ n a, cl.lookup n = some a → env.cells.lookup n = some a) ∧ ∀ p ∈ scope.names, p.2 = .free → (cl.lookup p.1).isSome = true := by
  obtain ⟨cl, e, h1, h2, _⟩ := closure_of scope.names h []
  refine ⟨cl, ?_, fun n a ha => (h1 n a ha).elim id fun q => (by simp at q), h2⟩
  have z : closureFor scope env = (forIn scope.names ([] : List (Str × Addr)) fun (x : Str × NameKind) (cs : List (Str × Addr)) => (do
      if (x.2 == .free) = true then do let a ← cellOf env x.1; pure (ForInStep.yield ((x.1, a) :: cs)) else pure (ForInStep.yield cs) : Sem (ForInStep (List (Str × Addr))))) >>= fun s => pure s := rfl
  rw [z, e]
  rfl

theorem comp_turns {prog : Program} {w : World} {A : Around} {R : Result → Shared → Prop} {s : Shared} {elt target iter : Expr} {ifs : List Expr} {scope : Scope} {pos : Pos} {it acc : Value} {env : Env} (I : Nat → Shared → Prop)
    (turn : ∀ n s, I n s → wpAny (model prog w) A (pyNext it) (fun r s₁ => match r with
      | none => R (.ok .next) s₁
      | some v => wpAny (model prog w) A (letOwnedTupleGo target it v) (fun _ s₁' => wpAny (model prog w) A (assign target env v) (fun _ s₂ =>
          wpAny (model prog w) A (forIn ifs true fun c r => if r = true then do let ok ← isTrue c env (eval c env); pure (ForInStep.yield ok) else pure (ForInStep.yield r)) (fun ok s₃ =>
            if ok = true then wpAny (model prog w) A (eval elt env) (fun x s₄ =>
              wpAny (model prog w) A (call (.builtin "list.append") [acc, x]) (fun _ s₅ => ∃ m, m < n ∧ I m s₅) (notedBy (model prog w) A env fun e s' => R (.error e) s') s₄) (notedBy (model prog w) A env fun e s' => R (.error e) s') s₃
            else ∃ m, m < n ∧ I m s₃) (notedBy (model prog w) A env fun e s' => R (.error e) s') s₂) (notedBy (model prog w) A env fun e s' => R (.error e) s') s₁') (notedBy (model prog w) A env fun e s' => R (.error e) s') s₁) (notedBy (model prog w) A env fun e s' => R (.error e) s') s)
    (n : Nat) (h : I n s) : codeAny (model prog w) A (.compLoop (.ListComp elt [⟨target, iter, ifs, 0⟩] scope pos) 0 it acc env) R s := by
  refine codeAny_loop rfl I (fun n s hI => ?_) n h
  show wpAny _ A ((compTurn (.ListComp elt [⟨target, iter, ifs, 0⟩] scope pos) 0 it acc env).onRaise (fun x => do noteFrame x env; theTreesLotGoes x)) _ _ s
  refine wpAny_noted ?_
  rw [compTurn_list]
  refine wpAny_bind (wpAny_standAt (wpAny_bind (wpAny_mono (turn n s hI) (fun r s₁ h₁ => ?_) fun _ _ h' => h')))
  cases r with
  | none => exact wpAny_pure h₁
  | some v =>
    refine wpAny_bind (wpAny_mono h₁ (fun _ s₁' h₁' => ?_) fun _ _ h' => h')
    refine wpAny_bind (wpAny_mono h₁' (fun _ s₂ h₂ => wpAny_bind (wpAny_mono h₂ (fun ok s₃ h₃ => ?_) fun _ _ h' => h')) fun _ _ h' => h')
    cases ok with
    | false => exact wpAny_pure ⟨rfl, h₃⟩
    | true => exact wpAny_bind (wpAny_bind (wpAny_mono h₃ (fun x s₄ h₄ => wpAny_bind (wpAny_mono h₄ (fun _ s₅ h₅ => wpAny_pure (wpAny_pure ⟨rfl, h₅⟩)) fun _ _ h' => h')) fun _ _ h' => h'))

inductive CmpI (c : Cx) (varsC : List (Nat × Str)) (F' : Addr → Prop) (cenv : Env) (D : Addr) (ws : List V) (St : (Addr → Prop) → Nat → List Addr → Heap → Prop) (tgt : SA) (test : ST) (felt : SE) (ρ : List Addr) (σ : Hp) (s : Shared) (W : Addr → Prop) (rs : List V) (σ' : Hp) : Nat → Shared → Prop
  | mk {m i : Nat} {loc₁ : Loc} {σ₁ : Hp} {ρ₁ : List Addr} {ys : Array Value} {accV rest : List V} {s' : Shared} : i ≤ ws.length → m = ws.length - i → St F' i ρ₁ s'.heap → HInv c.lay F' c.h₀ ρ₁ σ₁ s'.heap → FrI c.lay varsC F' ρ₁ cenv loc₁ s'.heap → Adv ρ σ s ρ₁ σ₁ s' W →
      s'.heap.PlainList D ys → VRs c.lay F' ρ₁ s'.heap accV ys.toList → ys.size ≤ i → cmpL tgt test felt (ws.drop i) loc₁ σ₁ = some (rest, σ') → accV ++ rest = rs → CmpI c varsC F' cenv D ws St tgt test felt ρ σ s W rs σ' m s'
theorem cmp_go {c : Cx} {k : Nat} {varsC : List (Nat × Str)} {scC : Scope} {A : Around} {F' : Addr → Prop} {Ia C D : Addr} {wr fp : List Addr} {target elt iter : Expr} {ifs : List Expr} {scope : Scope} {pos : Pos} {ws : List V} {sf : Bool} {St : (Addr → Prop) → Nat → List Addr → Heap → Prop} {tgt : SA} {test : ST} {felt : SE}
    (T : It c A Ia wr fp target ws sf St) (hwF : ∀ b ∈ wr, F' b) (ht : DenAL c k varsC scC target tgt) (hif : DenIfs c k varsC scC ifs test) (he : DenE c k varsC scC elt felt) {cenv : Env} {s : Shared} {ρ : List Addr} {loc : Loc} {σ : Hp} {rs : List V} {σ' : Hp} {R : Result → Shared → Prop}
    (hs : cenv.scope = scC) (hC : cenv.locals = C) (hA : AOk c k A) (H : HInv c.lay F' c.h₀ ρ σ s.heap) (I : FrI c.lay varsC F' ρ cenv loc s.heap) (st : St F' 0 ρ s.heap) (hD : F' D) (hDC : D ≠ C) (hDw : D ∉ wr) (hDo : ¬ OwnW cenv D)
    (hacc : s.heap.PlainList D #[])
    (hfp : ∀ b ∈ fp, ¬ Live ρ σ b ∧ ¬ OwnW cenv b ∧ b ≠ D ∧ ∃ o, s.heap.get? b = some o) (hz : ws.length ≤ 1000000)
    (e : cmpL tgt test felt ws loc σ = some (rs, σ'))
    (q : ∀ s₁ ρ' ys h' tk, HInv c.lay F' c.h₀ ρ' σ' s₁.heap → Adv ρ σ s ρ' σ' s₁ (fun b => (b = C ∨ b = D) ∨ b ∈ wr) → s₁.heap.PlainList D ys → VRs c.lay F' ρ' s₁.heap rs ys.toList → (∃ m, s₁.heap.Ns C m) → (∀ b o, b ∉ wr → s₁.heap.get? b = some o → h'.get? b = some o) → R (.ok .next) { s₁ with heap := h', toks := tk }) :
    codeAny (model c.prog c.w) A (.compLoop (.ListComp elt [⟨target, iter, ifs, 0⟩] scope pos) 0 (.ref Ia) (.ref D) cenv) R s := by
  refine comp_turns (CmpI c varsC F' cenv D ws St tgt test felt ρ σ s (fun b => (b = C ∨ b = D) ∨ b ∈ wr) rs σ')
    ?_ (ws.length - 0) (.mk (i := 0) (accV := []) (Nat.zero_le _) rfl st H I .refl hacc .nil (Nat.le_refl _) e rfl)
  intro m s' z
  cases z with
  | @mk i loc₁ σ₁ ρ₁ ys accV rest _ hi hm st₁ H₁ I₁ A₁ pl₁ vr₁ hy e₁ hrs =>
  subst hm
  have hfp₁ : ∀ b ∈ fp, ¬ Live ρ₁ σ₁ b := fun b hb => notLive_adv H.len A₁ (hfp b hb).1 (hfp b hb).2.2.2
  by_cases hlt : i < ws.length
  · obtain ⟨v, hv⟩ : ∃ v, ws[i]? = some v := ⟨_, List.getElem?_eq_getElem hlt⟩
    have hd : ws.drop i = v :: ws.drop (i + 1) := by
      rw [List.drop_eq_getElem_cons hlt]
      have := (List.getElem?_eq_some_iff.mp hv).2
      rw [this]
    rw [hd] at e₁
    simp only [cmpL] at e₁
    refine wpAny_mono (T.item F' hwF i s' ρ₁ σ₁ v _ (notedBy (model c.prog c.w) A cenv fun e s' => R (.error e) s') hv st₁ H₁ fun x h₂ tk₂ st₂ H₂ kp₂ th₂ r₂ => ?_) (fun r s₁ h => by cases r with | none => exact h.elim | some x => exact h) fun _ _ h => h
    have A₂ : Adv ρ₁ σ₁ s' ρ₁ σ₁ { s' with heap := h₂, toks := tk₂ } (fun b => b ∈ wr) := adv_wr kp₂ th₂
    have I₂ : FrI c.lay varsC F' ρ₁ cenv loc₁ h₂ := I₁.chg (s' := { s' with heap := h₂, toks := tk₂ }) H₁ A₂ hwF fun b ob hw => (hfp b (T.sub b hw)).2.1 ob
    have pl₂ : h₂.PlainList D ys := let ⟨n, e⟩ := pl₁; ⟨n, kp₂ D _ hDw e⟩
    have vr₂ : VRs c.lay F' ρ₁ h₂ accV ys.toList := vr₁.grow (A₂.grow H₁ hwF)
    split at e₁
    · rename_i loc₃ σ₃ e₃
      refine ht cenv A _ F' ρ₁ loc₁ σ₁ v x loc₃ σ₃ _ _ hs hA H₂ I₂ r₂ e₃ fun s₃ ρ₃ H₃ I₃ A₃ => ?_
      have lF : ∀ b, LocW cenv b → F' b := fun b w => I₂.ownF b (.inl w)
      have nD : ∀ {ρ : List Addr} {σ : Hp} {h : Heap}, HInv c.lay F' c.h₀ ρ σ h → ¬ Live ρ σ D := fun H l => (H.own D l.mem).1 hD
      have pl₃ : s₃.heap.PlainList D ys := let ⟨n, e⟩ := pl₂; ⟨n, A₃.keep D _ e (nD H₂) (fun w => hDC (w.trans hC))⟩
      have vr₃ : VRs c.lay F' ρ₃ s₃.heap accV ys.toList := vr₂.grow (A₃.grow H₂ lF)
      have A13 : Adv ρ σ s ρ₃ σ₃ s₃ (fun b => (b = C ∨ b = D) ∨ b ∈ wr) := (A₁.trans H.len H₁.len (A₂.mono fun b w => .inr w)).trans H.len H₂.len (A₃.mono fun b w => .inl (.inl (w.trans hC)))
      have st₃ : St F' (i + 1) ρ₃ s₃.heap := T.frame _ _ _ _ _ _ _ st₂ (A₃.grow H₂ lF) fun b hb o e => A₃.keep b o e (hfp₁ b hb) fun w => (hfp b hb).2.1 (.inl w)
      have hfp₃ : ∀ b ∈ fp, ¬ Live ρ₃ σ₃ b := fun b hb => notLive_adv H.len A13 (hfp b hb).1 (hfp b hb).2.2.2
      split at e₁
      · rename_i σ₄ e₄
        split at e₁
        · rename_i w σ₅ e₅
          split at e₁
          · rename_i ws' σ₆ e₆
            cases e₁
            refine hif cenv A s₃ F' ρ₃ loc₃ σ₃ true σ₄ _ _ hs hA H₃ I₃ e₄ fun s₄ ρ₄ H₄ A₄ => ?_
            simp only [if_true]
            have I₄ := I₃.adv H₃ A₄
            refine he cenv A s₄ F' ρ₄ loc₃ σ₄ w σ₅ _ _ hs hA H₄ I₄ e₅ fun y s₅ ρ₅ H₅ A₅ r₅ => ?_
            have A35 := A₄.trans H₃.len H₄.len A₅
            have pl₅ : s₅.heap.PlainList D ys := let ⟨n, e⟩ := pl₃; ⟨n, A35.keep D _ e (nD H₃) id⟩
            have vr₅ : VRs c.lay F' ρ₅ s₅.heap accV ys.toList := vr₃.adv H₃ A35
            have st₅ : St F' (i + 1) ρ₅ s₅.heap := T.frame _ _ _ _ _ _ _ st₃ (A35.growE H₃) fun b hb o e => A35.keep b o e (hfp₃ b hb) id
            refine wpAny_list_append_plain (hsz := by rw [sizeLine_eq]; omega) pl₅ fun h₆ pl₆ hs₆ => ?_
            obtain ⟨n₆, ho₆⟩ := id pl₆
            obtain ⟨H₆, kp₆, th₆, G₆⟩ := item_go (A := A) H₅ hD hs₆ ho₆
            have A₆ : Adv ρ₅ σ₅ s₅ ρ₅ σ₅ { s₅ with heap := h₆, toks := s₅.toks } (fun b => b ∈ [D]) := adv_wr kp₆ th₆
            have I₆ : FrI c.lay varsC F' ρ₅ cenv loc₃ h₆ := (I₄.adv H₄ A₅).chg (s' := { s₅ with heap := h₆, toks := s₅.toks }) H₅ A₆ (fun b m => by rw [List.mem_singleton.mp m]; exact hD) fun b ob m => hDo (by rw [← List.mem_singleton.mp m]; exact ob)
            refine ⟨ws.length - (i + 1), Nat.sub_succ_lt_self _ _ hlt, .mk (accV := accV ++ [w]) hlt rfl ?_ H₆ I₆ ?_ pl₆ ?_ (by rw [Array.size_push]; exact Nat.succ_le_succ hy) e₆ (by rw [← hrs, List.append_assoc]; rfl)⟩
            · exact T.frame _ _ _ _ _ _ _ st₅ G₆ fun b hb o e => kp₆ b o (fun m => (hfp b hb).2.2.1 (List.mem_singleton.mp m)) e
            · exact (A13.trans H.len H₃.len A35.ofE).trans H.len H₅.len (A₆.mono fun b m => .inl (.inr (List.mem_singleton.mp m)))
            · rw [Array.toList_push]; exact (vr₅.grow G₆).append (.cons (r₅.grow G₆) .nil)
          · cases e₁
        · cases e₁
      · rename_i σ₄ e₄
        refine hif cenv A s₃ F' ρ₃ loc₃ σ₃ false σ₄ _ _ hs hA H₃ I₃ e₄ fun s₄ ρ₄ H₄ A₄ => ?_
        simp only [Bool.false_eq_true, if_false]
        refine ⟨ws.length - (i + 1), Nat.sub_succ_lt_self _ _ hlt, .mk hlt rfl ?_ H₄ (I₃.adv H₃ A₄) (A13.trans H.len H₃.len A₄.ofE) ?_ (vr₃.adv H₃ A₄) (Nat.le_succ_of_le hy) e₁ hrs⟩
        · exact T.frame _ _ _ _ _ _ _ st₃ (A₄.growE H₃) fun b hb o e => A₄.keep b o e (hfp₃ b hb) id
        · obtain ⟨n, e⟩ := pl₃
          exact ⟨n, A₄.keep D _ e (nD H₃) id⟩
      · cases e₁
    · cases e₁
  · have hin : i = ws.length := by omega
    subst hin
    simp only [List.drop_length, cmpL] at e₁
    cases e₁
    rw [List.append_nil] at hrs
    subst hrs
    refine wpAny_mono (T.done F' s' ρ₁ (fun s₁ => R (.ok .next) s₁) _ st₁ fun h' tk kp => q s' ρ₁ ys h' tk H₁ A₁ pl₁ vr₁ (by rw [← hC]; exact I₁.ns) kp) (fun r s₁ h => ?_) fun _ _ h => h
    cases r with
    | none => exact h
    | some x => exact h.elim
end Mine
namespace Mine
open PySem PySem.Spec PySem.Calls PyProof.Rows PySem.W

structure LcShape (vars varsC : List (Nat × Str)) (sc scope scC : Scope) (is : List Nat) : Prop where
  kind : scope.kind = .function
  names : ∀ x ∈ scope.names, x.2 = .local → scope.names.lookup x.1 = some .local
  cell : ∀ y ∈ scope.names, y.2 ≠ .cell
  rel : ∀ env : Env, env.scope = sc → relabel scope env = scC
  free : ∀ p ∈ scope.names, p.2 = .free → ∃ i, (i, p.1) ∈ vars ∧ sc.names.lookup p.1 = some .cell
  vok : VarsOk varsC
  vC : ∀ p ∈ varsC, (scC.names.lookup p.2 = some .local ∧ p.1 ∈ is) ∨ (scC.names.lookup p.2 = some .cell ∧ p ∈ vars ∧ (p.2, NameKind.free) ∈ scope.names ∧ sc.names.lookup p.2 = some .cell)

section
variable {c : Cx} {k : Nat} {vars varsC : List (Nat × Str)} {sc scope scC : Scope} {is : List Nat}

theorem lc_core {elt target iter : Expr} {ifs : List Expr} {pos : Pos} {tgt : SA} {test : ST} {felt : SE} (S : LcShape vars varsC sc scope scC is) (ht : DenAL c k varsC scC target tgt) (hif : DenIfs c k varsC scC ifs test) (he : DenE c k varsC scC elt felt)
    {env : Env} {A : Around} {s : Shared} {F : Addr → Prop} {ρ : List Addr} {loc : Loc} {σ : Hp} {v : V} {x : Value} {ws rs : List V} {b : Option Nat} {σ₂ : Hp} {E : Value → Shared → Prop} {RR : Value → Addr → Result → Shared → Prop} {cl : List (Str × Addr)}
    (hs : env.scope = sc) (hA : AOk c k A) (H : HInv c.lay F c.h₀ ρ σ s.heap) (I : FrI c.lay vars F ρ env loc s.heap) (r : VR c.lay F ρ s.heap v x) (hv : v.notS = true) (e1 : srcOf σ v = some (ws, b)) (hz : ws.length ≤ 1000000)
    (hcl1 : ∀ n a, cl.lookup n = some a → env.cells.lookup n = some a) (hcl2 : ∀ p ∈ scope.names, p.2 = .free → (cl.lookup p.1).isSome = true)
    (e2 : cmpL tgt test felt ws (clr is loc) (lend b σ) = some (rs, σ₂))
    (q : ∀ D C s' ρ', s.heap.get? C = none → (∃ m, s'.heap.Ns C m) → HInv c.lay (fun a => F a ∨ a = C) c.h₀ ρ' (giveBack b ws σ₂) s'.heap → Adv ρ σ s ρ' (giveBack b ws σ₂) s' NoW → FrI c.lay vars (fun a => F a ∨ a = C) ρ' env loc s'.heap → VR c.lay (fun a => F a ∨ a = C) ρ' s'.heap (.lst rs) (.ref D) → RR (.ref D) C (.ok .next) s') :
    wpAny (model c.prog c.w) A (pyIter x) (fun it s₂ => wpAny (model c.prog c.w) A (newList []) (fun acc s₃ =>
      wpAny (model c.prog c.w) A (newFunctionEnv scope env.globals cl [] env.qual none .none (some env)) (fun cenv s₄ =>
        codeAny (model c.prog c.w) A (.compStart (.ListComp elt [⟨target, iter, ifs, 0⟩] scope pos) 0 it acc { cenv with scope := relabel scope env }) (RR acc cenv.locals) s₄) E s₃) E s₂) E s := by
  refine src_ok (target := target) hA H r e1 fun Ia s₁ wr fp sf St T hsf hbor => ?_
  have hsf : sf = true := hsf (by cases v <;> first | rfl | cases hv)
  refine wpAny_newObj_type (wpAny_newFunctionEnv S.cell (by intro y hy; simp at hy) (fun h₂ hns hsb => ?_) S.kind)
  dsimp only at hns hsb ⊢
  simp only [List.reverse_nil, List.lookup_nil, Option.isSome_some, if_true] at hns hsb
  generalize hH2 : s₁.heap.push { cls := .type "list", dict := none, data := .seq ([] : List Value).toArray } = H2 at hns hsb ⊢
  have hCs : H2.objs.size = s₁.heap.objs.size + 1 := by rw [← hH2, Heap.size_push]
  generalize hDe : s₁.heap.objs.size = D at hCs ⊢
  generalize hCe : H2.objs.size = C at hCs hns hsb ⊢
  have nD1 : s₁.heap.get? D = none := hDe ▸ get_size_none s₁.heap
  have nC1 : s₁.heap.get? C = none := by
    cases e : s₁.heap.get? C with
    | none => rfl
    | some o => exact absurd (Heap.lt_size e) (by rw [hDe, hCs]; exact Nat.not_lt.mpr (Nat.le_succ _))
  have DC : D ≠ C := by rw [hCs]; exact (Nat.succ_ne_self D).symm
  have k12 : ∀ b o, s₁.heap.get? b = some o → H2.get? b = some o := fun b o e => hH2 ▸ Heap.get?_push_of_some _ e
  have k2h : ∀ b o, H2.get? b = some o → h₂.get? b = some o := fun b o e => hsb.extBut b o (fun z => by rw [z, ← hCe, get_size_none] at e; cases e) (Heap.get?_push_of_some _ e)
  have k1h : ∀ b o, s₁.heap.get? b = some o → h₂.get? b = some o := fun b o e => k2h b o (k12 b o e)
  have hD2 : h₂.PlainList D #[] := ⟨_, k2h D _ (by rw [← hH2, ← hDe]; exact Heap.get?_push_size _ rfl)⟩
  obtain ⟨nD, eD⟩ := id hD2
  obtain ⟨oC, _, _, eC, _⟩ := id hns
  have nDs : s.heap.get? D = none := by
    cases e : s.heap.get? D with
    | none => rfl
    | some o => have z := T.keep D o e; rw [nD1] at z; cases z
  have nCs : s.heap.get? C = none := by
    cases e : s.heap.get? C with
    | none => rfl
    | some o => have z := T.keep C o e; rw [nC1] at z; cases z
  have wr1 : ∀ b ∈ wr, ∃ o, s₁.heap.get? b = some o := fun b m => (T.new b m).2
  have nwrD : D ∉ wr := fun m => by obtain ⟨o, e⟩ := wr1 D m; rw [nD1] at e; cases e
  have nwrC : C ∉ wr := fun m => by obtain ⟨o, e⟩ := wr1 C m; rw [nC1] at e; cases e
  let Fb : Addr → Prop := fun a => F a ∨ a = D ∨ a = C
  have inFb : ∀ a, (Fb a ∨ a ∈ wr) → (F a ∨ a ∈ wr) ∨ (s₁.heap.get? a = none ∧ ∃ o, h₂.get? a = some o) := fun a f => by
    rcases f with (f | f | f) | f
    · exact .inl (.inl f)
    · exact .inr ⟨f ▸ nD1, f ▸ ⟨_, eD⟩⟩
    · exact .inr ⟨f ▸ nC1, f ▸ ⟨_, eC⟩⟩
    · exact .inl (.inr f)
  obtain ⟨H₂, G₂⟩ := T.inv.moreF (F' := fun a => Fb a ∨ a ∈ wr) (fun a f => f.imp .inl id) k1h inFb
  have Fs : ∀ a, F a → ∃ o, s.heap.get? a = some o := fun a f => (H.fr a f).2
  have hFw : ∀ a, Fb a → a ∉ wr := fun a f m => by
    rcases f with f | rfl | rfl
    · obtain ⟨o, e⟩ := Fs a f; rw [(T.new a m).1] at e; cases e
    · exact nwrD m
    · exact nwrC m
  have fpE : ∀ b ∈ fp, ∃ o, s₁.heap.get? b = some o := fun b m => (T.fp b m).2.2
  have fpD : ∀ b ∈ fp, b ≠ D := fun b m z => by obtain ⟨o, e⟩ := fpE b m; rw [z, nD1] at e; cases e
  have fpC : ∀ b ∈ fp, b ≠ C := fun b m z => by obtain ⟨o, e⟩ := fpE b m; rw [z, nC1] at e; cases e
  have T' : ItStart c A Fb ρ (lend b σ) target ws s { s₁ with heap := h₂, toks := s₁.toks + ([] : List (Str × Value)).length } Ia wr fp sf St := by
    refine ⟨T.it, ?_, H₂, fun b m => ⟨(T.new b m).1, let ⟨o, e⟩ := wr1 b m; ⟨o, k1h b o e⟩⟩, fun b m => ⟨(T.fp b m).1, fun f => ?_, let ⟨o, e⟩ := fpE b m; ⟨o, k1h b o e⟩⟩, fun b o e => k1h b o (T.keep b o e), T.gens, T.drawn, T.os, ?_⟩
    · exact T.it.frame _ _ _ _ _ _ _ T.st G₂ fun b _ o e => k1h b o e
    · rcases f with f | f | f
      · exact (T.fp b m).2.1 f
      · exact fpD b m f
      · exact fpC b m f
    · exact ⟨fun b o fr e => k1h b o (T.keep b o e), fun b o fr e => ⟨fun f => f.elim fr.1 fun m => (by rw [(T.new b m).1] at e; cases e), fr.2⟩, fun _ _ e => e⟩
  have I₁ : FrI c.lay vars (fun a => F a ∨ a ∈ wr) ρ env loc s₁.heap := I.moreF (fun a f => .inl f) T.keep T.grow
  have I₂ : FrI c.lay vars (fun a => Fb a ∨ a ∈ wr) ρ env loc h₂ := I₁.moreF (fun a f => f.imp .inl id) k1h G₂
  have ownE : ∀ a, OwnW env a → F a ∧ a ≠ D ∧ a ≠ C ∧ a ∉ wr := fun a w => by
    have f := I.ownF a w
    obtain ⟨o, e⟩ := Fs a f
    exact ⟨f, (fun z => by rw [z, nDs] at e; cases e), (fun z => by rw [z, nCs] at e; cases e), hFw a (.inl f)⟩
  let cenv : Env := { scope := relabel scope env, locals := C, globals := env.globals, cells := cl, qual := env.qual, func := none, code := env.code, frame := env.frame, builtins := env.builtins }
  have cS : cenv.scope = scC := S.rel env hs
  have cK : ∀ y, cenv.kindOf y = scC.names.lookup y := fun y => by rw [Env.kindOf, cS]
  have ownC : ∀ a, OwnW cenv a → a = C ∨ OwnW env a := fun a w => by
    rcases w with w | ⟨y, hy⟩
    · exact .inl w
    · exact .inr (.inr ⟨y, hcl1 y a hy⟩)
  have IC : FrI c.lay varsC (fun a => Fb a ∨ a ∈ wr) ρ cenv (clr is loc) h₂ := by
    refine ⟨S.vok, ?_, I.glob, I.bi, ⟨_, hns⟩, .inl (.inr (.inr rfl)), fun y a hy => ?_, fun y z a hy hz => I.cellsNe y z a (hcl1 y a hy) (hcl1 z a hz), fun i y hy => ?_, fun i y u hy hu => ?_⟩
    · show (relabel scope env).kind = _; exact S.kind
    · obtain ⟨a1, a2, w, a3⟩ := I₂.cellsF y a (hcl1 y a hy)
      exact ⟨a1, (ownE a (.inr ⟨y, hcl1 y a hy⟩)).2.2.1, w, a3⟩
    · rw [cK]
      rcases S.vC _ hy with ⟨a1, _⟩ | ⟨a1, a2, a3, _⟩
      · exact .inl a1
      · exact .inr ⟨a1, Option.isSome_iff_exists.mp (hcl2 _ a3 rfl)⟩
    · obtain ⟨hu', hni⟩ := clr_get is loc hu
      rcases S.vC _ hy with ⟨a1, a2⟩ | ⟨a1, a2, a3, a4⟩
      · exact absurd a2 hni
      · obtain ⟨z, hz, rz⟩ := I₂.vals i y u a2 hu'
        refine ⟨z, .inr ⟨(cK y).trans a1, ?_⟩, rz⟩
        rcases hz with ⟨k1, _⟩ | ⟨_, ca, k2, k3⟩
        · rw [Env.kindOf, hs, a4] at k1; cases k1
        · obtain ⟨ca', hca'⟩ := Option.isSome_iff_exists.mp (hcl2 _ a3 rfl)
          have := (hcl1 y ca' hca').symm.trans k2
          cases this
          exact ⟨ca, hca', k3⟩
  have loop : codeAny (model c.prog c.w) A (.compLoop (.ListComp elt [⟨target, iter, ifs, 0⟩] scope pos) 0 (.ref Ia) (.ref D) cenv) (RR (.ref D) C) { s₁ with heap := h₂, toks := s₁.toks + ([] : List (Str × Value)).length } := by
    refine cmp_go (C := C) T'.it (fun b m => .inr m) ht hif he cS rfl hA H₂ IC T'.st (.inl (.inr (.inl rfl))) DC nwrD (fun w => (ownC D w).elim DC fun w => (ownE D w).2.1 rfl) hD2
      (fun b m => ⟨(T'.fp b m).1, fun w => (ownC b w).elim (fpC b m) fun w => (T.fp b m).2.1 (ownE b w).1, fpD b m, (T'.fp b m).2.2⟩) hz e2 fun s₂ ρ' ys h' tk H₃ A₃ pl vr hn hk => ?_
    have hWF : ∀ b, (b = C ∨ b = D) → Fb b := fun b w => w.elim (fun z => .inr (.inr z)) fun z => .inr (.inl z)
    obtain ⟨H₄, A₄, G₄⟩ := loop_end (tk := tk) hFw T' (fun n h => let ⟨a, it, x1, x2, x3, x4⟩ := hbor n h; ⟨a, it, x1, x2, (x3.grow T.grow).grow G₂, x4⟩) (srcOf_alive e1) H₃ A₃ hWF hk
    have less : ∀ a, (F a ∨ a = C) → Fb a := fun a f => f.imp id .inr
    have GL : Grow Fb ρ' h' (fun a => F a ∨ a = C) ρ' h' := Grow.lessF less
    have A₅ : Adv ρ σ s ρ' (giveBack b ws σ₂) { s₂ with heap := h', toks := tk } NoW := ⟨A₄.tl, A₄.live, fun a o e nl _ => A₄.keep a o e nl (fun w => w.elim (fun z => by rw [z, nCs] at e; cases e) (fun z => by rw [z, nDs] at e; cases e)), A₄.there, A₄.gens, A₄.drawn, A₄.os⟩
    have I₃ : FrI c.lay vars (fun a => Fb a ∨ a ∈ wr) ρ' env loc s₂.heap := I₂.chg (s := { s₁ with heap := h₂, toks := s₁.toks + ([] : List (Str × Value)).length }) H₂ A₃ (fun b w => w.elim (fun z => .inl (hWF b z)) .inr) fun b ob w => by
      obtain ⟨_, o2, o3, o4⟩ := ownE b ob
      exact w.elim (fun w => w.elim o3 o2) o4
    have I₄ : FrI c.lay vars Fb ρ' env loc h' := I₃.dropWr (fun b w => ⟨.inl (ownE b w).1, (ownE b w).2.2.2⟩) hk G₄
    have I₅ : FrI c.lay vars (fun a => F a ∨ a = C) ρ' env loc h' := I₄.dropWr (wr := []) (fun b w => ⟨.inl (ownE b w).1, by simp⟩) (fun _ _ _ e => e) GL
    obtain ⟨n', hD'⟩ := id pl
    have hDh : h'.get? D = some _ := hk D _ nwrD hD'
    refine q D C _ ρ' nCs ?_ (H₄.lessF less) A₅ I₅ (.lst ⟨fun f => ?_, fun m => (H₄.own D m).1 (.inr (.inl rfl))⟩ ⟨n', hDh⟩ ((vr.grow G₄).grow GL))
    · obtain ⟨m, o, es, ep, e, z⟩ := hn
      exact ⟨m, o, es, ep, hk C _ nwrC e, z⟩
    · rcases f with f | f
      · obtain ⟨o, e⟩ := Fs D f; rw [nDs] at e; cases e
      · exact DC f
  exact codeAny_compStart_list loop (T.it.self hsf _ _ ρ _ _ T'.st loop)

theorem drop_C {lay : Addr → List Str} {F : Addr → Prop} {h₀ : Heap} {ρ ρ' : List Addr} {σ σ' : Hp} {s s' : Shared} {C : Addr} {h' : Heap} {tk : Nat} {W : Addr → Prop} (hF : ¬ F C) (H : HInv lay (fun a => F a ∨ a = C) h₀ ρ' σ' s'.heap) (A : Adv ρ σ s ρ' σ' s' W) (hn : s.heap.get? C = none) (hs : Heap.SameBut C s'.heap h') :
    HInv lay F h₀ ρ' σ' h' ∧ Adv ρ σ s ρ' σ' { s' with heap := h', toks := tk } W ∧ Grow (fun a => F a ∨ a = C) ρ' s'.heap F ρ' h' := by
  have kp : ∀ b o, b ∉ [C] → s'.heap.get? b = some o → h'.get? b = some o := fun b o nb e => (hs.2 b (fun z => nb (by rw [z]; exact List.mem_singleton.mpr rfl))).trans e
  have nC : ∀ b o, s.heap.get? b = some o → b ∉ [C] := fun b o e m => by rw [List.mem_singleton.mp m, hn] at e; cases e
  obtain ⟨H', G⟩ := H.dropWr (F := F) (wr := [C]) (h' := h') (fun a f => ⟨.inl f, fun m => hF (by rw [← List.mem_singleton.mp m]; exact f)⟩) (fun b m => .inr (List.mem_singleton.mp m)) kp
  exact ⟨H', ⟨A.tl, A.live, fun b o e nl nw => kp b o (nC b o e) (A.keep b o e nl nw), fun b o e => let ⟨o', e'⟩ := A.there b o e; ⟨o', kp b o' (nC b o e) e'⟩, A.gens, A.drawn, A.os⟩, G⟩

theorem lc_closure (S : LcShape vars varsC sc scope scC is) {env : Env} {F : Addr → Prop} {ρ : List Addr} {loc : Loc} {h : Heap} (hs : env.scope = sc) (I : FrI c.lay vars F ρ env loc h) :
    ∃ cl, closureFor scope env = pure cl ∧ (∀ n a, cl.lookup n = some a → env.cells.lookup n = some a) ∧ ∀ p ∈ scope.names, p.2 = .free → (cl.lookup p.1).isSome = true := by
  refine closureFor_of fun p hp hf => ?_
  obtain ⟨i, hi, hk⟩ := S.free p hp hf
  rcases I.kinds i p.1 hi with z | ⟨_, z⟩
  · rw [Env.kindOf, hs, hk] at z; cases z
  · exact z

theorem den_lc {elt target iter : Expr} {ifs : List Expr} {pos : Pos} {tgt : SA} {test : ST} {felt fi : SE} (S : LcShape vars varsC sc scope scC is) (hi : DenE c k vars sc iter fi) (ht : DenAL c k varsC scC target tgt) (hif : DenIfs c k varsC scC ifs test) (he : DenE c k varsC scC elt felt)
    (hfs : ∀ (env : Env) (x : Value), foldedSetIterable iter env x = pure x) : DenE c k vars sc (.ListComp elt [⟨target, iter, ifs, 0⟩] scope pos) (cmpE is tgt test felt fi) := by
  intro env A s F ρ loc σ v σ' Q E hs hA H I e q
  unfold cmpE at e
  split at e
  · rename_i v₁ σ₁ e1
    split at e
    · rename_i hv
      split at e
      · rename_i ws b e2
        split at e
        · rename_i hz
          split at e
          · rename_i rs σ₂ e3
            cases e
            obtain ⟨cl, hcl, hcl1, hcl2⟩ := lc_closure S hs I
            rw [eval_ListComp]
            refine wpAny_comprehension_free (g := ⟨target, iter, ifs, 0⟩) (gs := []) rfl (hfs env) hcl S.kind S.names ?_
            refine hi env A s F ρ loc σ v₁ σ₁ _ _ hs hA H I e1 fun x s₁ ρ₁ H₁ A₁ r₁ => ?_
            refine lc_core S ht hif he hs hA H₁ (I.adv H A₁) r₁ hv e2 (Nat.le_of_ble_eq_true hz) hcl1 hcl2 e3 fun D C s₂ ρ₂ nC hn H₂ A₂ I₂ r₂ => ?_
            obtain ⟨m, hn⟩ := hn
            have nF : ¬ F C := fun f => by obtain ⟨_, o, e⟩ := H₁.fr C f; rw [nC] at e; cases e
            refine ⟨m, hn, fun h' hs' => ?_⟩
            obtain ⟨H₃, A₃, G₃⟩ := drop_C (tk := s₂.toks) nF H₂ A₂ nC hs'
            exact q _ _ ρ₂ H₃ (A₁.trans H.len H₁.len A₃) (r₂.grow G₃)
          · cases e
        · cases e
      · cases e
    · cases e
  · cases e

theorem den_asgLc {i : Nat} {y : Str} {py spos : Pos} {elt target iter : Expr} {ifs : List Expr} {pos : Pos} {tgt : SA} {test : ST} {felt fi : SE} (S : LcShape vars varsC sc scope scC is) (hi : DenE c k vars sc iter fi) (ht : DenAL c k varsC scC target tgt) (hif : DenIfs c k varsC scC ifs test) (he : DenE c k varsC scC elt felt)
    (hfs : ∀ (env : Env) (x : Value), foldedSetIterable iter env x = pure x) (hm : (i, y) ∈ vars)
    (hsw : ∀ env : Env, env.scope = sc → swapsWith (.ListComp elt [⟨target, iter, ifs, 0⟩] scope pos) (some (.Name y py)) spos.line env = pure true) :
    DenS c k vars sc (.Assign [.Name y py] (.ListComp elt [⟨target, iter, ifs, 0⟩] scope pos) spos) (asgS i (cmpE is tgt test felt fi)) := by
  intro env A s F ρ loc σ fl loc' σ' Q E hs hA H I e q
  unfold asgS at e
  split at e
  · rename_i w σ₀ e0
    split at e
    · rename_i hil
      cases e
      unfold cmpE at e0
      split at e0
      · rename_i v₁ σ₁ e1
        split at e0
        · rename_i hv
          split at e0
          · rename_i ws b e2
            split at e0
            · rename_i hz
              split at e0
              · rename_i rs σ₂ e3
                cases e0
                obtain ⟨cl, hcl, hcl1, hcl2⟩ := lc_closure S hs.1 I
                rw [exec_Assign_Name_used _ _ _ _ (hsw env hs.1)]
                refine wpAny_bind (wpAny_standAt (wpAny_bind ?_))
                show wpAny _ A (do let _ ← comprehension (.ListComp elt [⟨target, iter, ifs, 0⟩] scope pos) scope env _ (newList []) false (eval iter env) (some (assign (.Name y py) env))) _ _ s
                refine wpAny_bind (wpAny_mono (wpAny_comprehension_free (Q := fun _ s' => Q .next s') (g := ⟨target, iter, ifs, 0⟩) (gs := []) rfl (hfs env) hcl S.kind S.names ?_) (fun _ s' hq => wpAny_pure (wpAny_pure hq)) fun _ _ e => e)
                refine hi env A s F ρ loc σ v₁ σ₁ _ _ hs.1 hA H I e1 fun x s₁ ρ₁ H₁ A₁ r₁ => ?_
                refine lc_core S ht hif he hs.1 hA H₁ (I.adv H A₁) r₁ hv e2 (Nat.le_of_ble_eq_true hz) hcl1 hcl2 e3 fun D C s₂ ρ₂ nC hn H₂ A₂ I₂ r₂ => ?_
                obtain ⟨m, hn⟩ := hn
                have nF : ¬ F C := fun f => by obtain ⟨_, o, e⟩ := H₁.fr C f; rw [nC] at e; cases e
                have I₁ := I.adv H A₁
                have ownC : ∀ a, OwnW env a → a ≠ C := fun a w z => nF (z ▸ I₁.ownF a w)
                refine wpAny_assign_Name (store_var H₂ I₂ hm hil r₂ fun s₃ H₃ I₃ A₃ => ?_)
                have hn₃ : s₃.heap.Ns C m := by
                  obtain ⟨o, es, ep, e, z⟩ := hn
                  refine ⟨o, es, ep, A₃.keep C o e (fun l => (H₂.own C l.mem).1 (.inr rfl)) (fun w => ownC C w rfl), z⟩
                refine ⟨m, hn₃, fun h' hs' => ?_⟩
                have A23 : Adv ρ₁ σ₁ s₁ ρ₂ (giveBack b ws σ₂) s₃ (OwnW env) := A₂.ofE.trans H₁.len H₂.len A₃
                obtain ⟨H₄, A₄, G₄⟩ := drop_C (tk := s₃.toks) nF H₃ A23 nC hs'
                refine q .next _ ρ₂ H₄ (I₃.dropWr (wr := [C]) (fun a w => ⟨I₁.ownF a w, fun z => ownC a w (List.mem_singleton.mp z)⟩) (fun b o nb e => (hs'.2 b (fun z => nb (by rw [z]; exact List.mem_singleton.mpr rfl))).trans e) G₄) (A₁.ofE.trans H.len H₁.len A₄) .next
              · cases e0
            · cases e0
          · cases e0
        · cases e0
      · cases e0
    · cases e
  · cases e
end
end Mine
namespace Mine
open PySem PySem.Spec PySem.Calls PyProof.Rows PySem.W

noncomputable def int2 (g : Int → Int → Option V) : SF := fun vs σ => match vs with
  | [.int a, .int b] => (match g a b with | some v => some (v, σ) | none => none)
  | _ => none
noncomputable def okI (a : Int) : Bool := decide (a.natAbs < 1000000000)
noncomputable def addI (a b : Int) : Option V := some (.int (a + b))
noncomputable def subI (a b : Int) : Option V := some (.int (a - b))
noncomputable def mulI (a b : Int) : Option V := if okI a then some (.int (a * b)) else none
noncomputable def divI (a b : Int) : Option V := if okI b && b != 0 then some (.int (a.fdiv b)) else none
noncomputable def modI (a b : Int) : Option V := if b != 0 then some (.int (a.fmod b)) else none
noncomputable def ltI (a b : Int) : Option V := some (.bool (decide (a < b)))
noncomputable def leI (a b : Int) : Option V := some (.bool (decide (a ≤ b)))
noncomputable def gtI (a b : Int) : Option V := some (.bool (decide (a > b)))
noncomputable def geI (a b : Int) : Option V := some (.bool (decide (a ≥ b)))

section
variable {c : Cx} {k : Nat}
theorem fn_int2 {t : Value → Value → Sem Value} {g : Int → Int → Option V}
    (h : ∀ (A : Around) (s : Shared) (Q E : Value → Shared → Prop) (a b : Int) (ta tb : Tok) (v : V), g a b = some v → (∀ z tk, (∀ F ρ h, VR c.lay F ρ h v z) → Q z { s with toks := tk }) → wpAny (model c.prog c.w) A (t (.int a ta) (.int b tb)) Q E s) : FnOk c k (two t) (int2 g) := by
  intro A s F ρ σ vs xs v σ' Q E hA H r e q
  unfold int2 at e
  split at e
  · rename_i a b
    split at e
    · rename_i v' e1
      cases e
      cases r with
      | cons r1 r => cases r with
        | cons r2 r =>
          cases r1; cases r2
          exact h A s Q E a b _ _ v e1 fun z tk hz => q z _ ρ H .toks (hz _ _ _)
    · cases e
  · cases e
theorem fn_add : FnOk c k (two (binaryOp .Add)) (int2 addI) := fn_int2 fun A s Q E a b ta tb v e q => by cases e; exact PyProof.Rows.add_int (q _ _ fun _ _ _ => .int)
theorem fn_sub : FnOk c k (two (binaryOp .Sub)) (int2 subI) := fn_int2 fun A s Q E a b ta tb v e q => by cases e; exact PyProof.Rows.sub_int (q _ _ fun _ _ _ => .int)
theorem okI_bits {a : Int} (h : okI a = true) : Builtin.Int.intBits a ≤ 64 := by
  have h := of_decide_eq_true h
  unfold Builtin.Int.intBits
  split
  · omega
  · have : a.natAbs.log2 < 64 := by
      rcases Nat.eq_zero_or_pos a.natAbs with z | z
      · rw [z]; decide
      · exact (Nat.log2_lt (by omega)).mpr (by omega)
    omega
theorem fn_mul : FnOk c k (two (binaryOp .Mult)) (int2 mulI) := fn_int2 fun A s Q E a b ta tb v e q => by
  unfold mulI at e
  split at e
  · rename_i h; cases e; exact PyProof.Rows.mul_int (q _ _ fun _ _ _ => .int) (IntMulOk.of_left (okI_bits h))
  · cases e
theorem fn_div : FnOk c k (two (binaryOp .FloorDiv)) (int2 divI) := fn_int2 fun A s Q E a b ta tb v e q => by
  unfold divI at e
  split at e
  · rename_i h
    obtain ⟨h1, h2⟩ := Bool.and_eq_true_iff.mp h
    cases e
    have h1 := of_decide_eq_true h1
    exact PyProof.Rows.floordiv_int (bne_iff_ne.mp h2) (q _ _ fun _ _ _ => .int) (.inl (PyProof.noPylong_small (by omega)))
  · cases e
theorem fn_mod : FnOk c k (two (binaryOp .Mod)) (int2 modI) := fn_int2 fun A s Q E a b ta tb v e q => by
  unfold modI at e
  split at e
  · rename_i h; cases e; exact PyProof.Rows.mod_int (bne_iff_ne.mp h) (q _ _ fun _ _ _ => .int)
  · cases e
theorem fn_lt : FnOk c k (two (compareOp .Lt)) (int2 ltI) := fn_int2 fun A s Q E a b ta tb v e q => by cases e; exact PyProof.Rows.lt_int (q _ s.toks fun _ _ _ => .bool)
theorem fn_le : FnOk c k (two (compareOp .LtE)) (int2 leI) := fn_int2 fun A s Q E a b ta tb v e q => by cases e; exact PyProof.Rows.le_int (q _ s.toks fun _ _ _ => .bool)
theorem fn_gt : FnOk c k (two (compareOp .Gt)) (int2 gtI) := fn_int2 fun A s Q E a b ta tb v e q => by cases e; exact PyProof.Rows.gt_int (q _ s.toks fun _ _ _ => .bool)
theorem fn_ge : FnOk c k (two (compareOp .GtE)) (int2 geI) := fn_int2 fun A s Q E a b ta tb v e q => by cases e; exact PyProof.Rows.ge_int (q _ s.toks fun _ _ _ => .bool)
noncomputable def negF : SF := fun vs σ => match vs with
  | [.int a] => some (.int (-a), σ)
  | _ => none
theorem fn_neg : FnOk c k (one (unaryOp .USub)) negF := by
  intro A s F ρ σ vs xs v σ' Q E hA H r e q
  unfold negF at e
  split at e
  · cases e
    cases r with
    | cons r1 r => cases r1; exact PyProof.Rows.neg_int (q _ _ ρ H .toks .int)
  · cases e

noncomputable def smax : Nat := 1000000
noncomputable def addS : SF := fun vs σ => match vs with
  | [.str a, .str b] => if Nat.ble (a.length + b.length) smax then some (.str (a ++ b), σ) else none
  | _ => none
theorem fn_addS : FnOk c k (two (binaryOp .Add)) addS := by
  intro A s F ρ σ vs xs v σ' Q E hA H r e q
  unfold addS at e
  split at e
  · split at e
    · rename_i hz
      cases e
      have hz := Nat.le_of_ble_eq_true hz
      cases r with
      | cons r1 r => cases r with
        | cons r2 r =>
          cases r1; cases r2
          exact PyProof.Rows.add_str (fun t' tk => q _ _ ρ H .toks .str) (by rw [sizeLine_eq]; unfold smax at hz; omega)
    · cases e
  · cases e
noncomputable def mulS : SF := fun vs σ => match vs with
  | [.str a, .int n] => if Nat.ble a.length 1000 && decide (-1000 < n) && decide (n < 1000) then some (.str (Txt.mul a n), σ) else none
  | _ => none
theorem fn_mulS : FnOk c k (two (binaryOp .Mult)) mulS := by
  intro A s F ρ σ vs xs v σ' Q E hA H r e q
  unfold mulS at e
  split at e
  · rename_i a n
    split at e
    · rename_i hz
      obtain ⟨h1, h2⟩ := Bool.and_eq_true_iff.mp hz
      obtain ⟨h0, h1⟩ := Bool.and_eq_true_iff.mp h1
      have h0 := Nat.le_of_ble_eq_true h0
      have h1 := of_decide_eq_true h1
      have h2 := of_decide_eq_true h2
      cases e
      cases r with
      | cons r1 r => cases r with
        | cons r2 r =>
          cases r1; cases r2
          refine SB.mul ⟨?_, fun hn _ => ?_, fun hn _ => ?_⟩ fun t' tk => q _ _ ρ H .toks .str
          · have a1 : ¬ n < -(2 ^ 63 : Int) := by omega
            have a2 : ¬ n ≥ 2 ^ 63 := by omega
            rw [decide_eq_false a1, decide_eq_false a2]; rfl
          · have : (2 ^ 63 - 1 : Int) / n ≥ 1000 := by
              refine Int.le_ediv_of_mul_le (by omega) ?_
              omega
            omega
          · have hb : a.length * n.toNat ≤ 1000 * 1000 := Nat.mul_le_mul h0 (by omega)
            exact decide_eq_false (by rw [sizeLine_eq]; omega)
    · cases e
  · cases e
mutual
noncomputable def V.data : V → Option PyData
  | .none => some .none
  | .bool b => some (.bool b)
  | .int i => some (.int i)
  | .str s => if PySem.PyData.strOk s then some (.str s) else Option.none
  | .tup vs => match V.datas vs with | some ds => some (.tuple ds) | Option.none => Option.none
  | .lst vs => match V.datas vs with | some ds => some (.list ds) | Option.none => Option.none
  | _ => Option.none
noncomputable def V.datas : List V → Option (List PyData)
  | [] => some []
  | v :: vs => match V.data v, V.datas vs with
    | some d, some ds => some (d :: ds)
    | _, _ => Option.none
end
mutual
theorem reads_of {lay : Addr → List Str} {F : Addr → Prop} {ρ : List Addr} {h : Heap} : ∀ (v : V) {x : Value} {d : PyData}, VR lay F ρ h v x → v.data = some d → (∃ as, Reads h x d as) ∧ d.canLay0 = true
  | .none, _, _, r, e => by cases e; cases r; exact ⟨⟨_, .none⟩, rfl⟩
  | .bool b, _, _, r, e => by cases e; cases r; exact ⟨⟨_, .bool b⟩, rfl⟩
  | .int i, _, _, r, e => by cases e; cases r; exact ⟨⟨_, .int i _⟩, rfl⟩
  | .str s, _, _, r, e => by
    simp only [V.data] at e
    split at e
    · rename_i hs; cases e; cases r; exact ⟨⟨_, .str s _⟩, hs⟩
    · cases e
  | .tup vs, _, _, r, e => by
    simp only [V.data] at e
    split at e
    · rename_i ds e1
      cases e
      cases r with
      | tup fr ht rs =>
        obtain ⟨⟨as, ra⟩, hl⟩ := reads_all vs rs e1
        obtain ⟨o, h1, h2, n, h3⟩ := ht
        exact ⟨⟨_, .tuple h1 h2 h3 ra⟩, hl⟩
    · cases e
  | .lst vs, _, _, r, e => by
    simp only [V.data] at e
    split at e
    · rename_i ds e1
      cases e
      cases r with
      | lst fr ht rs =>
        obtain ⟨⟨as, ra⟩, hl⟩ := reads_all vs rs e1
        obtain ⟨n, h1⟩ := ht
        exact ⟨⟨_, .list h1 rfl rfl ra⟩, hl⟩
    · cases e
  | .g _, _, _, _, e => by cases e
  | .obj _ _, _, _, _, e => by cases e
  | .inst _ _, _, _, _, e => by cases e
  | .ref _, _, _, _, e => by cases e
  | .rng _ _, _, _, _, e => by cases e
  | .edict, _, _, _, e => by cases e
theorem reads_all {lay : Addr → List Str} {F : Addr → Prop} {ρ : List Addr} {h : Heap} : ∀ (vs : List V) {xs : List Value} {ds : List PyData}, VRs lay F ρ h vs xs → V.datas vs = some ds → (∃ as, ReadsAll h xs ds as) ∧ PyData.canLayAll0 ds = true
  | [], _, _, r, e => by cases e; cases r; exact ⟨⟨_, .nil⟩, rfl⟩
  | v :: vs, _, _, r, e => by
    simp only [V.datas] at e
    split at e
    · rename_i d ds e1 e2
      cases e
      cases r with
      | cons r1 r2 =>
        obtain ⟨⟨as, ra⟩, hl⟩ := reads_of v r1 e1
        obtain ⟨⟨bs, rb⟩, hl2⟩ := reads_all vs r2 e2
        exact ⟨⟨_, .cons ra rb⟩, by simp [PyData.canLayAll0, hl, hl2]⟩
    · cases e
end
noncomputable def eqF (neg : Bool) : SF := fun vs σ => match vs with
  | [.str a, .str b] => some (.bool (neg != (a == b)), σ)
  | [a, b] => (match a.data, b.data with
    | some da, some db => if Nat.ble (min da.depth db.depth) 30 then some (.bool (neg != PyData.eqv da db), σ) else none
    | _, _ => none)
  | _ => none
theorem fn_eq : FnOk c (k + 1) (two (compareOp .Eq)) (eqF false) := by
  intro A s F ρ σ vs xs v σ' Q E hA H r e q
  unfold eqF at e
  split at e
  · cases e
    cases r with
    | cons r1 r => cases r with
      | cons r2 r =>
        cases r1; cases r2
        exact PyProof.Rows.eq_str (by have := q _ s ρ H .refl .bool; simpa only [Bool.false_bne] using this)
  · split at e
    · rename_i da db ea eb
      split at e
      · rename_i hz
        cases e
        cases r with
        | cons r1 r => cases r with
          | cons r2 r =>
            obtain ⟨⟨as, ra⟩, hla⟩ := reads_of _ r1 ea
            obtain ⟨⟨bs, rb⟩, hlb⟩ := reads_of _ r2 eb
            have hu := hA.2.2.2.1
            have hz := Nat.le_of_ble_eq_true hz
            refine PySem.SeqAt.compareEq_reads ra rb hla hlb (by omega) ?_
            have := q (.bool (PyData.eqv da db)) s ρ H .refl
            simp only [Bool.false_bne] at this
            exact this .bool
      · cases e
    · cases e
  · cases e
theorem fn_ne : FnOk c (k + 1) (two (compareOp .NotEq)) (eqF true) := by
  intro A s F ρ σ vs xs v σ' Q E hA H r e q
  unfold eqF at e
  split at e
  · cases e
    cases r with
    | cons r1 r => cases r with
      | cons r2 r =>
        cases r1; cases r2
        exact PyProof.Rows.ne_str (by have := q _ s ρ H .refl .bool; simp only [Bool.true_bne] at this; exact this)
  · split at e
    · rename_i da db ea eb
      split at e
      · rename_i hz
        cases e
        cases r with
        | cons r1 r => cases r with
          | cons r2 r =>
            obtain ⟨⟨as, ra⟩, hla⟩ := reads_of _ r1 ea
            obtain ⟨⟨bs, rb⟩, hlb⟩ := reads_of _ r2 eb
            have hu := hA.2.2.2.1
            have hz := Nat.le_of_ble_eq_true hz
            refine PySem.SeqAt.compareNe_reads ra rb hla hlb (by omega) ?_
            have := q (.bool (!PyData.eqv da db)) s ρ H .refl
            simp only [Bool.true_bne] at this
            exact this .bool
      · cases e
    · cases e
  · cases e
end
end Mine
namespace Mine
open PySem PySem.Spec PySem.Calls PyProof.Rows PySem.W

noncomputable def lstOf (σ : Hp) : V → Option (List V)
  | .lst vs => some vs
  | .ref n => match σ[n]? with
    | some (.lst vs) => some vs
    | _ => none
  | _ => none
theorem list_at {lay : Addr → List Str} {F : Addr → Prop} {h₀ : Heap} {ρ : List Addr} {σ : Hp} {h : Heap} (H : HInv lay F h₀ ρ σ h) {v : V} {x : Value} {vs : List V} (r : VR lay F ρ h v x) (e : lstOf σ v = some vs) :
    ∃ a items, x = .ref a ∧ h.PlainList a items ∧ VRs lay F ρ h vs items.toList := by
  cases r with
  | lst fr ht rs => cases e; exact ⟨_, _, rfl, ht, rs⟩
  | ref hn =>
    simp only [lstOf] at e
    split at e
    · rename_i vs' es
      cases e
      obtain ⟨items, hi, rs⟩ := H.objs _ _ _ es hn
      exact ⟨_, items, rfl, hi, rs⟩
    · cases e
  | _ => cases e

noncomputable def ixOf (i : Int) (n : Nat) : Option Nat := if decide (0 ≤ i) then (if decide (i < n) then some i.toNat else none) else if decide (0 ≤ i + n) then some (i + n).toNat else none
noncomputable def idxF : SF := fun vs σ => match vs with
  | [v, .int i] => if okI i then (match v with
    | .tup ws => (match ixOf i ws.length with
      | some j => (match ws[j]? with | some w => some (w, σ) | none => none)
      | none => none)
    | v => (match lstOf σ v with
      | some ws => (match ixOf i ws.length with
        | some j => (match ws[j]? with | some w => some (w, σ) | none => none)
        | none => none)
      | none => none)) else none
  | _ => none

section
variable {c : Cx} {k : Nat} {vars : List (Nat × Str)} {sc : Scope}

theorem list_get {prog : Program} {w : World} {A : Around} {E Q : Value → Shared → Prop} {s : Shared} {a : Addr} {items : Array Value} {i : Int} {t : Tok} {j : Nat} {x : Value} (hl : s.heap.IsList a items) (hi : okI i = true) (hj : ixOf i items.size = some j) (hx : items[j]? = some x) (q : Q x s) : wpAny (model prog w) A (getItem (.ref a) (.int i t)) Q E s := by
  have hi := of_decide_eq_true hi
  unfold ixOf at hj
  split at hj
  · rename_i h0
    have h0 := of_decide_eq_true h0
    split at hj
    · cases hj; exact wpAny_getItem_list hl h0 (by omega) hx q
    · cases hj
  · rename_i h0
    have h0 : ¬ 0 ≤ i := fun z => h0 (decide_eq_true z)
    split at hj
    · rename_i h1
      have h1 := of_decide_eq_true h1
      cases hj
      exact wpAny_getItem_list_neg hl (by omega) (by omega) (by omega) hx q
    · cases hj
theorem seqIx_of {i : Int} {n j : Nat} (h : ixOf i n = some j) : seqIndex? i n = some j := by
  unfold ixOf at h
  unfold seqIndex?
  split at h
  · rename_i h0
    have h0 := of_decide_eq_true h0
    split at h
    · rename_i h1
      have h1 := of_decide_eq_true h1
      cases h
      simp only [show ¬ i < 0 by omega, if_false]
      first
        | (rw [if_pos (by omega)])
        | (rw [if_neg (by omega)])
        | simp [h0, h1]
    · cases h
  · rename_i h0
    have h0 : ¬ 0 ≤ i := fun z => h0 (decide_eq_true z)
    split at h
    · rename_i h1
      have h1 := of_decide_eq_true h1
      cases h
      simp only [show i < 0 by omega, if_true]
      first
        | (rw [if_pos (by omega)])
        | (rw [if_neg (by omega)])
        | (simp [h1]; omega)
    · cases h

theorem sub_tail {prog : Program} {w : World} {A : Around} {E Q : Value → Shared → Prop} {s : Shared} {value slice : Expr} {o i : Value} {T id : String} {ops : List Value} (hT : s.TypeIs o T) (hl : typeLookup (.type T) "__getitem__" = pure (some (.builtin id))) (h : wpAny (model prog w) A (getItem o i) Q E s)
    (hs : subscripted slice false o i = operate ops (getItem o i)) : wpAny (model prog w) A (subscriptTail value slice o i) Q E s := by
  unfold subscriptTail
  refine wpAny_bind ?_
  rw [getitemInPython_of_ne hT.not_modules]
  refine wpAny_bind (wpAny_specialOf hT hl ?_)
  have fin : wpAny (model prog w) A (subscripted slice false o i) (fun r s₃ => wpAny (model prog w) A (letTemporaryGo value o r >>= fun _ => pure r) Q E s₃) E s := by
    rw [hs]
    exact wpAny_operating (wpAny_mono h (fun r s₃ h₃ => wpAny_bind (wpAny_letTemporaryGo (wpAny_pure h₃))) fun _ _ x => x)
  first
    | exact wpAny_pure (wpAny_bind fin)
    | exact wpAny_bind (wpAny_pure (wpAny_bind fin))
    | exact wpAny_bind fin

theorem fn_idx {value slice : Expr} (hs : ∀ o i, subscripted slice false o i = operate [o, i] (getItem o i)) : FnOk c k (two (subscriptTail value slice)) idxF := by
  intro A s F ρ σ vs xs v σ' Q E hA H r e q
  unfold idxF at e
  split at e
  · rename_i v₀ i
    split at e
    · rename_i hi
      cases r with
      | cons r1 r => cases r with
        | cons r2 r =>
          cases r2
          split at e
          · rename_i ws
            split at e
            · rename_i j hj
              split at e
              · rename_i w hw
                cases e
                cases r1 with
                | @tup _ a items fr ht rs =>
                  obtain ⟨y, hy, ry⟩ := rs.get j hw
                  have hy' : items[j]? = some y := by simpa using hy
                  have hj' : seqIndex? i items.size = some j := seqIx_of (by rw [← hj, rs.length]; simp)
                  have hi' := of_decide_eq_true hi
                  have ht' : IsTup s.heap a items := ht
                  exact sub_tail ht'.typeIs slot_tuple_getitem.lookup (PyProof.Rows.getItem_tuple ht' (by omega) (by omega) hj' hy' (q _ _ ρ H .refl ry)) (hs _ _)
              · cases e
            · cases e
          · split at e
            · rename_i ws ew
              split at e
              · rename_i j hj
                split at e
                · rename_i w hw
                  cases e
                  obtain ⟨a, items, hx, hp, rs⟩ := list_at H r1 ew
                  cases hx
                  obtain ⟨y, hy, ry⟩ := rs.get j hw
                  have hy' : items[j]? = some y := by simpa using hy
                  have hj' : ixOf i items.size = some j := by rw [← hj, rs.length]; simp
                  exact sub_tail hp.isList.typeIs slot_list_getitem.lookup (list_get hp.isList hi hj' hy' (q _ _ ρ H .refl ry)) (hs _ _)
                · cases e
              · cases e
            · cases e
    · cases e
  · cases e
theorem den_idx {value slice : Expr} {pos : Pos} {f g : SE} (hv : DenE c k vars sc value f) (hsl : DenE c k vars sc slice g) (hs : ∀ o i, subscripted slice false o i = operate [o, i] (getItem o i)) : DenE c k vars sc (.Subscript value slice pos) (op2 idxF f g) := by
  intro env A s F ρ loc σ v σ' Q E hsc hA H I e q
  unfold op2 at e
  split at e
  · rename_i a σ₁ e1
    split at e
    · rename_i b σ₂ e2
      refine Subscript_ (hv env A s F ρ loc σ a σ₁ _ _ hsc hA H I e1 fun x s₁ ρ₁ H₁ A₁ r₁ => ?_)
      refine hsl env A s₁ F ρ₁ loc σ₁ b σ₂ _ _ hsc hA H₁ (I.adv H A₁) e2 fun y s₂ ρ₂ H₂ A₂ r₂ => ?_
      exact fn_idx (k := k) hs A s₂ F ρ₂ σ₂ [a, b] [x, y] v σ' Q E hA H₂ (.cons (r₁.adv H₁ A₂) (.cons r₂ .nil)) e fun z s₃ ρ₃ H₃ A₃ r₃ => q z s₃ ρ₃ H₃ ((A₁.trans H.len H₁.len A₂).trans H.len H₂.len A₃) r₃
    · cases e
  · cases e

noncomputable def lmax : Nat := 100000
noncomputable def cutL (i : Int) (vs : List V) : List V := if decide (0 ≤ i) then vs.take i.toNat else vs.take (vs.length - (-i).toNat)
noncomputable def slcF : SF := fun vs σ => match vs with
  | [v, .int i] => (match lstOf σ v with
    | some ws => if Nat.ble ws.length lmax then some (.lst (cutL i ws), σ) else none
    | none => none)
  | _ => none
noncomputable def cpyF : SF := fun vs σ => match vs with
  | [v] => (match lstOf σ v with
    | some ws => if Nat.ble ws.length lmax then some (.lst ws, σ) else none
    | none => none)
  | _ => none
theorem push_list {lay : Addr → List Str} {F : Addr → Prop} {h₀ : Heap} {ρ : List Addr} {σ : Hp} {s : Shared} {h' : Heap} {tk : Nat} {items : Array Value} {ws : List V} (H : HInv lay F h₀ ρ σ s.heap) (hk : ∀ b o, s.heap.get? b = some o → h'.get? b = some o) (rs : VRs lay F ρ s.heap ws items.toList) :
    HInv lay F h₀ ρ σ (h'.push { cls := .type "list", data := .seq items }) ∧ Adv ρ σ s ρ σ { s with heap := h'.push { cls := .type "list", data := .seq items }, toks := tk } NoW ∧ VR lay F ρ (h'.push { cls := .type "list", data := .seq items }) (.lst ws) (.ref h'.objs.size) := by
  have H' := H.ext hk
  have hk2 := push_keep h' { cls := .type "list", data := .seq items }
  have fr := H'.freeNew (get_size_none h')
  have A₂ : Adv ρ σ s ρ σ { s with heap := h'.push { cls := .type "list", data := .seq items }, toks := tk } NoW := Adv.ext fun b o e => hk2 b o (hk b o e)
  exact ⟨H'.ext hk2, A₂, .lst fr ⟨_, Heap.get?_push_size _ rfl⟩ (rs.adv H A₂)⟩

theorem slice_tail {prog : Program} {w : World} {A : Around} {E Q : Value → Shared → Prop} {s : Shared} {value : Expr} {lo up : Option Expr} {p : Pos} {a : Addr} {items : Array Value} {vl vu : Value} {l u : Option Int} (hl : s.heap.IsList a items) (pl : IsPart vl l) (pu : IsPart vu u) (hz : items.size ≤ sizeLine)
    (q : Q (.ref (s.heap.objs.size + 1)) { s with heap := (s.heap.push { cls := .type "slice", data := .fields #[vl, vu, .none] }).push { cls := .type "list", data := .seq (slicePick items l u none) } }) :
    wpAny (model prog w) A (subscriptTail value (.Slice lo up none p) (.ref a) (.ref s.heap.objs.size)) Q E { s with heap := s.heap.push { cls := .type "slice", data := .fields #[vl, vu, .none] } } := by
  have hl' : (s.heap.push { cls := .type "slice", data := .fields #[vl, vu, .none] }).IsList a items := by
    obtain ⟨o, ho, r⟩ := hl; exact ⟨o, push_keep _ _ _ _ ho, r⟩
  refine sub_tail (T := "list") (ops := [.ref s.heap.objs.size, .ref a]) (Heap.IsList.typeIs (s := { s with heap := s.heap.push { cls := .type "slice", data := .fields #[vl, vu, .none] } }) hl') slot_list_getitem.lookup ?_ rfl
  refine wpAny_getItem_list_slice hl' (vl := vl) (vu := vu) (vs := .none) ?_ pl pu .none (by simp) ?_ hz
  · exact ⟨_, Heap.get?_push_size _ rfl, rfl, rfl⟩
  · have : (s.heap.push { cls := .type "slice", data := .fields #[vl, vu, .none] }).objs.size = s.heap.objs.size + 1 := Heap.size_push ..
    show Q (.ref (s.heap.push { cls := .type "slice", data := .fields #[vl, vu, .none] }).objs.size) _
    rw [this]; exact q
theorem cut_take {lay : Addr → List Str} {F : Addr → Prop} {ρ : List Addr} {h : Heap} {ws : List V} {items : Array Value} (i : Int) (rs : VRs lay F ρ h ws items.toList) : VRs lay F ρ h (cutL i ws) (slicePick items none (some i) none).toList := by
  unfold cutL
  split
  · rename_i h0
    have h0 := of_decide_eq_true h0
    have e := slicePick_upto' items i.toNat
    rw [Int.toNat_of_nonneg h0] at e
    rw [e]
    simpa using rs.take i.toNat
  · rename_i h0
    have h0 : ¬ 0 ≤ i := fun z => h0 (decide_eq_true z)
    have e := slicePick_butLast items (-i).toNat (by omega)
    rw [show -(((-i).toNat : Nat) : Int) = i by omega] at e
    rw [e, rs.length]
    simpa using rs.take (items.size - (-i).toNat)
theorem den_slice {value up : Expr} {p pos : Pos} {f g : SE} (hv : DenE c k vars sc value f) (hu : DenE c k vars sc up g) : DenE c k vars sc (.Subscript value (.Slice none (some up) none p) pos) (op2 slcF f g) := by
  intro env A s F ρ loc σ v σ' Q E hsc hA H I e q
  unfold op2 at e
  split at e
  · rename_i a σ₁ e1
    split at e
    · rename_i b σ₂ e2
      refine Subscript_ (hv env A s F ρ loc σ a σ₁ _ _ hsc hA H I e1 fun x s₁ ρ₁ H₁ A₁ r₁ => ?_)
      refine wpAny_Slice ?_
      rw [evalPart_none, evalPart_some]
      refine wpAny_pure (hu env A s₁ F ρ₁ loc σ₁ b σ₂ _ _ hsc hA H₁ (I.adv H A₁) e2 fun y s₂ ρ₂ H₂ A₂ r₂ => ?_)
      refine wpAny_pure ?_
      unfold slcF at e
      split at e
      · rename_i v₀ i hvs
        cases hvs
        split at e
        · rename_i ws ew
          split at e
          · rename_i hz
            cases e
            have hz := Nat.le_of_ble_eq_true hz
            obtain ⟨ad, items, hx, hp, rs⟩ := list_at H₂ (r₁.adv H₁ A₂) ew
            cases hx
            cases r₂ with
            | @int _ ti =>
              have hsz : items.size ≤ sizeLine := by
                have := rs.length
                rw [sizeLine_eq]; unfold lmax at hz; simp at this; omega
              refine slice_tail hp.isList .none (.int _ _) hsz ?_
              obtain ⟨H₃, A₃, r₃⟩ := push_list (tk := s₂.toks) H₂ (push_keep s₂.heap { cls := .type "slice", data := .fields #[.none, .int i ti, .none] }) (cut_take i rs)
              have sz : (s₂.heap.push { cls := .type "slice", data := .fields #[.none, .int i ti, .none] }).objs.size = s₂.heap.objs.size + 1 := Heap.size_push ..
              rw [sz] at r₃
              exact q _ _ ρ₂ H₃ ((A₁.trans H.len H₁.len A₂).trans H.len H₂.len A₃) r₃
          · cases e
        · cases e
      · cases e
    · cases e
  · cases e
theorem den_copy {value : Expr} {p pos : Pos} {f : SE} (hv : DenE c k vars sc value f) : DenE c k vars sc (.Subscript value (.Slice none none none p) pos) (op1 cpyF f) := by
  intro env A s F ρ loc σ v σ' Q E hsc hA H I e q
  unfold op1 at e
  split at e
  · rename_i a σ₁ e1
    refine Subscript_ (hv env A s F ρ loc σ a σ₁ _ _ hsc hA H I e1 fun x s₁ ρ₁ H₁ A₁ r₁ => ?_)
    refine wpAny_Slice ?_
    rw [evalPart_none]
    refine wpAny_pure (wpAny_pure (wpAny_pure ?_))
    simp only [cpyF] at e
    split at e
    · rename_i ws ew
      split at e
      · rename_i hz
        cases e
        have hz := Nat.le_of_ble_eq_true hz
        obtain ⟨ad, items, hx, hp, rs⟩ := list_at H₁ r₁ ew
        cases hx
        have hsz : items.size ≤ sizeLine := by
          have := rs.length
          rw [sizeLine_eq]; unfold lmax at hz; simp at this; omega
        refine slice_tail hp.isList .none .none hsz ?_
        rw [slicePick_all]
        obtain ⟨H₃, A₃, r₃⟩ := push_list (tk := s₁.toks) H₁ (push_keep s₁.heap { cls := .type "slice", data := .fields #[.none, .none, .none] }) rs
        have sz : (s₁.heap.push { cls := .type "slice", data := .fields #[.none, .none, .none] }).objs.size = s₁.heap.objs.size + 1 := Heap.size_push ..
        rw [sz] at r₃
        exact q _ _ ρ₁ H₃ (A₁.trans H.len H₁.len A₃) r₃
      · cases e
    · cases e
  · cases e
end
end Mine
namespace Mine
open PySem PySem.Spec PySem.Calls PyProof.Rows PySem.W

noncomputable def addL : SF := fun vs σ => match vs with
  | [.lst a, .lst b] => if Nat.ble (a.length + b.length) lmax then some (.lst (a ++ b), σ) else none
  | [.ref n, .lst b] => (match σ[n]? with
    | some (.lst a) => if Nat.ble (a.length + b.length) lmax then some (.ref σ.length, σ ++ [.lst (a ++ b)]) else none
    | _ => none)
  | _ => none
noncomputable def mulL : SF := fun vs σ => match vs with
  | [.lst [a], .int n] => if decide (-1000 < n) && decide (n < 1000) then some (.lst (List.replicate n.toNat a), σ) else none
  | _ => none
noncomputable def lenF : SF := fun vs σ => match vs with
  | [v] => (match v with
    | .tup ws => if Nat.ble ws.length lmax then some (.int ws.length, σ) else none
    | .str x => if Nat.ble x.length smax then some (.int x.length, σ) else none
    | v => (match lstOf σ v with
      | some ws => if Nat.ble ws.length lmax then some (.int ws.length, σ) else none
      | none => none))
  | _ => none
noncomputable def tupF : SF := fun vs σ => match vs with
  | [v] => (match lstOf σ v with
    | some ws => if Nat.ble ws.length lmax then some (.tup ws, σ) else none
    | none => none)
  | _ => none
noncomputable def rngF : SF := fun vs σ => match vs with
  | [.int n] => some (.rng 0 n, σ)
  | [.int a, .int b] => some (.rng a b, σ)
  | _ => none
noncomputable def intsOf : List V → Option (List Int)
  | [] => some []
  | .int i :: r => (match intsOf r with | some is => some (i :: is) | none => none)
  | _ => none
noncomputable def strsOf : List V → Option (List Str)
  | [] => some []
  | .str i :: r => (match strsOf r with | some is => some (i :: is) | none => none)
  | _ => none
noncomputable def maxI : Int → List Int → Int
  | m, [] => m
  | m, a :: r => maxI (if a > m then a else m) r
noncomputable def maxF : SF := fun vs σ => match vs with
  | [.int a, .int b] => some (.int (if b > a then b else a), σ)
  | [v] => (match lstOf σ v with
    | some ws => (match intsOf ws with
      | some (i :: is) => some (.int (maxI i is), σ)
      | _ => none)
    | none => none)
  | _ => none
noncomputable def strF : SF := fun vs σ => match vs with
  | [.int i] => if okI i then some (.str (Str.ofString (toString i)), σ) else none
  | _ => none
noncomputable def typF : SF := fun vs σ => match vs with
  | [.str _] => some (.g (.type "str"), σ)
  | [v] => (match lstOf σ v with
    | some _ => some (.g (.type "list"), σ)
    | none => none)
  | _ => none
noncomputable def isN : V → Option Bool
  | .none => some true
  | .str _ => some false
  | .lst _ => some false
  | .ref _ => some false
  | _ => none
noncomputable def isF (neg : Bool) : SF := fun vs σ => match vs with
  | [v, .none] => (match isN v with | some b => some (.bool (neg != b), σ) | none => none)
  | [.g (.type a), .g (.type b)] => some (.bool (neg != decide (a = b)), σ)
  | _ => none
noncomputable def inF (neg : Bool) : SF := fun vs σ => match vs with
  | [.str y, .str x] => some (.bool (neg != Txt.contains x y), σ)
  | _ => none

section
variable {c : Cx} {k : Nat} {vars : List (Nat × Str)} {sc : Scope}
theorem vrs_arr {lay : Addr → List Str} {F : Addr → Prop} {ρ : List Addr} {h : Heap} {vs : List V} {items items2 : Array Value} {ws : List V} (r : VRs lay F ρ h vs items.toList) (r2 : VRs lay F ρ h ws items2.toList) : VRs lay F ρ h (vs ++ ws) (items ++ items2).toList := by
  rw [Array.toList_append]; exact r.append r2

theorem fn_addL : FnOk c k (two (binaryOp .Add)) addL := by
  intro A s F ρ σ vs xs v σ' Q E hA H r e q
  unfold addL at e
  split at e
  · rename_i a b
    split at e
    · rename_i hz
      cases e
      have hz := Nat.le_of_ble_eq_true hz
      cases r with
      | cons r1 r => cases r with
        | cons r2 r =>
          obtain ⟨x, i1, hx, ⟨n1, h1⟩, q1⟩ := list_at H r1 rfl
          obtain ⟨y, i2, hy, ⟨n2, h2⟩, q2⟩ := list_at H r2 rfl
          cases hx; cases hy
          have l1 := q1.length
          have l2 := q2.length
          simp at l1 l2
          obtain ⟨H₃, A₃, r₃⟩ := push_list (tk := s.toks) H (h' := s.heap) (fun _ _ e => e) (vrs_arr q1 q2)
          exact PySem.P.add_list h1 h2 (q _ _ ρ H₃ A₃ r₃) (by rw [sizeLine_eq]; unfold lmax at hz; omega)
    · cases e
  · rename_i n b
    split at e
    · rename_i a ea
      split at e
      · rename_i hz
        cases e
        have hz := Nat.le_of_ble_eq_true hz
        cases r with
        | cons r1 r => cases r with
          | cons r2 r =>
            obtain ⟨x, i1, hx, ⟨n1, h1⟩, q1⟩ := list_at H r1 (vs := a) (by simp [lstOf, ea])
            obtain ⟨y, i2, hy, ⟨n2, h2⟩, q2⟩ := list_at H r2 rfl
            cases hx; cases hy
            have l1 := q1.length
            have l2 := q2.length
            simp at l1 l2
            have hk := push_keep s.heap { cls := .type "list", data := .seq (i1 ++ i2) }
            have hn := get_size_none s.heap
            have A₂ : Adv ρ σ s (ρ ++ [s.heap.objs.size]) (σ ++ [.lst (a ++ b)]) { s with heap := s.heap.push { cls := .type "list", data := .seq (i1 ++ i2) } } NoW := Adv.slot hk hn
            have H₂ : HInv c.lay F c.h₀ (ρ ++ [s.heap.objs.size]) (σ ++ [.lst (a ++ b)]) (s.heap.push { cls := .type "list", data := .seq (i1 ++ i2) }) :=
              H.slot hk hn ⟨_, Heap.get?_push_size _ rfl⟩ ⟨_, ⟨_, Heap.get?_push_size _ rfl⟩, (vrs_arr q1 q2).adv H A₂⟩
            exact PySem.P.add_list h1 h2 (q _ _ _ H₂ A₂ (.ref (by rw [H.len]; simp))) (by rw [sizeLine_eq]; unfold lmax at hz; omega)
      · cases e
    · cases e
  · cases e

theorem foldl_rep (x : Value) : ∀ (n : Nat) (acc : Array Value), (List.foldl (fun x1 x2 => x1 ++ x2) acc (List.replicate n #[x])).toList = acc.toList ++ List.replicate n x
  | 0, acc => by simp
  | n + 1, acc => by
    rw [List.replicate_succ, List.foldl_cons, foldl_rep x n, Array.toList_append, List.replicate_succ]; simp
theorem vrs_rep {lay : Addr → List Str} {F : Addr → Prop} {ρ : List Addr} {h : Heap} {v : V} {x : Value} (r : VR lay F ρ h v x) : ∀ n : Nat, VRs lay F ρ h (List.replicate n v) (List.replicate n x)
  | 0 => .nil
  | n + 1 => .cons r (vrs_rep r n)
theorem wp_rep1 {prog : Program} {w : World} {A : Around} {E Q : Value → Shared → Prop} {s : Shared} {l : Addr} {x : Value} {m : Nat} {n : Int} {u : Tok} (hl : s.heap.get? l = some { cls := .type "list", dict := none, data := .seq #[x] m, slots := #[] }) (h1 : -1000 < n) (h2 : n < 1000)
    (q : Q (.ref s.heap.objs.size) { s with heap := s.heap.push { cls := .type "list", data := .seq (List.foldl (fun x1 x2 => x1 ++ x2) #[] (List.replicate (if (#[x] : Array Value).isEmpty = true then 0 else n.toNat) #[x])) } }) : wpAny (model prog w) A (binaryOp .Mult (.ref l) (.int n u)) Q E s :=
  wpAny_binaryOp_repeat_ref (T := "list") (U := "int") (by decide) ⟨_, hl, rfl⟩ (fun s' => typeIs_int s' n u) noFill_list_mul PySem.F.fills_int_mul PySem.F.slot_int_rmul repeat_list PySem.F.slot_int_index.lookup
    (call_meets PySem.F.slot_int_rmul (typeIs_int s n u) PySem.F.entry_int_rmul (PySem.F.args_int_rmul_2 _ _) (int___rmul___int_list n u l #[x] m)
      ⟨hl, rfl, ⟨_, hl, rfl⟩, call_meets PySem.F.slot_list_mul ⟨_, hl, rfl⟩ PySem.F.entry_list_mul (PySem.F.args_list_mul_2 _ _)
        (AutoListH.list___mul___list_int_3 l #[x] m n u (by simp [Builtin.List.listFitsIndex]; omega) (by simp; omega) (by simp [Builtin.List.listTooLong, sizeLine]; omega))
        ⟨hl, q⟩⟩)
theorem fn_mulL : FnOk c k (two (binaryOp .Mult)) mulL := by
  intro A s F ρ σ vs xs v σ' Q E hA H r e q
  unfold mulL at e
  split at e
  · rename_i a n
    split at e
    · rename_i hz
      obtain ⟨h1, h2⟩ := Bool.and_eq_true_iff.mp hz
      have h1 := of_decide_eq_true h1
      have h2 := of_decide_eq_true h2
      cases e
      cases r with
      | cons r1 r => cases r with
        | cons r2 r =>
          obtain ⟨l, items, hx, ⟨m, hl⟩, q1⟩ := list_at H r1 rfl
          cases hx
          cases r2 with
          | @int _ u =>
          have hit : ∃ x, items = #[x] ∧ VR c.lay F ρ s.heap a x := by
            obtain ⟨il⟩ := items
            cases q1 with
            | cons ra rn => cases rn; exact ⟨_, rfl, ra⟩
          obtain ⟨x, rfl, rx⟩ := hit
          refine wp_rep1 hl h1 h2 ?_
          have rr : VRs c.lay F ρ s.heap (List.replicate n.toNat a) (List.foldl (fun x1 x2 => x1 ++ x2) #[] (List.replicate (if (#[x] : Array Value).isEmpty = true then 0 else n.toNat) #[x])).toList := by
            have : (if (#[x] : Array Value).isEmpty = true then 0 else n.toNat) = n.toNat := rfl
            rw [this, foldl_rep]
            exact vrs_rep rx _
          obtain ⟨H₃, A₃, r₃⟩ := push_list (tk := s.toks) H (h' := s.heap) (fun _ _ e => e) rr
          exact q _ _ ρ H₃ A₃ r₃
    · cases e
  · cases e

theorem len_tup {prog : Program} {w : World} {A : Around} {E Q : Value → Shared → Prop} {s : Shared} {t : Addr} {items : Array Value} (ht : s.heap.IsTuple t items) (hfit : (items.size : Int) < 2 ^ 63) (h : Q (.int items.size (s.toks + 1)) { s with toks := s.toks + 1 + 1 }) : wpAny (model prog w) A (call (.builtin "len") [.ref t]) Q E s :=
  PyProof.Rows.len_tuple ht hfit h
theorem fn_len : FnOk c k (fun xs => call (.builtin "len") xs) lenF := by
  intro A s F ρ σ vs xs v σ' Q E hA H r e q
  unfold lenF at e
  split at e
  · cases r with
    | cons r1 r =>
      cases r
      split at e
      · split at e
        · rename_i ws hz
          cases e
          have hz := Nat.le_of_ble_eq_true hz
          unfold lmax at hz
          cases r1 with
          | @tup _ a items fr ht rs =>
            have l := rs.length
            simp at l
            rw [l] at q hz
            refine len_tup ht (by omega) (q _ _ ρ H .toks .int)
        · cases e
      · split at e
        · rename_i x hz
          cases e
          have hz := Nat.le_of_ble_eq_true hz
          unfold smax at hz
          cases r1
          exact PySem.P.len_str (by omega) (q _ _ ρ H .toks .int)
        · cases e
      · split at e
        · rename_i ws ew
          split at e
          · rename_i hz
            cases e
            have hz := Nat.le_of_ble_eq_true hz
            unfold lmax at hz
            obtain ⟨a, items, hx, hp, rs⟩ := list_at H r1 ew
            cases hx
            have l := rs.length
            simp at l
            rw [l] at q hz
            exact call_len_list hp.isList (by omega) (q _ _ ρ H .toks .int)
          · cases e
        · cases e
  · cases e
theorem fn_tup : FnOk c k (fun xs => call (.type "tuple") xs) tupF := by
  intro A s F ρ σ vs xs v σ' Q E hA H r e q
  unfold tupF at e
  split at e
  · cases r with
    | cons r1 r =>
      cases r
      split at e
      · rename_i ws ew
        split at e
        · rename_i hz
          cases e
          have hz := Nat.le_of_ble_eq_true hz
          unfold lmax at hz
          obtain ⟨a, items, hx, hp, rs⟩ := list_at H r1 ew
          cases hx
          have l := rs.length
          simp at l
          refine call_tuple_list hp.isList (fun h' hk => ?_) (by rw [sizeLine_eq]; omega)
          have H' := H.ext hk
          have hk2 := push_keep h' { cls := .type "tuple", data := .seq items }
          have fr := H'.freeNew (get_size_none h')
          have A₂ : Adv ρ σ s ρ σ { s with heap := h'.push { cls := .type "tuple", data := .seq items } } NoW := Adv.ext fun b o e => hk2 b o (hk b o e)
          exact q _ _ ρ (H'.ext hk2) A₂ (.tup fr ⟨_, Heap.get?_push_size _ rfl, rfl, _, rfl⟩ (rs.adv H A₂))
        · cases e
      · cases e
  · cases e
theorem fn_rng : FnOk c k (fun xs => call (.type "range") xs) rngF := by
  intro A s F ρ σ vs xs v σ' Q E hA H r e q
  unfold rngF at e
  have fr := H.freeNew (get_size_none s.heap)
  split at e
  · cases e
    cases r with
    | cons r1 r =>
      cases r
      cases r1
      refine call_range_1 (q _ _ ρ (H.ext (push_keep _ _)) (Adv.ext (push_keep _ _)) (.rng fr (Heap.get?_push_size _ rfl)))
  · cases e
    cases r with
    | cons r1 r => cases r with
      | cons r2 r =>
        cases r
        cases r1; cases r2
        refine call_range_2 (q _ _ ρ (H.ext (push_keep _ _)) (Adv.ext (push_keep _ _)) (.rng fr (Heap.get?_push_size _ rfl)))
  · cases e

theorem strs_at {lay : Addr → List Str} {F : Addr → Prop} {ρ : List Addr} {h : Heap} : ∀ {ws : List V} {xs : List Value} {is : List Str}, VRs lay F ρ h ws xs → strsOf ws = some is → StrsAre xs is
  | [], _, _, r, e => by cases e; cases r; exact .nil
  | .str i :: ws, _, _, r, e => by
    simp only [strsOf] at e
    split at e
    · rename_i is e1
      cases e
      cases r with
      | cons r1 r2 => cases r1; exact .cons _ _ (strs_at r2 e1)
    · cases e
  | .none :: _, _, _, _, e | .bool _ :: _, _, _, _, e | .int _ :: _, _, _, _, e | .g _ :: _, _, _, _, e | .tup _ :: _, _, _, _, e | .lst _ :: _, _, _, _, e
  | .obj _ _ :: _, _, _, _, e | .inst _ _ :: _, _, _, _, e | .ref _ :: _, _, _, _, e | .rng _ _ :: _, _, _, _, e | .edict :: _, _, _, _, e => by cases e
theorem fn_str : FnOk c (k + 1) (fun xs => call (.type "str") xs) strF := by
  intro A s F ρ σ vs xs v σ' Q E hA H r e q
  unfold strF at e
  split at e
  · rename_i i
    split at e
    · rename_i hi
      cases e
      have hi := of_decide_eq_true hi
      cases r with
      | cons r1 r =>
        cases r; cases r1
        refine PySem.P.str_of_int ?_ (q _ _ ρ H .toks .str)
        rcases Nat.eq_zero_or_pos i.natAbs with z | z
        · rw [z]; decide
        · exact (Nat.log2_lt (by omega)).mpr (Nat.lt_of_lt_of_le (m := 2 ^ 64) (by omega) (Nat.pow_le_pow_right (by decide) (by decide)))
    · cases e
  · cases e
theorem fn_typ : FnOk c k (fun xs => call (.type "type") xs) typF := by
  intro A s F ρ σ vs xs v σ' Q E hA H r e q
  unfold typF at e
  split at e
  · cases e
    cases r with
    | cons r1 r =>
      cases r; cases r1
      exact call_type_of (Tx := "str") (typeIs_str _ _ _) (by decide) (q _ _ ρ H .refl .g)
  · split at e
    · rename_i ws ew
      cases e
      cases r with
      | cons r1 r =>
        cases r
        obtain ⟨a, items, hx, hp, rs⟩ := list_at H r1 ew
        cases hx
        exact call_type_of hp.isList.typeIs (by decide) (q _ _ ρ H .refl .g)
    · cases e
  · cases e
theorem VR.isN {lay : Addr → List Str} {F : Addr → Prop} {ρ : List Addr} {h : Heap} {v : V} {x : Value} {b : Bool} (r : VR lay F ρ h v x) (e : isN v = some b) : (x == .none) = b := by
  unfold Mine.isN at e
  split at e <;> cases e <;> cases r <;> rfl
theorem VR.noneI {lay : Addr → List Str} {F : Addr → Prop} {ρ : List Addr} {h : Heap} {x : Value} (r : VR lay F ρ h .none x) : x = .none := by cases r; rfl
theorem VR.gI {lay : Addr → List Str} {F : Addr → Prop} {ρ : List Addr} {h : Heap} {x v : Value} (r : VR lay F ρ h (.g v) x) : x = v := by cases r; rfl
theorem VRs.twoI {lay : Addr → List Str} {F : Addr → Prop} {ρ : List Addr} {h : Heap} {v w : V} {xs : List Value} (r : VRs lay F ρ h [v, w] xs) : ∃ x y, xs = [x, y] ∧ VR lay F ρ h v x ∧ VR lay F ρ h w y := by
  cases r with | cons a r => cases r with | cons b r => cases r; exact ⟨_, _, rfl, a, b⟩
theorem type_beq (a b : String) : ((Value.type a == Value.type b) : Bool) = decide (a = b) := by
  by_cases h : a = b
  · subst h; simp
  · have : (Value.type a == Value.type b) = false := beq_eq_false_iff_ne.mpr fun z => h (by cases z; rfl)
    rw [this, decide_eq_false h]
theorem isB_none {m : Model} {A : Around} {Q : Value → Shared → Prop} {E : Value → Shared → Prop} {s : Shared} (n : Bool) {v : Value} (h : Q (.bool (n != (v == .none))) s) : wpAny m A (compareOp (if n then .IsNot else .Is) v .none) Q E s := by
  cases n
  · exact is_none (by rw [Bool.false_bne] at h; exact h)
  · exact isNot_none (by rw [Bool.true_bne] at h; exact h)
theorem isB_type {m : Model} {A : Around} {Q : Value → Shared → Prop} {E : Value → Shared → Prop} {s : Shared} (n : Bool) {a b : String} (h : Q (.bool (n != decide (a = b))) s) : wpAny m A (compareOp (if n then .IsNot else .Is) (.type a) (.type b)) Q E s := by
  rw [← type_beq] at h
  cases n
  · exact wpAny_is_plain rfl (by rw [Bool.false_bne] at h; exact h)
  · exact wpAny_isNot_plain rfl (by rw [Bool.true_bne] at h; exact h)
theorem fn_isB (n : Bool) : FnOk c k (two (compareOp (if n then .IsNot else .Is))) (isF n) := by
  intro A s F ρ σ vs xs v σ' Q E hA H r e q
  unfold isF at e
  split at e
  · split at e
    · rename_i eb
      cases e
      obtain ⟨x, y, rfl, r1, r2⟩ := r.twoI
      have := r1.isN eb
      subst this
      have := r2.noneI
      subst this
      exact isB_none n (q _ _ ρ H .refl .bool)
    · cases e
  · cases e
    obtain ⟨x, y, rfl, r1, r2⟩ := r.twoI
    have := r1.gI
    subst this
    have := r2.gI
    subst this
    exact isB_type n (q _ _ ρ H .refl .bool)
  · cases e
theorem fn_is : FnOk c k (two (compareOp .Is)) (isF false) := fn_isB false
theorem fn_isNot : FnOk c k (two (compareOp .IsNot)) (isF true) := fn_isB true
theorem fn_in : FnOk c k (two (compareOp .In)) (inF false) := by
  intro A s F ρ σ vs xs v σ' Q E hA H r e q
  unfold inF at e
  split at e
  · cases e
    cases r with
    | cons r1 r => cases r with
      | cons r2 r =>
        cases r1; cases r2
        exact SB.contains (by have := q _ s ρ H .refl .bool; simp only [Bool.false_bne] at this; exact this)
  · cases e
theorem fn_notIn : FnOk c k (two (compareOp .NotIn)) (inF true) := by
  intro A s F ρ σ vs xs v σ' Q E hA H r e q
  unfold inF at e
  split at e
  · cases e
    cases r with
    | cons r1 r => cases r with
      | cons r2 r =>
        cases r1; cases r2
        exact SB.notContains (by have := q _ s ρ H .refl .bool; simp only [Bool.true_bne] at this; exact this)
  · cases e
end
end Mine
namespace Mine
open PySem PySem.Spec PySem.Calls PyProof.Rows PySem.W

section
variable {lay : Addr → List Str} {F : Addr → Prop} {h₀ : Heap} {ρ : List Addr} {σ : Hp} {s : Shared}
theorem list_upd (H : HInv lay F h₀ ρ σ s.heap) {n : Nat} {a : Addr} {vs ws : List V} {items : Array Value} {h' : Heap} {tk : Nat} (hn : ρ[n]? = some a) (hσ : σ[n]? = some (.lst vs)) (hs : Heap.SameBut a s.heap h') (hp : h'.PlainList a items) (rs : VRs lay F ρ s.heap ws items.toList) :
    HInv lay F h₀ ρ (σ.set n (.lst ws)) h' ∧ Adv ρ σ s ρ (σ.set n (.lst ws)) { s with heap := h', toks := tk } NoW := by
  have he : ∃ o, h'.get? a = some o := let ⟨m, e⟩ := hp; ⟨_, e⟩
  exact ⟨H.upd hn hs he ⟨items, hp, rs.grow (Grow.upd hn hs)⟩, Adv.upd hn ⟨_, hσ, by simp⟩ hs he⟩
end

noncomputable def appF : SF := fun vs σ => match vs with
  | [.ref n, v] => (match σ[n]? with
    | some (.lst ws) => if Nat.ble ws.length lmax then some (.none, σ.set n (.lst (ws ++ [v]))) else none
    | _ => none)
  | _ => none
noncomputable def stI (fo fi : SE) : SA := fun v loc σ => match fo loc σ with
  | some (.ref n, σ₁) => (match fi loc σ₁ with
    | some (.int i, σ₂) => (match σ₂[n]? with
      | some (.lst ws) => if okI i && decide (0 ≤ i) && decide (i < ws.length) then some (loc, σ₂.set n (.lst (ws.set i.toNat v))) else none
      | _ => none)
    | _ => none)
  | _ => none
noncomputable def stSl (fo : SE) : SA := fun v loc σ => match fo loc σ with
  | some (.ref n, σ₁) => (match v with
    | .lst vs => (match σ₁[n]? with
      | some (.lst ws) => if Nat.ble (ws.length + vs.length) lmax then some (loc, σ₁.set n (.lst vs)) else none
      | _ => none)
    | _ => none)
  | _ => none

section
variable {c : Cx} {k : Nat} {vars : List (Nat × Str)} {sc : Scope}

theorem fn_app : FnOk c k (fun xs => call (.builtin "list.append") xs) appF := by
  intro A s F ρ σ vs xs v σ' Q E hA H r e q
  unfold appF at e
  split at e
  · rename_i n w
    split at e
    · rename_i ws ew
      split at e
      · rename_i hz
        cases e
        have hz := Nat.le_of_ble_eq_true hz
        unfold lmax at hz
        cases r with
        | cons r1 r => cases r with
          | cons r2 r =>
            cases r
            cases r1 with
            | ref hn =>
              obtain ⟨items, hp, rs⟩ := H.objs _ _ _ ew hn
              have l := rs.length
              simp at l
              refine wpAny_list_append_plain hp (fun h' hp' hs => ?_) (by rw [sizeLine_eq]; omega)
              obtain ⟨H', A'⟩ := list_upd (tk := s.toks) (ws := ws ++ [w]) H hn ew hs hp' (by rw [Array.toList_push]; exact rs.append (.cons r2 .nil))
              exact q _ _ ρ H' A' .none
      · cases e
    · cases e
  · cases e

theorem set_toList {items : Array Value} {i : Nat} {x : Value} : (items.setIfInBounds i x).toList = items.toList.set i x := by simp

theorem den_subA {o i : Expr} {pos : Pos} {fo fi : SE} (ho : DenE c k vars sc o fo) (hi : DenE c k vars sc i fi) : DenA c k vars sc (.Subscript o i pos) (stI fo fi) := by
  intro env A s F ρ loc σ v x loc' σ' Q E hs hA H I r e q
  unfold stI at e
  split at e
  · rename_i n σ₁ e1
    split at e
    · rename_i j σ₂ e2
      split at e
      · rename_i ws ew
        split at e
        · rename_i hb
          simp only [Bool.and_eq_true, decide_eq_true_eq] at hb
          obtain ⟨⟨b1, b2⟩, b3⟩ := hb
          have b1 := of_decide_eq_true b1
          cases e
          rw [assign_Subscript]
          refine wpAny_bind (wpAny_holding (ho env A s F ρ loc σ _ σ₁ _ _ hs hA H I e1 fun y s₁ ρ₁ H₁ A₁ r₁ => wpAny_bind (wpAny_holding ?_)))
          refine hi env A s₁ F ρ₁ loc σ₁ _ σ₂ _ _ hs hA H₁ (I.adv H A₁) e2 fun z s₂ ρ₂ H₂ A₂ r₂ => wpAny_bind (wpAny_standAt (wpAny_bind (wpAny_holding ?_)))
          have r₁' := r₁.adv H₁ A₂
          have rv := (r.adv H A₁).adv H₁ A₂
          have I₂ := (I.adv H A₁).adv H₁ A₂
          cases r₂ with
          | @int _ t =>
          cases r₁' with
          | @ref a _ hn =>
            obtain ⟨items, ⟨m, hp⟩, rs⟩ := H₂.objs _ _ _ ew hn
            have l := rs.length
            simp at l
            refine ki_setAt (n := m) (k := j) hp b2 (by omega) (by omega) ?_
            have hfin : (s₂.heap.update a (Obj.mapSeq (·.setIfInBounds j.toNat x))).PlainList a (items.setIfInBounds j.toNat x) := ⟨_, PySem.IsL.update hp _⟩
            obtain ⟨H₃, A₃⟩ := list_upd (tk := s₂.toks) (ws := ws.set j.toNat v) H₂ hn ew (Heap.SameBut.update ..) hfin (by rw [set_toList]; exact rs.set _ rv)
            exact fun Γ p _ => (Sem.wp_release _ _ _ _ _ _ _ _).mpr (q _ ρ₂ H₃ (I₂.adv H₂ A₃) (((A₁.trans H.len H₁.len A₂).trans H.len H₂.len A₃)).ofE)
        · cases e
      · cases e
    · cases e
  · cases e

theorem set_slice {prog : Program} {w : World} {A : Around} {E : Value → Shared → Prop} {s : Shared} {Q : Unit → Shared → Prop} {l sl b : Addr} {items items2 : Array Value} {n n2 : Nat} (hl : s.heap.get? l = some { cls := .type "list", dict := none, data := .seq items n, slots := #[] }) (hs : s.heap.IsSliceOf sl .none .none .none)
    (hb : s.heap.get? b = some { cls := .type "list", dict := none, data := .seq items2 n2, slots := #[] }) (hne : l ≠ b) (hsz : items.size + items2.size ≤ 1000000)
    (q : ∀ h', h'.PlainList l items2 → Heap.SameBut l s.heap h' → Q () { s with heap := h' }) : wpAny (model prog w) A (setItem (.ref l) (.ref sl) (.ref b)) Q E s := by
  obtain ⟨os, hos, hcs, hds⟩ := id hs
  have hTs : s.TypeIs (.ref sl) "slice" := ⟨os, hos, hcs⟩
  have hL : s.heap.IsList l items := ⟨_, hl, rfl, _, rfl⟩
  have hB : s.heap.IsList b items2 := ⟨_, hb, rfl, _, rfl⟩
  unfold setItem
  try with_reducible refine wpAny_holding ?_
  first | refine wpAny_bind (wpAny_pure ?_) | skip
  refine wpAny_bind (wpAny_sequenceKey hL.typeIs (by decide) ?_)
  refine wpAny_bind (wpAny_callSpecial?_slot (name := Str.ofString "__setitem__") hL.typeIs slot_list_setitem
    (wpAny_call_entry slot_list_setitem hL.typeIs entry_list_setitem ?_ (args_list_setitem _ _ _)))
  show wpAny _ _ (Builtin.List.listSubscript? (.ref sl) >>= _) _ _ s
  refine wpAny_bind ?_
  unfold Builtin.List.listSubscript?
  refine wpAny_bind (wpAny_specialOf hTs slice_no_index ?_)
  simp only [Option.isNone_none, if_true]
  refine wpAny_pure ?_
  show wpAny _ _ (typeOf (.ref sl) >>= _) _ _ s
  refine wpAny_bind (wpAny_typeOf hTs ?_)
  rw [if_neg (by decide)]
  rw [listSliceParts_eq]
  refine wpAny_bind (wpAny_bind (wpAny_field hos hds (x := .none) rfl (wpAny_bind (wpAny_listPart .none ?_))))
  rw [if_neg (by decide)]
  refine wpAny_bind (wpAny_field hos hds (x := .none) rfl (wpAny_bind (wpAny_listPart .none ?_)))
  refine wpAny_bind (wpAny_field hos hds (x := .none) rfl (wpAny_bind (wpAny_listPart .none (wpAny_pure ?_))))
  rw [if_neg (show ¬ (Builtin.List.listSameRef (.ref l) (.ref b) = true) from fun h => hne (eq_of_beq h))]
  refine wpAny_bind ?_
  unfold Builtin.List.listAllItems
  refine wpAny_bind (wpAny_typeOf hB.typeIs ?_)
  rw [if_pos (by decide)]
  refine wpAny_listItems hb rfl ?_
  refine wpAny_bind (wpAny_listItems hl rfl ?_)
  refine wpAny_bind (wpAny_of_eq (sliceIndices_raw none none none items.size (by simp)) ?_)
  have e1 : (sliceBounds none none none items.size) = (0, (items.size : Int), 1) := by simp [sliceBounds]
  rw [e1]
  rw [if_pos (show ((1 : Int) == 1) = true from rfl)]
  refine wpAny_bind (wpAny_rule ?_)
  rw [if_neg (by simp [Builtin.List.listTooLong, sizeLine]; omega)]
  have hf : items.extract 0 (0 : Int).toNat ++ items2 ++ items.extract (max (0 : Int) (items.size : Int)).toNat = items2 := by
    have : (max (0 : Int) (items.size : Int)).toNat = items.size := by omega
    rw [this]; simp
  refine wpAny_bind (listUpdate_at hl rfl ?_ (by rw [sizeLine_eq]; omega) (by show (items.extract 0 (0 : Int).toNat ++ items2 ++ items.extract (max (0 : Int) (items.size : Int)).toNat).size ≤ _; rw [hf, sizeLine_eq]; omega))
  refine wpAny_bind (wpAny_letGo ?_)
  have hfin := PySem.IsL.update hl (fun xs : Array Value => xs.extract 0 (0 : Int).toNat ++ items2 ++ xs.extract (max (0 : Int) (items.size : Int)).toNat)
  rw [hf] at hfin
  exact wpAny_pure ⟨.none, rfl, wpAny_pure (q _ ⟨_, hfin⟩ (Heap.SameBut.update ..))⟩

theorem den_slA {o : Expr} {p pos : Pos} {fo : SE} (ho : DenE c k vars sc o fo) : DenA c k vars sc (.Subscript o (.Slice none none none p) pos) (stSl fo) := by
  intro env A s F ρ loc σ v x loc' σ' Q E hs hA H I r e q
  unfold stSl at e
  split at e
  · rename_i n σ₁ e1
    split at e
    · rename_i vs
      split at e
      · rename_i ws ew
        split at e
        · rename_i hb
          have hb := Nat.le_of_ble_eq_true hb
          unfold lmax at hb
          cases e
          rw [assign_Subscript]
          refine wpAny_bind (wpAny_holding (ho env A s F ρ loc σ _ σ₁ _ _ hs hA H I e1 fun y s₁ ρ₁ H₁ A₁ r₁ => wpAny_bind (wpAny_holding ?_)))
          refine wpAny_Slice ?_
          rw [evalPart_none]
          refine wpAny_pure (wpAny_pure (wpAny_pure (wpAny_bind (wpAny_standAt (wpAny_bind (wpAny_holding ?_))))))
          have hk := push_keep s₁.heap { cls := .type "slice", data := .fields #[.none, .none, .none] }
          have A₂ : Adv ρ₁ σ₁ s₁ ρ₁ σ₁ { s₁ with heap := s₁.heap.push { cls := .type "slice", data := .fields #[.none, .none, .none] } } NoW := Adv.ext hk
          have H₂ : HInv c.lay F c.h₀ ρ₁ σ₁ (s₁.heap.push { cls := .type "slice", data := .fields #[.none, .none, .none] }) := H₁.ext hk
          have r₁' := r₁.adv H₁ A₂
          have rv := (r.adv H A₁).adv H₁ A₂
          have I₂ := (I.adv H A₁).adv H₁ A₂
          cases r₁' with
          | @ref a _ hn =>
            obtain ⟨items, ⟨m, hp⟩, rs⟩ := H₂.objs _ _ _ ew hn
            have l := rs.length
            cases rv with
            | @lst _ b items2 fb hpb rsb =>
              obtain ⟨m2, hpb⟩ := hpb
              have l2 := rsb.length
              simp at l l2
              refine set_slice hp (.new _ _ _ _) hpb (fun z => fb.2 (z ▸ List.mem_of_getElem? hn)) (by omega) fun h' hp' hs' => ?_
              obtain ⟨H₃, A₃⟩ := list_upd (s := { s₁ with heap := s₁.heap.push { cls := .type "slice", data := .fields #[.none, .none, .none] } }) (tk := s₁.toks) (ws := vs) H₂ hn ew hs' hp' rsb
              exact fun Γ p _ => (Sem.wp_release _ _ _ _ _ _ _ _).mpr (q _ ρ₁ H₃ (I₂.adv H₂ A₃) (((A₁.trans H.len H₁.len A₂).trans H.len H₂.len A₃)).ofE)
        · cases e
      · cases e
    · cases e
  · cases e

theorem set_K {M : Model} {A : Around} {E : Value → Shared → Prop} {s : Shared} {K : Frag} {x C f : Addr} {ox : Obj} {od : Option Obj} {i v : Value} {Q : Unit → Shared → Prop} (X : K.In s.heap) (I : InstAt s.heap x ox C od) (hq : noSeq K C = true) (hs : findIn K (.ref C) "__setitem__" = some (some (.ref f))) (hf : isFn K (.ref f) = true)
    (h : wpAny M A (call (.ref f) [.ref x, i, v]) (fun _ s' => Q () s') E s) : wpAny M A (setItem (.ref x) i v) Q E s := by
  unfold setItem sequenceKey
  refine wpAny_holding (wpAny_bind (wpAny_bind (I.type.here ?_)))
  refine wpAny_bind ((anyM_none X hq).here ?_)
  rw [if_pos (show (!false) = true from rfl)]
  exact wpAny_pure (wpAny_bind (special_fn X I hs (beq_iff_eq.mp hf) (wpAny_mono h (fun _ _ z => wpAny_pure z) fun _ _ z => z)))
theorem del_K {M : Model} {A : Around} {E : Value → Shared → Prop} {s : Shared} {K : Frag} {x C f : Addr} {ox : Obj} {od : Option Obj} {i : Value} {Q : Unit → Shared → Prop} (X : K.In s.heap) (I : InstAt s.heap x ox C od) (hq : noSeq K C = true) (hs : findIn K (.ref C) "__delitem__" = some (some (.ref f))) (hf : isFn K (.ref f) = true)
    (h : wpAny M A (call (.ref f) [.ref x, i]) (fun _ s' => Q () s') E s) : wpAny M A (delItem (.ref x) i) Q E s := by
  unfold delItem sequenceKey
  refine wpAny_holding (wpAny_bind (wpAny_bind (I.type.here ?_)))
  refine wpAny_bind ((anyM_none X hq).here ?_)
  rw [if_pos (show (!false) = true from rfl)]
  exact wpAny_pure (wpAny_bind (special_fn X I hs (beq_iff_eq.mp hf) (wpAny_mono h (fun _ _ z => wpAny_pure z) fun _ _ z => z)))

noncomputable def stM (C : Addr) (F₁ : SF) (fo fi : SE) : SA := fun v loc σ => match fo loc σ with
  | some (a, σ₁) => (match fi loc σ₁ with
    | some (b, σ₂) => if chkI C σ₂ a then (match F₁ [a, b, v] σ₂ with
      | some (_, σ₃) => some (loc, σ₃)
      | none => none) else none
    | none => none)
  | none => none
theorem chkI_at {lay : Addr → List Str} {F : Addr → Prop} {h₀ : Heap} {ρ : List Addr} {σ : Hp} {h : Heap} {C : Addr} {v : V} {x : Value} (H : HInv lay F h₀ ρ σ h) (r : VR lay F ρ h v x) (hc : chkI C σ v = true) : ∃ a dx od, x = .ref a ∧ PySem.W.InstAt h a (instObj C dx) C (some od) := by
  unfold chkI at hc
  split at hc
  · rename_i C' vs ea
    have := Nat.eq_of_beq_eq_true hc
    subst this
    obtain ⟨a, dx, m, xs, rfl, hia, hns, hm, rs⟩ := inst_at H r ea
    obtain ⟨od, hod, hlk⟩ := lookIn_ns (Heap.Ns1.ns hns)
    exact ⟨a, dx, od, rfl, InstAt.ofNs hia hod⟩
  · cases hc
theorem den_setM (O : c.Ok) {C f : Addr} {F₁ : SF} {o i : Expr} {pos : Pos} {fo fi : SE} (ho : DenE c k vars sc o fo) (hi : DenE c k vars sc i fi) (hq : noSeq c.K C = true) (hs' : findIn c.K (.ref C) "__setitem__" = some (some (.ref f))) (hf : isFn c.K (.ref f) = true)
    (hF : FnOk c k (fun xs => call (.ref f) xs) F₁) : DenA c k vars sc (.Subscript o i pos) (stM C F₁ fo fi) := by
  intro env A s F ρ loc σ v x loc' σ' Q E hs hA H I r e q
  unfold stM at e
  split at e
  · rename_i a σ₁ e1
    split at e
    · rename_i b σ₂ e2
      split at e
      · rename_i hc
        split at e
        · rename_i w σ₃ e3
          cases e
          rw [assign_Subscript]
          refine wpAny_bind (wpAny_holding (ho env A s F ρ loc σ _ σ₁ _ _ hs hA H I e1 fun y s₁ ρ₁ H₁ A₁ r₁ => wpAny_bind (wpAny_holding ?_)))
          refine hi env A s₁ F ρ₁ loc σ₁ _ σ₂ _ _ hs hA H₁ (I.adv H A₁) e2 fun z s₂ ρ₂ H₂ A₂ r₂ => wpAny_bind (wpAny_standAt (wpAny_bind (wpAny_holding ?_)))
          have r₁' := r₁.adv H₁ A₂
          have rv := (r.adv H A₁).adv H₁ A₂
          have I₂ := (I.adv H A₁).adv H₁ A₂
          obtain ⟨ad, dx, od, rfl, IA⟩ := chkI_at H₂ r₁' hc
          refine set_K (O.atK H₂) IA hq hs' hf ?_
          refine hF A s₂ F ρ₂ σ₂ [a, b, v] [.ref ad, z, x] w σ' _ _ hA H₂ (.cons r₁' (.cons r₂ (.cons rv .nil))) e3 fun u s₃ ρ₃ H₃ A₃ r₃ => ?_
          exact fun Γ p _ => (Sem.wp_release _ _ _ _ _ _ _ _).mpr (q _ ρ₃ H₃ (I₂.adv H₂ A₃) (((A₁.trans H.len H₁.len A₂).trans H.len H₂.len A₃)).ofE)
        · cases e
      · cases e
    · cases e
  · cases e
noncomputable def delS (C : Addr) (F₁ : SF) (fo fi : SE) : SS := fun loc σ => match fo loc σ with
  | some (a, σ₁) => (match fi loc σ₁ with
    | some (b, σ₂) => if chkI C σ₂ a then (match F₁ [a, b] σ₂ with
      | some (_, σ₃) => some (.next, loc, σ₃)
      | none => none) else none
    | none => none)
  | none => none
theorem den_del (O : c.Ok) {C f : Addr} {F₁ : SF} {o i : Expr} {pos spos : Pos} {fo fi : SE} (ho : DenE c k vars sc o fo) (hi : DenE c k vars sc i fi) (hq : noSeq c.K C = true) (hs' : findIn c.K (.ref C) "__delitem__" = some (some (.ref f))) (hf : isFn c.K (.ref f) = true)
    (hF : FnOk c k (fun xs => call (.ref f) xs) F₁) : DenS c k vars sc (.Delete [.Subscript o i pos] spos) (delS C F₁ fo fi) := by
  intro env A s F ρ loc σ fl loc' σ' Q E hs hA H I e q
  unfold delS at e
  split at e
  · rename_i a σ₁ e1
    split at e
    · rename_i b σ₂ e2
      split at e
      · rename_i hc
        split at e
        · rename_i w σ₃ e3
          cases e
          refine wpAny_Delete ?_
          have key : wpAny (model c.prog c.w) A (delete (.Subscript o i pos) env) (fun _ s₁ => Q .next s₁) E s := by
            refine wpAny_delete_Subscript (ho env A s F ρ loc σ _ σ₁ _ _ hs.1 hA H I e1 fun y s₁ ρ₁ H₁ A₁ r₁ => ?_)
            refine hi env A s₁ F ρ₁ loc σ₁ _ σ₂ _ _ hs.1 hA H₁ (I.adv H A₁) e2 fun z s₂ ρ₂ H₂ A₂ r₂ => ?_
            have r₁' := r₁.adv H₁ A₂
            have I₂ := (I.adv H A₁).adv H₁ A₂
            obtain ⟨ad, dx, od, rfl, IA⟩ := chkI_at H₂ r₁' hc
            refine del_K (O.atK H₂) IA hq hs' hf ?_
            refine hF A s₂ F ρ₂ σ₂ [a, b] [.ref ad, z] w σ' _ _ hA H₂ (.cons r₁' (.cons r₂ .nil)) e3 fun u s₃ ρ₃ H₃ A₃ r₃ => ?_
            exact q .next _ ρ₃ H₃ (I₂.adv H₂ A₃) (((A₁.trans H.len H₁.len A₂).trans H.len H₂.len A₃)).ofE .next
          exact wpAny_bind (wpAny_mono key (fun _ _ h => wpAny_pure h) fun _ _ h => h)
        · cases e
      · cases e
    · cases e
  · cases e

theorem inter_false {env : Env} (hk : env.scope.kind = .function) : interactive env = false := by unfold interactive; rw [hk]; rfl
theorem den_expr {e₀ : Expr} {pos : Pos} {f : SE} (hv : DenE c k vars sc e₀ f) (hs : ∀ env : Env, swapsWith e₀ none pos.line env = pure false) : DenS c k vars sc (.Expr e₀ pos) (exprS f) := by
  intro env A s F ρ loc σ fl loc' σ' Q E hsc hA H I e q
  unfold exprS at e
  split at e
  · rename_i v σ₁ e1
    cases e
    exact wpAny_Expr_any (hv env A s F ρ loc σ v σ' _ _ hsc.1 hA H I e1 fun y s₁ ρ₁ H₁ A₁ r => q .next s₁ ρ₁ H₁ (I.adv H A₁) A₁.ofE .next) (inter_false I.kind) (hs env)
  · cases e
noncomputable def asgT (t : SA) (f : SE) : SS := fun loc σ => match f loc σ with
  | some (v, σ₁) => (match t v loc σ₁ with
    | some (loc', σ') => some (.next, loc', σ')
    | none => none)
  | none => none
theorem den_asgT {t value : Expr} {pos : Pos} {tg : SA} {f : SE} (hv : DenE c k vars sc value f) (ht : DenA c k vars sc t tg) (hst : starFree [t] = true) (hs : ∀ env : Env, env.scope = sc → swapsWithSole [t] value pos.line env = pure false) (hw : ∀ env : Env, env.scope = sc → swappedStores [t] value env = pure none) : DenS c k vars sc (.Assign [t] value pos) (asgT tg f) := by
  intro env A s F ρ loc σ fl loc' σ' Q E hsc hA H I e q
  unfold asgT at e
  split at e
  · rename_i v σ₁ e1
    split at e
    · rename_i l₂ σ₂ e2
      cases e
      refine wpAny_Assign_stores (hv env A s F ρ loc σ v σ₁ _ _ hsc.1 hA H I e1 fun y s₁ ρ₁ H₁ A₁ r => ?_) (hs env hsc.1) (hw env hsc.1)
      have he : assignEach [t] env = [(false, assign t env)] := by cases t <;> first | rfl | cases hst
      rw [he]
      exact ht env A s₁ F ρ₁ loc σ₁ v y loc' σ' _ _ hsc.1 hA H₁ (I.adv H A₁) r e2 fun s₂ ρ₂ H₂ I₂ A₂ => q .next s₂ ρ₂ H₂ I₂ (A₁.ofE.trans H.len H₁.len A₂) .next
    · cases e
  · cases e
noncomputable def asg3 (t₁ t₂ t₃ : SA) (f : SE) : SS := fun loc σ => match f loc σ with
  | some (v, σ₁) => (match t₁ v loc σ₁ with
    | some (l₂, σ₂) => (match t₂ v l₂ σ₂ with
      | some (l₃, σ₃) => (match t₃ v l₃ σ₃ with
        | some (l₄, σ₄) => some (.next, l₄, σ₄)
        | none => none)
      | none => none)
    | none => none)
  | none => none
theorem den_asg3 {t₁ t₂ t₃ value : Expr} {pos : Pos} {g₁ g₂ g₃ : SA} {f : SE} (hv : DenE c k vars sc value f) (h₁ : DenA c k vars sc t₁ g₁) (h₂ : DenA c k vars sc t₂ g₂) (h₃ : DenA c k vars sc t₃ g₃) (he : ∀ env : Env, (assignEach [t₁, t₂, t₃] env).map (·.2) = [assign t₁ env, assign t₂ env, assign t₃ env]) (hw : ∀ env : Env, swappedStores [t₁, t₂, t₃] value env = pure none) :
    DenS c k vars sc (.Assign [t₁, t₂, t₃] value pos) (asg3 g₁ g₂ g₃ f) := by
  intro env A s F ρ loc σ fl loc' σ' Q E hsc hA H I e q
  unfold asg3 at e
  split at e
  · rename_i v σ₁ e1
    split at e
    · rename_i l₂ σ₂ e2
      split at e
      · rename_i l₃ σ₃ e3
        split at e
        · rename_i l₄ σ₄ e4
          cases e
          refine wpAny_Assign_three (hv env A s F ρ loc σ v σ₁ _ _ hsc.1 hA H I e1 fun y s₁ ρ₁ H₁ A₁ r => ?_) (he env) (hw env)
          have I₁ := I.adv H A₁
          refine h₁ env A s₁ F ρ₁ loc σ₁ v y l₂ σ₂ _ _ hsc.1 hA H₁ I₁ r e2 fun s₂ ρ₂ H₂ I₂ A₂ => ?_
          have r2 := r.grow (A₂.grow H₁ I₁.ownF)
          refine h₂ env A s₂ F ρ₂ l₂ σ₂ v y l₃ σ₃ _ _ hsc.1 hA H₂ I₂ r2 e3 fun s₃ ρ₃ H₃ I₃ A₃ => ?_
          have r3 := r2.grow (A₃.grow H₂ I₂.ownF)
          exact h₃ env A s₃ F ρ₃ l₃ σ₃ v y loc' σ' _ _ hsc.1 hA H₃ I₃ r3 e4 fun s₄ ρ₄ H₄ I₄ A₄ => q .next s₄ ρ₄ H₄ I₄ (((A₁.ofE.trans H.len H₁.len A₂).trans H.len H₂.len A₃).trans H.len H₃.len A₄) .next
        · cases e
      · cases e
    · cases e
  · cases e

theorem VRs.rev {lay : Addr → List Str} {F : Addr → Prop} {ρ : List Addr} {h : Heap} : ∀ {vs : List V} {xs : List Value}, VRs lay F ρ h vs xs → VRs lay F ρ h vs.reverse xs.reverse
  | _, _, .nil => .nil
  | _, _, .cons a b => by rw [List.reverse_cons, List.reverse_cons]; exact (VRs.rev b).append (.cons a .nil)
noncomputable def setL : List Nat → List V → Loc → Option Loc
  | [], [], loc => some loc
  | i :: is, v :: vs, loc => if i < loc.length then setL is vs (loc.set i (some v)) else none
  | _, _, _ => none
noncomputable def swpS (is : List Nat) (f : SE) : SS := fun loc σ => match f loc σ with
  | some (.tup vs, σ₁) => if Nat.beq vs.length is.length then (match setL is.reverse vs.reverse loc with
    | some loc' => some (.next, loc', σ₁)
    | none => none) else none
  | _ => none
theorem set_names {env : Env} {A : Around} {F : Addr → Prop} {h₀ : Heap} {σ : Hp} {lay : Addr → List Str} {M : Model} {ρ : List Addr} : ∀ (ps : List (Nat × Str)) (vs : List V) (xs : List Value) (loc loc' : Loc) (s : Shared) (Q : Unit → Shared → Prop) (E : Value → Shared → Prop), (∀ p ∈ ps, p ∈ vars) → HInv lay F h₀ ρ σ s.heap → FrI lay vars F ρ env loc s.heap → VRs lay F ρ s.heap vs xs →
    setL (ps.map (·.1)) vs loc = some loc' → (∀ s', HInv lay F h₀ ρ σ s'.heap → FrI lay vars F ρ env loc' s'.heap → Adv ρ σ s ρ σ s' (OwnW env) → Q () s') → wpAny M A (assignInOrder ((ps.map (·.2)).map fun n => bindName env n) xs) Q E s
  | [], vs, xs, loc, loc', s, Q, E, _, H, I, r, e, q => by
    cases vs with
    | nil => cases e; cases r; exact wpAny_pure (q s H I .refl)
    | cons => cases e
  | (i, n) :: ps, vs, xs, loc, loc', s, Q, E, hm, H, I, r, e, q => by
    cases vs with
    | nil => cases e
    | cons v vs =>
      cases r with
      | @cons _ _ x xs r rs =>
        simp only [List.map_cons, setL] at e
        split at e
        · rename_i hi
          refine wpAny_assignInOrder_more (wpAny_bindName (store_var H I (hm _ List.mem_cons_self) hi r fun s₁ H₁ I₁ A₁ => ?_))
          exact set_names ps vs xs _ loc' s₁ Q E (fun p hp => hm p (List.mem_cons_of_mem _ hp)) H₁ I₁ (rs.grow (A₁.grow H I.ownF)) e fun s₂ H₂ I₂ A₂ => q s₂ H₂ I₂ (A₁.trans H.len H₁.len A₂)
        · cases e
theorem den_swap {elts : List Expr} {n : Nat} {tpos pos : Pos} {value : Expr} {f : SE} {is : List Nat} {names : List Str} (hv : DenE c k vars sc value f) (hm : ∀ p ∈ is.zip names, p ∈ vars) (hl : is.length = names.length)
    (hs : ∀ env : Env, env.scope = sc → swapsWithSole [.Tuple elts n tpos] value pos.line env = pure false) (hw : ∀ env : Env, env.scope = sc → swappedStores [.Tuple elts n tpos] value env = pure (some names)) :
    DenS c k vars sc (.Assign [.Tuple elts n tpos] value pos) (swpS is f) := by
  intro env A s F ρ loc σ fl loc' σ' Q E hsc hA H I e q
  unfold swpS at e
  split at e
  · rename_i vs σ₁ e1
    split at e
    · rename_i hn
      have hn := Nat.eq_of_beq_eq_true hn
      split at e
      · rename_i l₂ e2
        cases e
        refine Assign_Tuple_swapped (names := names) (hv env A s F ρ loc σ _ σ' _ _ hsc.1 hA H I e1 fun y s₁ ρ₁ H₁ A₁ r => ?_) (hs env hsc.1) (hw env hsc.1)
        cases r with
        | @tup _ a items fr ht rs =>
          have l := rs.length
          simp at l
          rw [show names.length = items.size by omega]
          refine wpAny_unpackItems_tuple hA.2.1 ht fun h' he => ?_
          have hk : ∀ b o, s₁.heap.get? b = some o → h'.get? b = some o := fun b o e => he b o (Nat.ne_of_lt (Heap.lt_size e)) e
          have A₂ : Adv ρ₁ σ' s₁ ρ₁ σ' { s₁ with heap := h' } NoW := Adv.ext hk
          have H₂ : HInv c.lay F c.h₀ ρ₁ σ' h' := H₁.ext hk
          have I₂ := (I.adv H A₁).adv H₁ A₂
          have rs' := rs.adv H₁ A₂
          have m1 : (is.zip names).reverse.map (·.1) = is.reverse := by rw [List.map_reverse, List.map_fst_zip (by omega)]
          have m2 : (is.zip names).reverse.map (·.2) = names.reverse := by rw [List.map_reverse, List.map_snd_zip (by omega)]
          rw [← m2]
          refine set_names (is.zip names).reverse vs.reverse items.toList.reverse loc loc' { s₁ with heap := h' } _ _ (fun p hp => hm p (List.mem_reverse.mp hp)) H₂ I₂ (VRs.rev rs') (by rw [m1]; exact e2) fun s₃ H₃ I₃ A₃ => ?_
          exact q .next s₃ ρ₁ H₃ I₃ ((A₁.trans H.len H₁.len A₂).ofE.trans H.len H₂.len A₃) .next
      · cases e
    · cases e
  · cases e
end
end Mine
namespace Mine
open PySem PySem.Spec PySem.Calls PyProof.Rows PySem.W
open PySem.Builtin PySem.Builtin.Str

noncomputable def lowF : SF := fun vs σ => match vs with
  | [.str x] => if Nat.ble (Txt.lower x).length smax then some (.str (Txt.lower x), σ) else none
  | _ => none
noncomputable def splF : SF := fun vs σ => match vs with
  | [.str x, .str y] => if Nat.ble x.length smax && !(y.length == 0) && Nat.ble (partsBetween x (occurrences x y 0 x.length (x.length + 1)) y.length).length lmax then some (.lst ((Txt.split x y).map .str), σ) else none
  | _ => none
noncomputable def joiF : SF := fun vs σ => match vs with
  | [.str x, v] => (match lstOf σ v with
    | some ws => (match strsOf ws with
      | some ss => if JoinOk x ss then some (.str (Txt.join x ss), σ) else none
      | none => none)
    | none => none)
  | _ => none
noncomputable def sort2 : List Str → Option (List Str)
  | [] => some []
  | [a] => some [a]
  | [a, b] => (match sortedS [a, b], sortedS [b, a] with
    | true, false => some [a, b]
    | false, true => some [b, a]
    | _, _ => if decide (a = b) then some [a, b] else none)
  | _ => none
noncomputable def sorF : SF := fun vs σ => match vs with
  | [v] => (match lstOf σ v with
    | some ws => (match strsOf ws with
      | some ss => (match sort2 ss with
        | some tt => some (.lst (tt.map .str), σ)
        | none => none)
      | none => none)
    | none => none)
  | _ => none

section
variable {c : Cx} {k : Nat} {vars : List (Nat × Str)} {sc : Scope}
theorem meth_lower : MethAt c "lower" (.builtin "str.lower") chkStr := meth_str fun q => GM.lower q
theorem meth_split : MethAt c "split" (.builtin "str.split") chkStr := meth_str fun q => GM.split q
theorem meth_join : MethAt c "join" (.builtin "str.join") chkStr := meth_str fun q => GM.join q
theorem fn_lower : FnOk c k (fun xs => call (.builtin "str.lower") xs) lowF := by
  intro A s F ρ σ vs xs v σ' Q E hA H r e q
  unfold lowF at e
  split at e
  · split at e
    · rename_i hz
      cases e
      have hz := Nat.le_of_ble_eq_true hz
      unfold smax at hz
      cases r with
      | cons r1 r =>
        cases r; cases r1
        exact SC.lower (decide_eq_false (by rw [sizeLine_eq]; omega)) (q _ _ ρ H .toks .str)
    · cases e
  · cases e
theorem split_plain {prog : Program} {w : World} {A : Around} {E Q : Value → Shared → Prop} {s : Shared} {x y : Str} {t u : Tok} (hy : (y.length == 0) = false) (hsz : x.length ≤ sizeLine) (hsz2 : (partsBetween x (occurrences x y 0 x.length (x.length + 1)) y.length).length ≤ sizeLine)
    (hq : ∀ l tk, l.map (·.1) = Txt.split x y → Q (.ref s.heap.objs.size) { s with toks := tk, heap := s.heap.push { cls := .type "list", data := .seq (strValues l).toArray } }) :
    wpAny (model prog w) A (call (.builtin "str.split") [.str x t, .str y u]) Q E s := by
  cases h1 : (decide (x.length < y.length) || decide (PySem.Builtin.Str.strKind x < PySem.Builtin.Str.strKind y))
  · cases hf : (occurrences x y 0 x.length (x.length + 1)).isEmpty
    · refine call_meets PySem.F.slot_str_split (typeIs_str _ _ _) PySem.F.entry_str_split (PySem.F.args_str_split_2 _ _) (meets_str_split_sep x y t u h1 hy hf hsz hsz2) ?_
      show wants Q E _ { s with toks := _, heap := s.heap.push { cls := .type "list", data := .seq (strsFrom s.toks (partsBetween x (occurrences x y 0 x.length (x.length + 1)) y.length)).toArray } }
      rw [strsFrom_eq]
      exact hq (numbered s.toks _) _ ((numbered_texts _ _).trans ((if_neg (ne_true_of_eq_false h1)).trans (if_neg (ne_true_of_eq_false hf))).symm)
    · exact call_meets PySem.F.slot_str_split (typeIs_str _ _ _) PySem.F.entry_str_split (PySem.F.args_str_split_2 _ _) (meets_str_split_not_found x y t u h1 hy hf)
        (hq [(x, t)] _ ((if_neg (ne_true_of_eq_false h1)).trans (if_pos hf)).symm)
  · exact call_meets PySem.F.slot_str_split (typeIs_str _ _ _) PySem.F.entry_str_split (PySem.F.args_str_split_2 _ _) (meets_str_split_cannot_occur x y t u h1)
      (hq [(x, t)] _ (if_pos h1).symm)
theorem vrs_strs {lay : Addr → List Str} {F : Addr → Prop} {ρ : List Addr} {h : Heap} : ∀ (l : List (Str × Tok)), VRs lay F ρ h ((l.map (·.1)).map .str) (strValues l)
  | [] => .nil
  | (x, t) :: l => .cons .str (vrs_strs l)
theorem fn_split : FnOk c k (fun xs => call (.builtin "str.split") xs) splF := by
  intro A s F ρ σ vs xs v σ' Q E hA H r e q
  unfold splF at e
  split at e
  · rename_i x y
    split at e
    · rename_i hz
      simp only [Bool.and_eq_true, Bool.not_eq_true'] at hz
      obtain ⟨⟨h1, h2⟩, h3⟩ := hz
      have h1 := Nat.le_of_ble_eq_true h1
      have h3 := Nat.le_of_ble_eq_true h3
      unfold smax at h1
      unfold lmax at h3
      cases e
      cases r with
      | cons r1 r => cases r with
        | cons r2 r =>
          cases r; cases r1; cases r2
          refine split_plain h2 (by rw [sizeLine_eq]; omega) (by rw [sizeLine_eq]; omega) fun l tk hl => ?_
          obtain ⟨H₃, A₃, r₃⟩ := push_list (tk := tk) (items := (strValues l).toArray) H (h' := s.heap) (ws := (l.map (·.1)).map .str) (fun _ _ e => e) (by rw [List.toList_toArray]; exact vrs_strs l)
          rw [hl] at r₃
          exact q _ _ ρ H₃ A₃ r₃
    · cases e
  · cases e
theorem strsAre_vals {vs : List Value} {ys : List Str} (h : StrsAre vs ys) : ∃ l : List (Str × Tok), vs = strValues l ∧ l.map (·.1) = ys := by
  induction h with
  | nil => exact ⟨[], rfl, rfl⟩
  | cons y t _ ih => obtain ⟨l, rfl, rfl⟩ := ih; exact ⟨(y, t) :: l, rfl, rfl⟩
theorem fn_join : FnOk c k (fun xs => call (.builtin "str.join") xs) joiF := by
  intro A s F ρ σ vs xs v σ' Q E hA H r e q
  unfold joiF at e
  split at e
  · split at e
    · rename_i ws ew
      split at e
      · rename_i ss es
        split at e
        · rename_i hok
          cases e
          cases r with
          | cons r1 r => cases r with
            | cons r2 r =>
              cases r; cases r1
              obtain ⟨a, items, hx, hp, rs⟩ := list_at H r2 ew
              cases hx
              obtain ⟨l, hl, ht⟩ := strsAre_vals (strs_at rs es)
              have hit : items = (strValues l).toArray := by apply Array.toList_inj.mp; rw [hl]
              rw [hit] at hp
              exact SC.join hp.isList ht hok fun t' tk => q _ _ ρ H .toks .str
        · cases e
      · cases e
    · cases e
  · cases e

theorem perm_two {x y a b : Str} (h : [x, y].Perm [a, b]) : (x = a ∧ y = b) ∨ (x = b ∧ y = a) := by
  have hx : x = a ∨ x = b := by simpa using h.mem_iff.mp (List.mem_cons_self (a := x) (l := [y]))
  rcases hx with rfl | rfl
  · exact .inl ⟨rfl, by simpa using List.Perm.cons_inv h⟩
  · refine .inr ⟨rfl, ?_⟩
    have := List.Perm.cons_inv (h.trans (List.Perm.swap x a []))
    simpa using this
theorem sort2_is {ss tt out : List Str} (e : sort2 ss = some tt) (hp : out.Perm ss) (hs : sortedS out = true) : out = tt ∧ ss.length ≤ 2 := by
  unfold sort2 at e
  split at e
  · cases e; exact ⟨List.Perm.eq_nil hp, by simp⟩
  · cases e; exact ⟨List.perm_singleton.mp hp, by simp⟩
  · rename_i a b
    have hl := hp.length_eq
    match out, hl, hp, hs with
    | [x, y], _, hp, hs =>
      refine ⟨?_, by simp⟩
      split at e
      · rename_i h1 h2
        cases e
        rcases perm_two hp with ⟨rfl, rfl⟩ | ⟨rfl, rfl⟩
        · rfl
        · rw [h2] at hs; cases hs
      · rename_i h1 h2
        cases e
        rcases perm_two hp with ⟨rfl, rfl⟩ | ⟨rfl, rfl⟩
        · rw [h1] at hs; cases hs
        · rfl
      · split at e
        · rename_i hab
          have hab := of_decide_eq_true hab
          subst hab
          cases e
          rcases perm_two hp with ⟨rfl, rfl⟩ | ⟨rfl, rfl⟩ <;> rfl
        · cases e
  · cases e
theorem vrs_strsAre {lay : Addr → List Str} {F : Addr → Prop} {ρ : List Addr} {h : Heap} {xs : List Value} {ys : List Str} (r : StrsAre xs ys) : VRs lay F ρ h (ys.map .str) xs := by
  induction r with
  | nil => exact .nil
  | cons y t _ ih => exact .cons .str ih
theorem fn_sorted : FnOk c k (fun xs => call (.builtin "sorted") xs) sorF := by
  intro A s F ρ σ vs xs v σ' Q E hA H r e q
  unfold sorF at e
  split at e
  · split at e
    · rename_i ws ew
      split at e
      · rename_i ss es
        split at e
        · rename_i tt et
          cases e
          cases r with
          | cons r1 r =>
            cases r
            obtain ⟨a, items, hx, hp, rs⟩ := list_at H r1 ew
            cases hx
            have hS := strs_at rs es
            have hl64 : items.toList.length < 64 := by
              have h1 : items.toList.length = ss.length := by
                obtain ⟨l, hl, ht⟩ := strsAre_vals hS
                rw [hl, ← ht]; simp [strValues]
              have h2 : ss.length ≤ 2 := by
                unfold sort2 at et
                split at et <;> first | simp | cases et
              omega
            refine sorted_strs (vs := items.toList) (by simpa using hp.isList) hS hl64 fun out ss' hS' hperm hsort => ?_
            obtain ⟨h1, _⟩ := sort2_is et hperm hsort
            subst h1
            obtain ⟨ep, hat⟩ := sortedAll_at s.heap items.toList out
            have hk : ∀ b o, s.heap.get? b = some o → (sortedAll s.heap items.toList out).get? b = some o := fun b o e => sortedAll_old e
            have A' : Adv ρ σ s ρ σ { s with heap := sortedAll s.heap items.toList out } NoW := Adv.ext hk
            have fr : Free F ρ (s.heap.objs.size + 1) := H.freeNew (by
              cases e : s.heap.get? (s.heap.objs.size + 1) with
              | none => rfl
              | some o => exact absurd (Heap.lt_size e) (Nat.not_lt.mpr (Nat.le_succ _)))
            exact q _ _ ρ (H.ext hk) A' (.lst fr ⟨ep, hat⟩ (vrs_strsAre hS'))
        · cases e
      · cases e
    · cases e
  · cases e

noncomputable def BindsD (K : Frag) (fd : FuncData) (names : List Str) (ds : List Value) : Prop :=
  ∀ (M : Model) (A : Around) (s : Shared) (Q : List (Str × Value) → Shared → Prop) (E : Value → Shared → Prop) (xs : List Value), K.In s.heap → xs.length + ds.length = names.length → Q (names.zip (xs ++ ds)) s → wpAny M A (bindArgs fd ⟨xs, []⟩) Q E s
noncomputable def dfF (n : Nat) (ds : List V) (f : SF) : SF := fun vs σ => if Nat.beq vs.length n then f (vs ++ ds) σ else none
theorem code_fnD (O : c.Ok) {f : Addr} {fd : FuncData} {body : List Stmt} {names : List Str} {vars : List (Nat × Str)} {nloc n m : Nat} {fb : SS} {ds : List Value} {dv : List V} (S : FnShape c f fd body names vars nloc) (hb : DenSs c k vars fd.scope body fb)
    (B : BindsD c.K fd names ds) (hm : m = names.length) (hn : n + ds.length = names.length) (hd : ∀ F ρ h, VRs c.lay F ρ h dv ds) : CodeOk c (k + 1) (fun xs => .call (.ref f) ⟨xs, []⟩) (dfF n dv (fnF m nloc false fb)) := by
  intro A s F ρ σ vs xs v σ' R hA H r e q
  unfold dfF at e
  split at e
  · rename_i hl
    have hl := Nat.eq_of_beq_eq_true hl
    unfold fnF at e
    split at e
    · rename_i hl2
      have hl2 := Nat.eq_of_beq_eq_true hl2
      obtain ⟨oc, od, osl, look⟩ := S.look
      refine codeAny_call_function hA.room ((O.atK H) _ _ look) rfl S.co S.gen S.stmts (codeRec_of (O.atK H) S.code) ?_
      have hx : xs.length + ds.length = names.length := by rw [← r.length, hl, hn]
      refine B _ _ _ _ _ xs (O.atK H) hx ?_
      have r' := r.append (hd F ρ s.heap)
      have hx' : (xs ++ ds).length = names.length := by simpa using hx
      simp only [Bool.false_eq_true, if_false] at e
      split at e
      · rename_i v' loc' σ₁ e1
        cases e
        exact code_run O S hb hA H r' hx' e1 fun z s' ρ' H' A' r' => by cases r' with | ret r' => exact q _ s' ρ' H' A' r'
      · rename_i loc' σ₁ e1
        cases e
        exact code_run O S hb hA H r' hx' e1 fun z s' ρ' H' A' r' => by cases r'; exact q _ s' ρ' H' A' .none
      · cases e
    · cases e
  · cases e
end
end Mine
namespace Mine
open PySem PySem.Spec PySem.Calls PyProof.Rows PySem.W

theorem owner_pat : Manifest.owners.lookup (String.ofList ['n', 'r', 'e', 't', 't', 'a', 'P', '.', 'e', 'r'].reverse) = some Manifest.sig_re_Pattern := by kernel_rfl
theorem slot_search : Slot "re.Pattern" "search" "re.Pattern.search" :=
  .of (owner := "re.Pattern") (n := "search") (by rw [typeLookup_type, builtinLookup_eq_fast]; kernel_rfl) (by decide +kernel) (by decide +kernel) (by decide +kernel)
    (by first | exact .inl (by decide +kernel) | exact .inr (by decide +kernel)) (by rw [isSubtype_type]; kernel_rfl)
theorem type_search : typeOf (.builtin "re.Pattern.search") = pure (.type "method_descriptor") := by show builtinType _ = _; rw [builtinType_eq_fast]; kernel_rfl
theorem entry_search : entryFor table "re.Pattern.search" = some Builtin.«re.Pattern.search» := entryFor_of_tree (by kernel_rfl)
theorem pat_getattribute : typeLookup (.type "re.Pattern") "__getattribute__" = pure (some (.builtin "object.__getattribute__")) := by rw [typeLookup_type, builtinLookup_eq_fast]; kernel_rfl
theorem pat_getattr_none : typeLookup (.type "re.Pattern") "__getattr__" = pure none := by rw [typeLookup_type, builtinLookup_eq_fast]; kernel_rfl
theorem canon_obj_getattribute : (Manifest.canonical "object.__getattribute__" != "object.__getattribute__") = false := by decide +kernel
theorem args_search (a b : Value) : argsOk "re.Pattern.search" ⟨[a, b], []⟩ := by
  unfold argsOk; rw [signature?_of (id := "re.Pattern.search") (n := ['h', 'c', 'r', 'a', 'e', 's']) (o := ['n', 'r', 'e', 't', 't', 'a', 'P', '.', 'e', 'r']) (by kernel_rfl) owner_pat]; kernel_rfl

section
variable {M : Model} {A : Around} {E : Value → Shared → Prop} {s : Shared}
theorem getMethod_search {l : Addr} {o : Obj} {pl : Sem Bool} {Q : Value × List Value → Shared → Prop} (ho : s.heap.get? l = some o) (hc : o.cls = .type "re.Pattern") (hd : o.dict = none)
    (h : Q (.builtin "re.Pattern.search", [.ref l]) s) : wpAny M A (getMethod (.ref l) "search" pl) Q E s := by
  have hT : s.TypeIs (.ref l) "re.Pattern" := ⟨o, ho, hc⟩
  unfold getMethod
  refine wpAny_bind (wpAny_specialOf hT pat_getattribute ?_)
  show wpAny M A (if (Manifest.canonical "object.__getattribute__" != "object.__getattribute__") = true then _ else _) Q E s
  rw [canon_obj_getattribute, if_neg Bool.false_ne_true]
  refine wpAny_bind (wpAny_specialOf hT pat_getattr_none ?_)
  refine wpAny_bind (wpAny_specialOf hT slot_search.lookup ?_)
  refine wpAny_bind (wpAny_of_eq type_search ?_)
  refine wpAny_bind (wpAny_load ho ?_)
  rw [hd]
  exact wpAny_bind (wpAny_rule (wpAny_pure h))
end

open PySem.Sre PySem.Builtin.Re in
theorem admitted_none {m : Sre.M} {bad : Nat → Bool} (hset : ∀ c seen, ∃ seen', inSet m.code c m.code.size 5 true seen = .ok (bad c, seen')) :
    ∀ (fuel s : Nat) (seen : Sre.Seen), (∀ i, s ≤ i → i < m.lim → bad (m.text.getD i 0) = false) → ∃ seen', M.admitted m fuel s seen = .ok (none, seen')
  | 0, s, seen, _ => ⟨seen, rfl⟩
  | fuel + 1, s, seen, h => by
    unfold M.admitted
    by_cases hs : s ≥ m.lim
    · rw [if_pos hs]; exact ⟨seen, rfl⟩
    · rw [if_neg hs]
      obtain ⟨seen', e⟩ := hset (m.text.getD s 0) seen
      rw [e, h s (Nat.le_refl _) (Nat.lt_of_not_le hs)]
      exact admitted_none hset fuel (s + 1) seen' fun i h1 h2 => h i (Nat.le_of_succ_le h1) h2

open PySem.Sre PySem.Builtin.Re in
theorem attemptFrom_none {m : Sre.M} {bad : Nat → Bool} {b : Bool} (hset : ∀ c seen, ∃ seen', inSet m.code c m.code.size 5 true seen = .ok (bad c, seen')) (hf : m.hasFirstSet = true) (ht : ∀ i, i < m.lim → bad (m.text.getD i 0) = false) (h1 : m.frames = []) (h2 : m.outcome = none) :
    (m.attemptFrom 0 b).answer = some false ∧ (m.attemptFrom 0 b).frames = [] ∧ (m.attemptFrom 0 b).outcome = none := by
  obtain ⟨seen', e⟩ := admitted_none hset (m.lim + 1 - 0) 0 m.seen fun i _ hi => ht i hi
  have : m.attemptFrom 0 b = ({ m with seen := seen' } : Sre.M).say false := by
    unfold M.attemptFrom
    rw [hf, e]; rfl
  rw [this]
  exact ⟨rfl, h1, h2⟩
noncomputable def firstSet (code : Array Nat) : Bool := (match Sre.ops[code.getD 0 0]? with | some Sre.Op.INFO => true | _ => false) && code.getD 2 0 == 4
open PySem.Sre PySem.Builtin.Re in
theorem search_none {code text : Array Nat} {bad : Nat → Bool} {n : Nat} (hset : ∀ c seen, ∃ seen', inSet code c code.size 5 true seen = .ok (bad c, seen')) (hf : firstSet code = true) (ht : ∀ i, i < text.size → bad (text.getD i 0) = false) :
    (Sre.forSearch code text n 0 text.size false).answer = some false ∧ (Sre.forSearch code text n 0 text.size false).frames = [] ∧ (Sre.forSearch code text n 0 text.size false).outcome = none := by
  unfold forSearch
  by_cases h0 : (decide (0 > text.size) || decide (text.size - 0 < (header code).1)) = true
  · simp only [h0, if_true]
    exact ⟨rfl, rfl, rfl⟩
  · simp only [h0]
    exact attemptFrom_none hset hf ht rfl rfl
open PySem.Sre PySem.Builtin.Re in
theorem runFor_failed {m : Sre.M} (ha : m.answer = some false) (hf : m.frames = []) (ho : m.outcome = none) : ∃ m', M.runFor reTurnSteps m = m' ∧ m'.outcome = some .failed := by
  have h1 : m.step = { m with outcome := some .failed } := by
    unfold M.step; rw [ho, ha, hf]; rfl
  refine ⟨{ m with outcome := some .failed }, ?_, rfl⟩
  show M.runFor 4 m = _
  unfold M.runFor
  rw [ho, h1]
  rfl
theorem rules_loop {M' : Model} {A : Around} {E : Value → Shared → Prop} {Q : PUnit → Shared → Prop} {m' : Sre.M} : ∀ (l : List Nat) (s : Shared), Q PUnit.unit s → wpAny M' A (forIn l PUnit.unit fun i (_ : PUnit) =>
      if m'.seen.has i = true then do
        rule (Sre.names.getD i "")
        pure (ForInStep.yield PUnit.unit)
      else pure (ForInStep.yield PUnit.unit)) Q E s
  | [], s, q => wpAny_pure q
  | i :: l, s, q => by
    rw [List.forIn_cons]
    refine wpAny_bind ?_
    split
    · exact wpAny_bind (wpAny_rule (wpAny_pure (rules_loop l s q)))
    · exact wpAny_pure (rules_loop l s q)
open PySem.Sre PySem.Builtin.Re in
theorem answer_none {M' : Model} {A : Around} {E : Value → Shared → Prop} {s : Shared} {P : Fin → Shared → Prop} {t : ReTarget} {m : Sre.M} (ha : m.answer = some false) (hf : m.frames = []) (ho : m.outcome = none) (q : P (.done (.ret .none)) s) : wpAny M' A (reAnswer t m) P E s := by
  obtain ⟨m', e, hm⟩ := runFor_failed ha hf ho
  unfold reAnswer
  refine wpAny_bind ?_
  unfold reRunToEnd
  have hd : reDrive (2 ^ 64) m = pure m' := by
    have : (2 ^ 64 : Nat) = (2 ^ 64 - 1) + 1 := by decide
    rw [this]
    unfold reDrive
    simp only [e, hm]
    rfl
  rw [hd]
  refine wpAny_bind (wpAny_pure (wpAny_bind (rules_loop _ _ ?_)))
  rw [hm]
  exact wpAny_pure (wpAny_pure q)
open PySem.Sre PySem.Builtin.Re in
theorem target_go {M' : Model} {A : Around} {E : Value → Shared → Prop} {s : Shared} {Q : ReTarget → Shared → Prop} {p ct : Addr} {oP oC : Obj} {fs items : Array Value} {n : Nat} {x : Str} {t : Tok} (hP : s.heap.get? p = some oP) (hd : oP.data = .fields fs) (h5 : fs.getD 5 .none = .ref ct) (h6 : reRawNat (fs.getD 6 .none) = 0) (hC : s.heap.get? ct = some oC) (hcd : oC.data = .seq items n)
    (q : Q { pattern := .ref p, string := .str x t, code := (items.map reRawOf).map (·.toNat), text := x.cps, kind := 0, groups := reRawNat (fs.getD 2 .none), pos := 0, lim := min ((2 : Int) ^ 63 - 1).toNat x.cps.size } s) :
    wpAny M' A (reTarget "re.Pattern.search" "search" ⟨[.ref p, .str x t], []⟩) Q E s := by
  unfold reTarget
  have hn : reNamed "re.Pattern.search" "search" ["string", "pos", "endpos"] 1 [.str x t] [] = pure [some (.str x t), none, none] := rfl
  show wpAny M' A (reNamed "re.Pattern.search" "search" ["string", "pos", "endpos"] 1 [.str x t] [] >>= _) _ _ _
  rw [hn]
  refine wpAny_bind (wpAny_pure (wpAny_bind (wpAny_pure (wpAny_bind (wpAny_pure (wpAny_bind (wpAny_fieldsOf hP hd ?_)))))))
  have ht : reTextOf (.str x t) = pure (x.cps, 0) := rfl
  rw [ht]
  refine wpAny_bind (wpAny_pure ?_)
  dsimp only
  rw [if_neg (show ¬ ((reRawNat (fs.getD 6 .none) == 0 && (0 : Nat) == 1) = true) by simp), if_neg (show ¬ ((reRawNat (fs.getD 6 .none) == 1 && (0 : Nat) == 0) = true) by rw [h6]; decide)]
  have hno : reNoCollectionInside (.str x t) 0 = pure () := rfl
  rw [hno]
  refine wpAny_bind (wpAny_pure (wpAny_bind ?_))
  unfold reRawItems
  rw [h5]
  refine wpAny_bind (wpAny_seqItems hC hcd (wpAny_pure (wpAny_pure ?_)))
  exact q
open PySem.Sre PySem.Builtin.Re in
theorem call_search_none {prog : Program} {w : World} {A : Around} {E Q : Value → Shared → Prop} {s : Shared} {p ct : Addr} {oP oC : Obj} {fs items : Array Value} {n : Nat} {x : Str} {t : Tok} {bad : Nat → Bool} (hP : s.heap.get? p = some oP) (hcl : oP.cls = .type "re.Pattern") (hd : oP.data = .fields fs) (h5 : fs.getD 5 .none = .ref ct) (h6 : reRawNat (fs.getD 6 .none) = 0) (hC : s.heap.get? ct = some oC) (hcd : oC.data = .seq items n)
    (hset : ∀ c seen, ∃ seen', inSet ((items.map reRawOf).map (·.toNat)) c ((items.map reRawOf).map (·.toNat)).size 5 true seen = .ok (bad c, seen')) (hf : firstSet ((items.map reRawOf).map (·.toNat)) = true)
    (hx : x.cps.toList.all (fun c => !bad c) = true) (hz : x.length ≤ smax) (q : Q .none s) : wpAny (model prog w) A (call (.builtin "re.Pattern.search") [.ref p, .str x t]) Q E s := by
  refine wpAny_call_entry slot_search ⟨oP, hP, hcl⟩ entry_search ?_ (args_search _ _)
  unfold Builtin.«re.Pattern.search»
  refine wpAny_bind (target_go hP hd h5 h6 hC hcd ?_)
  have hl : min ((2 : Int) ^ 63 - 1).toNat x.cps.size = x.cps.size := by
    have hz' : x.cps.size ≤ 1000000 := hz
    have : ((2 : Int) ^ 63 - 1).toNat = 9223372036854775807 := by decide
    rw [this]; omega
  rw [hl]
  obtain ⟨a1, a2, a3⟩ := search_none (text := x.cps) (n := reRawNat (fs.getD 2 .none)) hset hf fun i hi => by
    have := List.all_eq_true.mp hx (x.cps.getD i 0) (by
      have e : x.cps.getD i 0 = x.cps[i] := by simp [Array.getD, hi]
      rw [e]; exact Array.mem_toList_iff.mpr (Array.getElem_mem hi))
    simpa using this
  exact answer_none a1 a2 a3 ⟨_, rfl, q⟩

noncomputable def codeN : Array Nat := #[14, 10, 4, 1, 1, 22, 0, 31, 16, 127, 0, 13, 7, 22, 0, 31, 16, 127, 0, 1]
noncomputable def codeV : Array Nat := #[14, 14, 4, 1, 1, 9, 4294966783, 0, 0, 2147483648, 0, 0, 0, 0, 0, 13, 11, 9, 4294966783, 0, 0, 2147483648, 0, 0, 0, 0, 0, 1]
noncomputable def badN (c : Nat) : Bool := (decide (0 ≤ c) && decide (c ≤ 31)) || (c == 127)
noncomputable def badV (c : Nat) : Bool := decide (c < 256) && (codeV.getD (5 + (1 + c / 32)) 0).testBit (c % 32)
open PySem.Sre in
theorem setN (c : Nat) (seen : Sre.Seen) : ∃ seen', inSet codeN c codeN.size 5 true seen = .ok (badN c, seen') := by
  unfold badN
  cases h1 : (decide (0 ≤ c) && decide (c ≤ 31))
  · cases h2 : (c == 127)
    · refine ⟨((seen.add 22).add 16).add 0, ?_⟩
      show (if (decide (0 ≤ c) && decide (c ≤ 31)) = true then Except.ok (true, seen.add 22) else (if (c == 127) = true then Except.ok (true, (seen.add 22).add 16) else Except.ok (!true, ((seen.add 22).add 16).add 0))) = _
      rw [h1, h2]; rfl
    · refine ⟨(seen.add 22).add 16, ?_⟩
      show (if (decide (0 ≤ c) && decide (c ≤ 31)) = true then Except.ok (true, seen.add 22) else (if (c == 127) = true then Except.ok (true, (seen.add 22).add 16) else Except.ok (!true, ((seen.add 22).add 16).add 0))) = _
      rw [h1, h2]; rfl
  · refine ⟨seen.add 22, ?_⟩
    show (if (decide (0 ≤ c) && decide (c ≤ 31)) = true then Except.ok (true, seen.add 22) else (if (c == 127) = true then Except.ok (true, (seen.add 22).add 16) else Except.ok (!true, ((seen.add 22).add 16).add 0))) = _
    rw [h1]; rfl
open PySem.Sre in
theorem setV (c : Nat) (seen : Sre.Seen) : ∃ seen', inSet codeV c codeV.size 5 true seen = .ok (badV c, seen') := by
  unfold badV
  cases h1 : (decide (c < 256) && (codeV.getD (5 + (1 + c / 32)) 0).testBit (c % 32))
  · refine ⟨(seen.add 9).add 0, ?_⟩
    show (if (decide (c < 256) && (codeV.getD (5 + (1 + c / 32)) 0).testBit (c % 32)) = true then Except.ok (true, seen.add 9) else Except.ok (!true, (seen.add 9).add 0)) = _
    rw [h1]; rfl
  · refine ⟨seen.add 9, ?_⟩
    show (if (decide (c < 256) && (codeV.getD (5 + (1 + c / 32)) 0).testBit (c % 32)) = true then Except.ok (true, seen.add 9) else Except.ok (!true, (seen.add 9).add 0)) = _
    rw [h1]; rfl

noncomputable def goodS (bad : Nat → Bool) (x : Str) : Bool := x.cps.toList.all (fun c => !bad c) && Nat.ble x.length smax
structure Pats (c : Cx) (pN pV : Addr) : Prop where
  n : ∃ fs sl ct items m sl', c.K.lookup pN = some ⟨.type "re.Pattern", none, .fields fs, sl⟩ ∧ fs.getD 5 .none = .ref ct ∧ Builtin.Re.reRawNat (fs.getD 6 .none) = 0 ∧ c.K.lookup ct = some ⟨.type "tuple", none, .seq items m, sl'⟩ ∧ (items.map Builtin.Re.reRawOf).map (·.toNat) = codeN
  v : ∃ fs sl ct items m sl', c.K.lookup pV = some ⟨.type "re.Pattern", none, .fields fs, sl⟩ ∧ fs.getD 5 .none = .ref ct ∧ Builtin.Re.reRawNat (fs.getD 6 .none) = 0 ∧ c.K.lookup ct = some ⟨.type "tuple", none, .seq items m, sl'⟩ ∧ (items.map Builtin.Re.reRawOf).map (·.toNat) = codeV
noncomputable def chkP (pN pV : Addr) (_ : Hp) (v : V) : Bool := match v with
  | .g (.ref a) => Nat.beq a pN || Nat.beq a pV
  | _ => false
noncomputable def schF (pN pV : Addr) : SF := fun vs σ => match vs with
  | [.g (.ref a), .str x] => if Nat.beq a pN then (if goodS badN x then some (.none, σ) else none) else if Nat.beq a pV then (if goodS badV x then some (.none, σ) else none) else none
  | _ => none
section
variable {c : Cx} {k : Nat}
theorem meth_search (O : c.Ok) {pN pV : Addr} (P : Pats c pN pV) : MethAt c "search" (.builtin "re.Pattern.search") (chkP pN pV) := by
  intro A s F ρ σ v x pl Q E H r hc q
  unfold chkP at hc
  split at hc
  · rename_i a
    cases r
    rcases Bool.or_eq_true_iff.mp hc with h | h
    · have := Nat.eq_of_beq_eq_true h
      subst this
      obtain ⟨fs, sl, ct, items, m, sl', h1, _⟩ := P.n
      exact getMethod_search ((O.atK H) _ _ h1) rfl rfl q
    · have := Nat.eq_of_beq_eq_true h
      subst this
      obtain ⟨fs, sl, ct, items, m, sl', h1, _⟩ := P.v
      exact getMethod_search ((O.atK H) _ _ h1) rfl rfl q
  · cases hc
theorem fn_search (O : c.Ok) {pN pV : Addr} (P : Pats c pN pV) : FnOk c k (fun xs => call (.builtin "re.Pattern.search") xs) (schF pN pV) := by
  intro A s F ρ σ vs xs v σ' Q E hA H r e q
  unfold schF at e
  split at e
  · rename_i a x
    cases r with
    | cons r1 r => cases r with
      | cons r2 r =>
        cases r; cases r1; cases r2
        split at e
        · rename_i h
          have := Nat.eq_of_beq_eq_true h
          subst this
          split at e
          · rename_i hg
            obtain ⟨g1, g2⟩ := Bool.and_eq_true_iff.mp hg
            cases e
            obtain ⟨fs, sl, ct, items, m, sl', h1, h2, h3, h4, h5⟩ := P.n
            exact call_search_none (bad := badN) ((O.atK H) _ _ h1) rfl rfl h2 h3 ((O.atK H) _ _ h4) rfl (by rw [h5]; exact setN) (by rw [h5]; decide) g1 (Nat.le_of_ble_eq_true g2) (q _ _ ρ H .refl .none)
          · cases e
        · split at e
          · rename_i h
            have := Nat.eq_of_beq_eq_true h
            subst this
            split at e
            · rename_i hg
              obtain ⟨g1, g2⟩ := Bool.and_eq_true_iff.mp hg
              cases e
              obtain ⟨fs, sl, ct, items, m, sl', h1, h2, h3, h4, h5⟩ := P.v
              exact call_search_none (bad := badV) ((O.atK H) _ _ h1) rfl rfl h2 h3 ((O.atK H) _ _ h4) rfl (by rw [h5]; exact setV) (by rw [h5]; decide) g1 (Nat.le_of_ble_eq_true g2) (q _ _ ρ H .refl .none)
            · cases e
          · cases e
  · cases e
end
end Mine
namespace Mine
open PySem PySem.Spec PySem.Calls PyProof.Rows PySem.W

noncomputable def itmS (i : Nat) : SS := fun loc σ => match loc[i]? with
  | some (some .edict) => some (.next, loc, σ)
  | _ => none
section
variable {c : Cx} {k : Nat} {vars : List (Nat × Str)} {sc : Scope}
theorem edict_at {prog : Program} {w : World} {h : Heap} {a : Addr} (ha : h.get? a = some emptyDict) : h.DictAt (PySem.strKind prog w) a [] 0 :=
  ⟨emptyDict, #[], ha, ⟨rfl, rfl, rfl⟩, rfl, fun _ he => by simp at he, .nil, by simp⟩
theorem den_items {i : Nat} {x : Str} {target : Expr} {body : List Stmt} {px apos cpos pos : Pos} (hm : (i, x) ∈ vars) (hd : (x == ("__debug__" : Str)) = false) (hbase : ∀ env : Env, env.scope = sc → attributeBase (.Name x px) "items" env (eval (.Name x px) env) = eval (.Name x px) env) (hline : (apos.endLine == cpos.line) = true)
    (hfs : ∀ (env : Env) (x' : Value), foldedSetIterable (.Call (.Attribute (.Name x px) "items" apos) [] [] cpos) env x' = pure x') :
    DenS c k vars sc (.For target (.Call (.Attribute (.Name x px) "items" apos) [] [] cpos) body [] pos) (itmS i) := by
  intro env A s F ρ loc σ fl loc' σ' Q E hs hA H I e q
  unfold itmS at e
  split at e
  · rename_i hl
    cases e
    have hn : DenE c k vars sc (.Name x px) (nmE i) := den_nm hm hd
    have e0 : nmE i loc σ = some (.edict, σ) := by unfold nmE; rw [hl]
    obtain ⟨y, hy, ry⟩ := I.vals i x _ hm hl
    cases ry with
    | @edict a fa ha hsys =>
      have D := edict_at (prog := c.prog) (w := c.w) ha
      refine wpAny_For (wpAny_Call_items (knd := PySem.strKind c.prog c.w) (kvs := []) hsys (let ⟨o, es, r⟩ := D; ⟨o, es, 0, r⟩) (hbase env hs.1) hline (fun Q' hq => ?_) ?_) (hfs env)
      · refine wpAny_Name ?_ hd
        rcases hy with ⟨kd, m, hn, hx⟩ | ⟨kd, cl, hc, hx⟩
        · exact wpAny_loadName_local I.kind kd hn hx hq
        · exact wpAny_loadName_cell I.kind kd hc hx hq
      · have hk1 := push_keep s.heap { cls := .type "dict_items", data := .fields #[.ref a] }
        have D1 := edict_at (prog := c.prog) (w := c.w) (hk1 _ _ ha)
        refine wpAny_pyIter_items (knd := PySem.strKind c.prog c.w) (kvs := []) ⟨_, Heap.get?_push_size _ rfl, rfl, rfl⟩ D1 ?_
        have hk2 := push_keep (s.heap.push { cls := .type "dict_items", data := .fields #[.ref a] }) { cls := .type "dict_itemiterator", data := .fields #[.none, .bool false, .ref a, .int 0 0, .int ([] : List (Str × Value)).length 0, .int 0 0, .none, .none] }
        have D2 := edict_at (prog := c.prog) (w := c.w) (hk2 _ _ (hk1 _ _ ha))
        refine codeAny_forLoop_any (fun _ s' => s' = _) (fun n s' hs' => ?_) 0 rfl
        subst hs'
        refine wpAny_pyNext_items_end (knd := PySem.strKind c.prog c.w) (kvs := []) (ok := .none) (ov := .none) (i := 0) hA.2.1 (Heap.get?_push_size _ rfl) D2 rfl fun h' hx => ?_
        have hk : ∀ b o, s.heap.get? b = some o → h'.get? b = some o := fun b o e => hx b o (Nat.ne_of_lt (by
          have := Heap.lt_size (hk1 b o e); exact this)) (hk2 b o (hk1 b o e))
        refine wpAny_execs_nil ?_
        exact q .next _ ρ (H.ext hk) (I.adv (s' := { s with heap := h' }) H (Adv.ext hk)) (Adv.ext hk) .next
  · cases e
end
end Mine
namespace Mine
open PySem PySem.Spec PySem.Calls PyProof.Rows PySem.W

noncomputable def addF : SF := fun vs σ => match vs with
  | [.int a, .int b] => some (.int (a + b), σ)
  | [.str a, .str b] => addS [.str a, .str b] σ
  | vs => addL vs σ
noncomputable def mulF : SF := fun vs σ => match vs with
  | [.int a, .int b] => int2 mulI [.int a, .int b] σ
  | [.str a, .int b] => mulS [.str a, .int b] σ
  | vs => mulL vs σ
noncomputable def failS : SS := fun _ _ => none
section
variable {c : Cx} {k : Nat} {vars : List (Nat × Str)} {sc : Scope}
theorem fn_addF : FnOk c k (two (binaryOp .Add)) addF := by
  intro A s F ρ σ vs xs v σ' Q E hA H r e q
  unfold addF at e
  split at e
  · exact fn_add A s F ρ σ _ xs v σ' Q E hA H r e q
  · exact fn_addS A s F ρ σ _ xs v σ' Q E hA H r e q
  · exact fn_addL A s F ρ σ _ xs v σ' Q E hA H r e q
theorem fn_mulF : FnOk c k (two (binaryOp .Mult)) mulF := by
  intro A s F ρ σ vs xs v σ' Q E hA H r e q
  unfold mulF at e
  split at e
  · exact fn_mul A s F ρ σ _ xs v σ' Q E hA H r e q
  · exact fn_mulS A s F ρ σ _ xs v σ' Q E hA H r e q
  · exact fn_mulL A s F ρ σ _ xs v σ' Q E hA H r e q
theorem den_fail {st : Stmt} : DenS c k vars sc st failS := by
  intro env A s F ρ loc σ fl loc' σ' Q E hs hA H I e q
  cases e
end

end Mine
namespace Mine
open PySem PySem.Spec PySem.Calls PyProof.Rows PySem.W

mutual
theorem VR.low {lay : Addr → List Str} {F : Addr → Prop} {ρ : List Addr} {h : Heap} {v : V} {x : Value} : VR lay F ρ h v x → v.lowB ρ.length = true
  | .none => rfl
  | .bool => rfl
  | .int => rfl
  | .str => rfl
  | .g => rfl
  | .tup _ _ vs => VRs.low vs
  | .lst _ _ vs => VRs.low vs
  | .obj _ _ _ _ _ vs => VRs.low vs
  | .inst _ _ hn => Nat.ble_eq_true_of_le (List.getElem?_eq_some_iff.mp hn).1
  | .ref hn => Nat.ble_eq_true_of_le (List.getElem?_eq_some_iff.mp hn).1
  | .rng _ _ => rfl
  | .edict _ _ _ => rfl
theorem VRs.low {lay : Addr → List Str} {F : Addr → Prop} {ρ : List Addr} {h : Heap} {vs : List V} {xs : List Value} : VRs lay F ρ h vs xs → V.lowBs ρ.length vs = true
  | .nil => rfl
  | .cons r rs => by simp only [V.lowBs, VR.low r, VRs.low rs, Bool.and_self]
end
noncomputable def SO.items : SO → List V
  | .lst vs => vs
  | .dict _ vs => vs
  | .frm _ _ vs => vs
  | .dead => []
theorem lowBs_iff {n : Nat} : ∀ {vs : List V}, V.lowBs n vs = true ↔ ∀ v ∈ vs, v.lowB n = true
  | [] => by simp [V.lowBs]
  | v :: vs => by simp [V.lowBs, lowBs_iff (vs := vs)]
theorem SO.lowB_iff {n : Nat} {o : SO} : o.lowB n = true ↔ ∀ v ∈ o.items, v.lowB n = true := by
  cases o with
  | lst vs => exact lowBs_iff
  | dict C vs => exact lowBs_iff
  | frm L ns vs => exact lowBs_iff
  | dead => simp [SO.lowB, SO.items]
theorem HInv.low {lay : Addr → List Str} {F : Addr → Prop} {h₀ : Heap} {ρ : List Addr} {σ : Hp} {h : Heap} (H : HInv lay F h₀ ρ σ h) {n : Nat} {o : SO} (e : σ[n]? = some o) : o.lowB ρ.length = true := by
  obtain ⟨hl, _⟩ := List.getElem?_eq_some_iff.mp e
  have hr : n < ρ.length := H.len ▸ hl
  have r := H.objs n o _ e (List.getElem?_eq_getElem hr)
  cases o with
  | lst vs => obtain ⟨items, _, v⟩ := r; exact v.low
  | dict C vs => obtain ⟨m, xs, _, _, v⟩ := r; exact v.low
  | frm L ns vs => obtain ⟨_, m, xs, _, _, v⟩ := r; exact v.low
  | dead => rfl
noncomputable def Left (σ σ' : Hp) : Prop := ∀ (i : Nat) (o : SO), σ'[i]? = some o → ∀ v ∈ o.items, v.lowB σ.length = true ∨ ∃ (j : Nat) (o' : SO), σ[j]? = some o' ∧ v ∈ o'.items
theorem CodeOk.trG {c : Cx} {k : Nat} {cd : List Value → Code} {f g : SF} (h : CodeOk c k cd f)
    (hg : ∀ vs σ v σ', g vs σ = some (v, σ') → ∃ v₁ σ₁, f vs σ = some (v₁, σ₁) ∧ v = V.frz σ.length σ₁ v₁ ∧ σ' = σ₁.take σ.length ∧ Left σ σ' ∧ (v.lowB σ.length = true ∨ ∃ w ∈ vs, v = w)) : CodeOk c k cd g := by
  intro A s F ρ σ vs xs v σ' R hA H r e q
  obtain ⟨v₁, σ₁, e1, rfl, rfl, hl, hv⟩ := hg vs σ v σ' e
  refine h A s F ρ σ vs xs v₁ σ₁ R hA H r e1 fun z s' ρ' H' A' r' => ?_
  have b1 : (V.frz σ.length σ₁ v₁).lowB σ.length = true := by
    rcases hv with hv | ⟨w, hw, e⟩
    · exact hv
    · rw [e, H.len]; exact lowBs_iff.mp r.low w hw
  have b2 : (σ₁.take σ.length).all (SO.lowB σ.length) = true := by
    refine List.all_eq_true.mpr fun o ho => ?_
    obtain ⟨i, hi, e⟩ := List.getElem_of_mem ho
    refine SO.lowB_iff.mpr fun v hv => ?_
    rcases hl i o (by rw [← e]; exact List.getElem?_eq_getElem hi) v hv with h | ⟨j, o', ej, m⟩
    · exact h
    · rw [H.len]; exact SO.lowB_iff.mp (H.low ej) v m
  obtain ⟨a, b, d⟩ := trunc_ok H H' A' r' (w := V.frz σ.length σ₁ v₁) (σ'' := σ₁.take σ.length) (by unfold trunc; rw [b1, b2]; rfl)
  exact q z s' ρ a b d
theorem CodeOk.ref {c : Cx} {k : Nat} {cd : List Value → Code} {f g : SF} (h : CodeOk c k cd f) (hg : ∀ vs σ v σ', g vs σ = some (v, σ') → f vs σ = some (v, σ')) : CodeOk c k cd g :=
  fun A s F ρ σ vs xs v σ' R hA H r e q => h A s F ρ σ vs xs v σ' R hA H r (hg vs σ v σ' e) q

noncomputable def relabelS (scope sc : Scope) : Scope :=
  relabel scope { scope := sc, locals := 0, globals := 0, cells := [], qual := default, func := none, code := default, frame := default, builtins := 0 }
theorem rel_of {scope sc : Scope} (env : Env) (h : env.scope = sc) : relabel scope env = relabelS scope sc := by
  subst h; rfl
noncomputable def cmpV (varsN : List (Nat × Str)) (is : List Nat) (tgt : SA) (test : ST) (elt : SE) (fi : SE) : SE := cmpE is tgt test elt fi
noncomputable def lcOk (vars varsC : List (Nat × Str)) (sc scope : Scope) (is : List Nat) : Bool :=
  decide (scope.kind = .function) && scope.names.all (fun x => decide (x.2 = .local → scope.names.lookup x.1 = some .local)) && scope.names.all (fun x => decide (x.2 ≠ .cell)) &&
  scope.names.all (fun p => decide (p.2 = .free → vars.any (fun q => decide (q.2 = p.1)) = true ∧ sc.names.lookup p.1 = some .cell)) && varsOk varsC &&
  varsC.all (fun p => (decide ((relabelS scope sc).names.lookup p.2 = some .local) && decide (p.1 ∈ is)) || (decide ((relabelS scope sc).names.lookup p.2 = some .cell) && decide (p ∈ vars) && decide ((p.2, NameKind.free) ∈ scope.names) && decide (sc.names.lookup p.2 = some .cell)))
theorem LcShape.of {vars varsC : List (Nat × Str)} {sc scope : Scope} {is : List Nat} (h : lcOk vars varsC sc scope is = true) : LcShape vars varsC sc scope (relabelS scope sc) is := by
  unfold lcOk at h
  simp only [Bool.and_eq_true, List.all_eq_true, decide_eq_true_eq] at h
  obtain ⟨⟨⟨⟨⟨h1, h2⟩, h3⟩, h4⟩, h5⟩, h6⟩ := h
  refine ⟨h1, h2, h3, rel_of, fun p hp hf => ?_, VarsOk.of h5, fun p hp => ?_⟩
  · obtain ⟨a, b⟩ := h4 p hp hf
    obtain ⟨q, hq, e⟩ := List.any_eq_true.mp a
    have e := of_decide_eq_true e
    exact ⟨q.1, by rw [← e]; exact hq, b⟩
  · have := h6 p hp
    simp only [Bool.or_eq_true, Bool.and_eq_true, decide_eq_true_eq] at this
    rcases this with ⟨a, b⟩ | ⟨⟨⟨a, b⟩, d⟩, f⟩
    · exact .inl ⟨a, b⟩
    · exact .inr ⟨a, b, d, f⟩
section
variable {c : Cx} {k : Nat} {vars varsC : List (Nat × Str)} {sc scope : Scope} {is : List Nat}
theorem den_lcV {elt target iter : Expr} {ifs : List Expr} {pos : Pos} {tgt : SA} {test : ST} {felt fi : SE} (S : lcOk vars varsC sc scope is = true) (hi : DenE c k vars sc iter fi) (ht : DenAL c k varsC (relabelS scope sc) target tgt) (hif : DenIfs c k varsC (relabelS scope sc) ifs test) (he : DenE c k varsC (relabelS scope sc) elt felt)
    (hfs : ∀ (env : Env) (x : Value), foldedSetIterable iter env x = pure x) : DenE c k vars sc (.ListComp elt [⟨target, iter, ifs, 0⟩] scope pos) (cmpV varsC is tgt test felt fi) := den_lc (LcShape.of S) hi ht hif he hfs
theorem den_asgLcV {i : Nat} {y : Str} {py spos : Pos} {elt target iter : Expr} {ifs : List Expr} {pos : Pos} {tgt : SA} {test : ST} {felt fi : SE} (S : lcOk vars varsC sc scope is = true) (hi : DenE c k vars sc iter fi) (ht : DenAL c k varsC (relabelS scope sc) target tgt) (hif : DenIfs c k varsC (relabelS scope sc) ifs test) (he : DenE c k varsC (relabelS scope sc) elt felt)
    (hfs : ∀ (env : Env) (x : Value), foldedSetIterable iter env x = pure x) (hm : (i, y) ∈ vars)
    (hsw : ∀ env : Env, env.scope = sc → swapsWith (.ListComp elt [⟨target, iter, ifs, 0⟩] scope pos) (some (.Name y py)) spos.line env = pure true) :
    DenS c k vars sc (.Assign [.Name y py] (.ListComp elt [⟨target, iter, ifs, 0⟩] scope pos) spos) (asgS i (cmpV varsC is tgt test felt fi)) := den_asgLc (LcShape.of S) hi ht hif he hfs hm hsw
end
end Mine
namespace Mine
open PySem PySem.Spec PySem.Calls PyProof.Rows PySem.W

noncomputable def fdIn (K : Frag) (f : Addr) : FuncData := match K.lookup f with
  | some ⟨_, _, .func fd, _⟩ => fd
  | _ => default
noncomputable def bodyIn (K : Frag) (f : Addr) : List Stmt := match (fdIn K f).body with
  | .stmts b => b
  | _ => []
noncomputable def kindOk (sc : Scope) (x : Str) : Bool := match sc.names.lookup x with
  | some .local => true
  | some .cell => true
  | _ => false
noncomputable def shapeOk (K : Frag) (f : Addr) (names : List Str) (vars : List (Nat × Str)) (nloc : Nat) : Bool := match K.lookup f with
  | some ⟨_, _, .func fd, _⟩ => codeIn K fd.code fd.qualname && (match fd.body with | .stmts _ => true | _ => false) && fd.closure.isEmpty && Nat.beq fd.globals mainGlobals && Nat.beq fd.builtins builtinsNs && !fd.scope.isCoroutine && !fd.scope.isGenerator
      && decide (fd.scope.kind = .function) && decide names.Nodup && varsOk vars && vars.all (fun p => kindOk fd.scope p.2) && (List.range names.length).all (fun i => match names[i]? with | some x => decide ((i, x) ∈ vars) | none => true) && Nat.ble names.length nloc
  | _ => false
theorem FnShape.of {c : Cx} {f : Addr} {names : List Str} {vars : List (Nat × Str)} {nloc : Nat} (h : shapeOk c.K f names vars nloc = true) : FnShape c f (fdIn c.K f) (bodyIn c.K f) names vars nloc := by
  unfold shapeOk at h
  split at h
  · rename_i oc od fd osl hl
    have e1 : fdIn c.K f = fd := by unfold fdIn; rw [hl]
    have e2 : bodyIn c.K f = (match fd.body with | .stmts b => b | _ => []) := by unfold bodyIn; rw [e1]
    rw [e1, e2]
    simp only [Bool.and_eq_true, Bool.not_eq_true', decide_eq_true_eq] at h
    obtain ⟨⟨⟨⟨⟨⟨⟨⟨⟨⟨⟨⟨a1, a2⟩, a3⟩, a4⟩, a5⟩, a6⟩, a7⟩, a8⟩, a9⟩, a10⟩, a11⟩, a12⟩, a13⟩ := h
    refine ⟨⟨oc, od, osl, hl⟩, a1, ?_, List.isEmpty_iff.mp a3, Nat.eq_of_beq_eq_true a4, Nat.eq_of_beq_eq_true a5, a6, a7, a8, a9, VarsOk.of a10, fun p hp => ?_, fun i x hx => ?_, Nat.le_of_ble_eq_true a13⟩
    · split at a2
      · rename_i b hb; rw [hb]
      · cases a2
    · have := List.all_eq_true.mp a11 p hp
      unfold kindOk at this
      split at this
      · rename_i e; exact .inl e
      · rename_i e; exact .inr e
      · cases this
    · obtain ⟨il, _⟩ := List.getElem?_eq_some_iff.mp hx
      have := List.all_eq_true.mp a12 i (List.mem_range.mpr il)
      rw [hx] at this
      exact of_decide_eq_true this
  · cases h
theorem mm {vars : List (Nat × Str)} {p : Nat × Str} (j : Nat) (h : vars[j]? = some p) : p ∈ vars := List.mem_of_getElem? h
end Mine
namespace Mine
open PySem PySem.Spec PySem.Calls PyProof.Rows PySem.W
theorem len1 {α : Type} {xs : List α} (h : xs.length = 1) : ∃ a, xs = [a] := by
  cases xs with
  | nil => cases h
  | cons a r => exact ⟨a, congrArg (List.cons a) (List.eq_nil_of_length_eq_zero (Nat.succ.inj h))⟩
theorem len2 {α : Type} {xs : List α} (h : xs.length = 2) : ∃ a b, xs = [a, b] := by
  cases xs with
  | nil => cases h
  | cons a r => exact (len1 (Nat.succ.inj h)).elim fun b e => ⟨a, b, congrArg (List.cons a) e⟩
theorem len3 {α : Type} {xs : List α} (h : xs.length = 3) : ∃ a b c, xs = [a, b, c] := by
  cases xs with
  | nil => cases h
  | cons a r => exact (len2 (Nat.succ.inj h)).elim fun b e => e.elim fun c e => ⟨a, b, c, congrArg (List.cons a) e⟩
theorem Binds.of1 {K : Frag} {fd : FuncData} {mk : List Value → Args} {x : Str} (h : ∀ a, bindArgs fd (mk [a]) = pure [(x, a)]) : Binds K fd mk [x] false := by
  intro M A s Q E xs X hx q
  obtain ⟨a, rfl⟩ := len1 hx
  exact BindsTo.of_eq (h a) M A E Q q
theorem Binds.of2 {K : Frag} {fd : FuncData} {mk : List Value → Args} {x y : Str} (h : ∀ a b, bindArgs fd (mk [a, b]) = pure [(x, a), (y, b)]) : Binds K fd mk [x, y] false := by
  intro M A s Q E xs X hx q
  obtain ⟨a, b, rfl⟩ := len2 hx
  exact BindsTo.of_eq (h a b) M A E Q q
theorem Binds.of3 {K : Frag} {fd : FuncData} {mk : List Value → Args} {x y z : Str} (h : ∀ a b c, bindArgs fd (mk [a, b, c]) = pure [(x, a), (y, b), (z, c)]) : Binds K fd mk [x, y, z] false := by
  intro M A s Q E xs X hx q
  obtain ⟨a, b, c, rfl⟩ := len3 hx
  exact BindsTo.of_eq (h a b c) M A E Q q
theorem Binds.of3d {K : Frag} {fd : FuncData} {mk : List Value → Args} {x y z : Str} (h : ∀ (s : Shared) a b c, K.In s.heap → BindsTo s fd (mk [a, b, c]) [(x, a), (y, b), (z, c)]) : Binds K fd mk [x, y, z] false := by
  intro M A s Q E xs X hx q
  obtain ⟨a, b, c, rfl⟩ := len3 hx
  exact h s a b c X M A E Q q
theorem BindsD.of2 {K : Frag} {fd : FuncData} {x y z : Str} {d : Value} (h : ∀ (s : Shared) a b, K.In s.heap → BindsTo s fd ⟨[a, b], []⟩ [(x, a), (y, b), (z, d)]) : BindsD K fd [x, y, z] [d] := by
  intro M A s Q E xs X hx q
  obtain ⟨a, b, rfl⟩ := len2 (Nat.succ.inj hx)
  exact h s a b X M A E Q q
theorem BindsD.of1 {K : Frag} {fd : FuncData} {x z : Str} {d : Value} (h : ∀ (s : Shared) a, K.In s.heap → BindsTo s fd ⟨[a], []⟩ [(x, a), (z, d)]) : BindsD K fd [x, z] [d] := by
  intro M A s Q E xs X hx q
  obtain ⟨a, rfl⟩ := len1 (Nat.succ.inj hx)
  exact h s a X M A E Q q
theorem Binds.of3x {K : Frag} {fd : FuncData} {mk : List Value → Args} {x y z u : Str} (h : ∀ a b c, bindArgs fd (mk [a, b, c]) = (do let d ← newDict #[]; pure [(x, a), (y, b), (z, c), (u, d)])) : Binds K fd mk [x, y, z, u] true := by
  intro M A s Q E xs X hx q
  obtain ⟨a, b, c, rfl⟩ := len3 (Nat.succ.inj hx)
  rw [h a b c]
  exact wpAny_bind (wpAny_newObj_type (wpAny_pure q))
end Mine
namespace Mine
open PySem PySem.Spec PySem.Calls PyProof.Rows PySem.W
section
variable {prog : Program} {w : World} {A : Around} {E : Value → Shared → Prop} {s : Shared}
theorem meets_enumT (l : Addr) (items : Array Value) (n : Nat) (dct : Option Addr) (sl : Array (Option Value)) :
    Meets (Builtin.«enumerate.__new__» ⟨[.type "enumerate", .ref l], []⟩) (fun _ R s => s.heap.get? l = some { cls := .type "tuple", dict := dct, data := .seq items n, slots := sl } ∧
      R (.ok (.ret (.ref (s.heap.push { cls := .type "tuple_iterator", data := .fields #[.ref l, .int 0 0] }).objs.size)))
        { s with heap := (s.heap.push { cls := .type "tuple_iterator", data := .fields #[.ref l, .int 0 0] }).push { cls := .type "enumerate", data := .fields #[.none, .bool false, .ref s.heap.objs.size, rawInt 0, .none, .none] } }) :=
  .of_wp fun prog w A R s h => by
    obtain ⟨hp, g, d, tk, os⟩ := s
    obtain ⟨hl, h⟩ := h
    have hsub := sub_enumerate
    have hT : Heap.IsTuple (Shared.heap ⟨hp, g, d, tk, os⟩) l items := ⟨_, hl, rfl, n, rfl⟩
    wp_walk using AutoSeq1.wpAny_loadPart' hl
    refine wpAny_stack_any fun st => wpAny_pure ?_
    split
    · rename_i c _ _ _ _ _
      cases (c == Value.type "enumerate") <;>
      · wp_walk using AutoSeq1.wpAny_loadPart' hl, wpAny_pyIter_tuple hT
        exact ⟨_, rfl, h⟩
    · wp_walk using AutoSeq1.wpAny_loadPart' hl, wpAny_pyIter_tuple hT
      exact ⟨_, rfl, h⟩
theorem call_enumT {l : Addr} {items : Array Value} {Q : Value → Shared → Prop} (hT : s.heap.IsTuple l items)
    (h : ∀ h', IsEnum h' (s.heap.objs.size + 1) s.heap.objs.size 0 .none → h'.IsTupleIter s.heap.objs.size l 0 → h'.objs.size = s.heap.objs.size + 2 →
      (∀ b o, s.heap.get? b = some o → h'.get? b = some o) → Q (.ref (s.heap.objs.size + 1)) { s with heap := h' }) :
    wpAny (model prog w) A (call (.type "enumerate") [.ref l]) Q E s := by
  obtain ⟨⟨c, dct, dt, sl⟩, hl, hc, n, hd⟩ := hT
  replace hc : c = .type "tuple" := hc
  replace hd : dt = .seq items n := hd
  subst hc hd
  refine callType_new F.called_enumerate (by decide) (F.typeCall_enumerate_1 _) (F.newCall_enumerate_1 _) (fun obj => F.args_object_init_2 obj _) F.entry_enumerate_new (meets_enumT l items n dct sl) ⟨hl, ?_⟩
  have hz : ∀ o : Obj, (s.heap.push o).objs.size = s.heap.objs.size + 1 := fun o => Heap.size_push ..
  show _ ∧ _
  rw [hz]
  have he : ∀ o o' : Obj, o'.isFreed = false → ((s.heap.push o).push o').get? (s.heap.objs.size + 1) = some o' := fun o o' f => by
    have := Heap.get?_push_size (s.heap.push o) (o := o') f
    rwa [hz] at this
  refine ⟨⟨_, he _ _ rfl, rfl⟩, h _ (he _ _ rfl) ⟨_, Heap.get?_push_of_some _ (Heap.get?_push_size _ rfl), rfl, rfl⟩ (by rw [Heap.size_push, hz]) fun b o x => Heap.get?_push_of_some _ (Heap.get?_push_of_some _ x)⟩
theorem nextOf_tuple {it t : Addr} {i : Nat} {items : Array Value} {x : Value} {Q : Value → Shared → Prop} (hit : s.heap.IsTupleIter it t i) (ht : s.heap.IsTuple t items) (hx : items[i]? = some x)
    (hQ : ∀ h', h'.IsTupleIter it t (i + 1) → Heap.SameBut it s.heap h' → Q x { s with heap := h' }) : wpAny (model prog w) A (Builtin.SmallTypes.nextOf (.ref it)) Q E s := by
  obtain ⟨o, ho, hc, hd⟩ := id hit
  obtain ⟨ol, hol, _, nl, hdl⟩ := ht
  unfold Builtin.SmallTypes.nextOf
  refine wpAny_bind (wpAny_callSpecial?_slot (name := Str.ofString "__next__") hit.typeIs F.slot_tuple_iterator_next
    (wpAny_call_entry F.slot_tuple_iterator_next hit.typeIs F.entry_tuple_iterator_next ?_ (F.args_tuple_iterator_next_1 _)))
  show wpAny _ _ (field (.ref it) 0 >>= _) _ _ s
  refine wpAny_bind (wpAny_field ho hd (x := .ref t) rfl ?_)
  show wpAny _ _ (if (Value.ref t == Value.none) = true then _ else _) _ _ s
  rw [if_neg (show ¬ ((Value.ref t == Value.none) = true) from Bool.false_ne_true)]
  show wpAny _ _ (field (.ref it) 1 >>= _) _ _ s
  refine wpAny_bind (wpAny_field ho hd (x := .int i 0) rfl ?_)
  show wpAny _ _ (seqItems? (.ref t) >>= _) _ _ s
  refine wpAny_bind (wpAny_seqItems hol hdl ?_)
  simp only [Int.toNat_natCast, hx]
  refine wpAny_bind (wpAny_setField ho hd (by simp) (wpAny_pure ⟨x, rfl, wpAny_pure (hQ _ ?_ (Heap.SameBut.update ..))⟩))
  exact ⟨_, Heap.get?_update_self _ ho (Obj.isFreed_of_fields (Obj.data_mapFields hd _)), (Obj.cls_mapFields ..).trans hc, by
    rw [Obj.data_mapFields hd]; simp [rawInt]⟩
theorem nextOf_tuple_end {it t : Addr} {i : Nat} {items : Array Value} {Q : Value → Shared → Prop} (hh : A.handled = none) (hit : s.heap.IsTupleIter it t i) (ht : s.heap.IsTuple t items) (hx : items[i]? = none)
    (hE : ∀ h' e, Heap.ExtBut it s.heap h' → (∃ o, h'.get? e = some o ∧ o.cls = .type "StopIteration") → E (.ref e) { s with heap := h' }) :
    wpAny (model prog w) A (Builtin.SmallTypes.nextOf (.ref it)) Q E s := by
  obtain ⟨o, ho, hc, hd⟩ := id hit
  obtain ⟨ol, hol, _, nl, hdl⟩ := ht
  unfold Builtin.SmallTypes.nextOf
  refine wpAny_bind (wpAny_callSpecial?_slot (name := Str.ofString "__next__") hit.typeIs F.slot_tuple_iterator_next
    (wpAny_call_entry F.slot_tuple_iterator_next hit.typeIs F.entry_tuple_iterator_next ?_ (F.args_tuple_iterator_next_1 _)))
  show wpAny _ _ (field (.ref it) 0 >>= _) _ _ s
  refine wpAny_bind (wpAny_field ho hd (x := .ref t) rfl ?_)
  show wpAny _ _ (if (Value.ref t == Value.none) = true then _ else _) _ _ s
  rw [if_neg (show ¬ ((Value.ref t == Value.none) = true) from Bool.false_ne_true)]
  show wpAny _ _ (field (.ref it) 1 >>= _) _ _ s
  refine wpAny_bind (wpAny_field ho hd (x := .int i 0) rfl ?_)
  show wpAny _ _ (seqItems? (.ref t) >>= _) _ _ s
  refine wpAny_bind (wpAny_seqItems hol hdl ?_)
  simp only [Int.toNat_natCast, hx]
  refine wpAny_bind (wpAny_rule (wpAny_bind (wpAny_setField ho hd (by simp) ?_)))
  show wpAny _ _ (newExc (.type "StopIteration") [] >>= _) _ _ _
  refine wpAny_bind ?_
  simp only [newExc, newTuple]
  refine wpAny_bind (wpAny_newObj_type ?_ (by size_fits))
  refine wpAny_bind (m := firstArgMember _ _) (wpAny_of_eq (a := Value.none) (by first | rfl | (simp only [firstArgMember]; rfl)) ?_)
  refine wpAny_newObj_type ?_ (by size_fits)
  simp only [raiseNew]
  refine wpAny_bind (wpAny_handled ?_)
  first | rw [show A.in1.handled = none from hh] | rw [hh]
  refine wpAny_bind (wpAny_pure (wpAny_throw ?_))
  exact hE _ _ (((Heap.SameBut.update ..).extBut.push _).push _) ⟨_, Heap.get?_push_size _ rfl, rfl⟩
end
theorem draws_tuple {prog : Program} {w : World} {A : Around} (hh : A.handled = none) (it l : Addr) (hne : l ≠ it) (items : Array Value) :
    Draws prog w A it [it, l] items.size (fun i v => items[i]? = some v) (fun i h => h.IsTupleIter it l i ∧ h.IsTuple l items) where
  live := fun _ _ st => let ⟨o, ho, _⟩ := st.1; ⟨o, ho⟩
  frame := fun _ _ _ st hk => ⟨let ⟨o, ho, r⟩ := st.1; ⟨o, hk it (by simp) o ho, r⟩, let ⟨o, ho, r⟩ := st.2; ⟨o, hk l (by simp) o ho, r⟩⟩
  item := fun i s Q E hi st hQ => by
    refine nextOf_tuple st.1 st.2 (x := items[i]) (by simp [hi]) fun h' hit' hs' => ?_
    exact hQ _ h' s.toks (by simp [hi]) ⟨hit', st.2.extBut hs'.extBut hne⟩ hs'
  done := fun s Q E st hE => nextOf_tuple_end hh st.1 st.2 (by simp) hE
end Mine
namespace Mine
open PySem PySem.Spec PySem.Calls PyProof.Rows PySem.W
noncomputable def enumL : Nat → List V → List V
  | _, [] => []
  | i, v :: r => .tup [.int i, v] :: enumL (i + 1) r
noncomputable def seqOf : V → Option (List V)
  | .lst vs => some vs
  | .tup vs => some vs
  | _ => none
noncomputable def enumS (tgt : SA) (fb : SS) (fi : SE) : SS := fun loc σ => match fi loc σ with
  | some (v, σ₁) => (match seqOf v with
    | some ws => forL tgt fb (enumL 0 ws) loc σ₁
    | none => none)
  | none => none
theorem enumL_len : ∀ (ws : List V) (k : Nat), (enumL k ws).length = ws.length
  | [], _ => rfl
  | _ :: r, k => by simp [enumL, enumL_len r]
theorem enumL_get : ∀ (ws : List V) (k i : Nat) {v : V}, (enumL k ws)[i]? = some v → ∃ u, ws[i]? = some u ∧ v = .tup [.int ((k + i : Nat) : Int), u]
  | [], _, _, _, h => by simp [enumL] at h
  | u :: r, k, 0, v, h => by
    simp only [enumL, List.getElem?_cons_zero, Option.some.injEq] at h
    exact ⟨u, rfl, h.symm⟩
  | _ :: r, k, i + 1, v, h => by
    simp only [enumL, List.getElem?_cons_succ] at h
    obtain ⟨u, h1, h2⟩ := enumL_get r (k + 1) i h
    exact ⟨u, h1, by rw [h2, Nat.add_right_comm, Nat.add_assoc]⟩
section
variable {c : Cx} {k : Nat} {vars : List (Nat × Str)} {sc : Scope}
theorem it_enum {A : Around} {e it l : Addr} {items : Array Value} {ws : List V} {St₀ : Nat → Heap → Prop} (D : Draws c.prog c.w A.in1 it [it, l] items.size (fun i v => items[i]? = some v) St₀) (hei : e ≠ it) (hel : e ≠ l) (elts : List Expr) (n : Nat) (tp : Pos) :
    It c A e [e, it] [e, it, l] (.Tuple elts n tp) (enumL 0 ws) true (fun F' i ρ h => (∃ old, IsEnum h e it (i : Nat) old) ∧ St₀ i h ∧ VRs c.lay F' ρ h ws items.toList) where
  sub := fun b hb => by
    rcases List.mem_cons.mp hb with rfl | hb
    · exact List.mem_cons_self
    · rw [List.mem_singleton.mp hb]; exact List.mem_cons_of_mem _ List.mem_cons_self
  frame := fun _ _ i ρ h ρ' h' ⟨⟨old, he⟩, hs, v⟩ G hk => ⟨⟨old, hk e List.mem_cons_self _ he⟩, D.frame _ _ _ hs fun b hb o x => hk b (List.mem_cons_of_mem _ hb) o x, v.grow G⟩
  item := fun F' hw i s ρ σ v Q E hv st H q => by
    obtain ⟨⟨old, he⟩, hs, rs⟩ := st
    obtain ⟨u, hu, rfl⟩ := enumL_get ws 0 i hv
    rw [Nat.zero_add] at *
    obtain ⟨y, hy, ry⟩ := rs.get i hu
    rw [Array.getElem?_toList] at hy
    have hlt : i < items.size := (Array.getElem?_eq_some_iff.mp hy).1
    have hef : e ∉ [it, l] := by simp [hei, hel]
    have hn := get_size_none s.heap
    have fr := H.freeNew hn
    have hte : s.heap.objs.size ≠ e := Nat.ne_of_gt (Heap.lt_size he)
    refine wpAny_pyNext_enum_itemD D he hs hlt hei hef fun x h' tk hP ho hs' hT hz hk => ?_
    rw [hy] at hP
    cases hP
    refine wpAny_letOwnedTupleGo_enum ho fun h'' he'' hs'' => ?_
    replace hs'' : Heap.SameBut e h' h'' := hs''
    have kp : ∀ b o, b ∉ [e, it] → s.heap.get? b = some o → h''.get? b = some o := fun b o nb x => by
      have n1 : b ≠ e := fun z => nb (z ▸ List.mem_cons_self)
      have n2 : b ≠ it := fun z => nb (z ▸ List.mem_cons_of_mem _ List.mem_cons_self)
      exact (hs''.2 b n1).trans (hk b o n1 n2 x)
    have hs3 : St₀ (i + 1) h'' := D.frame _ _ _ hs' fun b hb o x => (hs''.2 b fun z => hef (z ▸ hb)).trans x
    have th : ∀ b o, s.heap.get? b = some o → ∃ o', h''.get? b = some o' := fun b o x => by
      by_cases z : b ∈ [e, it]
      · rcases List.mem_cons.mp z with rfl | z
        · exact ⟨_, he''⟩
        · rw [List.mem_singleton.mp z]; exact D.live _ _ hs3
      · exact ⟨o, kp b o z x⟩
    have kF : ∀ b o, ¬ F' b → s.heap.get? b = some o → h''.get? b = some o := fun b o nf x => kp b o (fun z => nf (hw b z)) x
    have G : Grow F' ρ s.heap F' ρ h'' := ⟨fun b o fr x => kF b o fr.1 x, fun _ _ fr _ => fr, fun _ _ x => x⟩
    have hi1 : ((i : Int) + 1) = ((i + 1 : Nat) : Int) := by simp
    refine q _ h'' (tk + 1) ⟨⟨y, by rw [← hi1]; exact he''⟩, hs3, rs.grow G⟩ (H.sameF kF fun b o _ x => th b o x) kp th ?_
    exact .tup fr ⟨_, (hs''.2 _ hte).trans hT, rfl, _, rfl⟩ (.cons .int (.cons (ry.grow G) .nil))
  done := fun F' s ρ Q E st q => by
    obtain ⟨⟨old, he⟩, hs, rs⟩ := st
    have hl : (enumL 0 ws).length = items.size := by rw [enumL_len, rs.length]; simp
    rw [hl] at hs
    exact wpAny_pyNext_enum_endD D he hs fun h' hx => q h' s.toks fun b o nb x => hx b o (fun z => nb (z ▸ List.mem_cons_of_mem _ List.mem_cons_self)) x
  self := fun _ _ _ _ _ _ st q => let ⟨⟨_, he⟩, _⟩ := st; wpAny_pyIter_enum he q

theorem enum_start {A : Around} {s : Shared} {F : Addr → Prop} {ρ : List Addr} {σ : Hp} {ws : List V} {l : Addr} {items : Array Value} {St₀ : Nat → Heap → Prop} {h' : Heap} {elts : List Expr} {n : Nat} {tp : Pos}
    (H : HInv c.lay F c.h₀ ρ σ s.heap) (fl : Free F ρ l) (rs : VRs c.lay F ρ s.heap ws items.toList) (hl : ∃ o, s.heap.get? l = some o)
    (D : Draws c.prog c.w A.in1 s.heap.objs.size [s.heap.objs.size, l] items.size (fun i v => items[i]? = some v) St₀) (he : IsEnum h' (s.heap.objs.size + 1) s.heap.objs.size 0 .none) (hs : St₀ 0 h') (hk : ∀ b o, s.heap.get? b = some o → h'.get? b = some o) :
    ItStart c A F ρ (lend none σ) (.Tuple elts n tp) (enumL 0 ws) s { s with heap := h' } (s.heap.objs.size + 1) [s.heap.objs.size + 1, s.heap.objs.size] [s.heap.objs.size + 1, s.heap.objs.size, l] true
      (fun F' i ρ h => (∃ old, IsEnum h (s.heap.objs.size + 1) s.heap.objs.size (i : Nat) old) ∧ St₀ i h ∧ VRs c.lay F' ρ h ws items.toList) := by
  obtain ⟨ol, hl⟩ := hl
  have hlt := Heap.lt_size hl
  have n0 := get_size_none s.heap
  have n1 : s.heap.get? (s.heap.objs.size + 1) = none := by
    cases z : s.heap.get? (s.heap.objs.size + 1) with
    | none => rfl
    | some o => exact absurd (Heap.lt_size z) (Nat.not_lt.mpr (Nat.le_succ _))
  have new : ∀ b ∈ [s.heap.objs.size + 1, s.heap.objs.size], s.heap.get? b = none ∧ ∃ o, h'.get? b = some o := fun b hb => by
    rcases List.mem_cons.mp hb with rfl | hb
    · exact ⟨n1, _, he⟩
    · rw [List.mem_singleton.mp hb]; exact ⟨n0, D.live _ _ hs⟩
  obtain ⟨H', G⟩ := H.moreF (F' := fun a => F a ∨ a ∈ [s.heap.objs.size + 1, s.heap.objs.size]) (fun a f => .inl f) hk fun a f => f.imp id (new a)
  refine ⟨it_enum D (Nat.succ_ne_self _) (fun z => absurd hlt (Nat.not_lt.mpr (z ▸ Nat.le_succ _))) elts n tp, ⟨⟨_, he⟩, hs, rs.grow G⟩, H', new, fun b hb => ?_, hk, rfl, rfl, rfl, G⟩
  have fresh : ∀ a, s.heap.get? a = none → (∃ o, h'.get? a = some o) → ¬ Live ρ (lend none σ) a ∧ ¬ F a ∧ ∃ o, h'.get? a = some o := fun a ha x =>
    ⟨fun z => (H.freeNew ha).2 z.mem, (H.freeNew ha).1, x⟩
  rcases List.mem_cons.mp hb with rfl | hb
  · exact fresh _ n1 ⟨_, he⟩
  · rcases List.mem_cons.mp hb with rfl | hb
    · exact fresh _ n0 (D.live _ _ hs)
    · rw [List.mem_singleton.mp hb]
      exact ⟨fun z => fl.2 z.mem, fl.1, _, hk _ _ hl⟩

theorem enum_call {A : Around} {s : Shared} {F : Addr → Prop} {ρ : List Addr} {σ : Hp} {v : V} {x : Value} {ws : List V} {elts : List Expr} {n : Nat} {tp : Pos} {Q E : Value → Shared → Prop} (hh : A.handled = none) (H : HInv c.lay F c.h₀ ρ σ s.heap) (r : VR c.lay F ρ s.heap v x) (e : seqOf v = some ws)
    (q : ∀ Ia s₁ wr fp St, ItStart c A F ρ (lend none σ) (.Tuple elts n tp) (enumL 0 ws) s s₁ Ia wr fp true St → Q (.ref Ia) s₁) : wpAny (model c.prog c.w) A (call (.type "enumerate") [x]) Q E s := by
  cases r with
  | @lst _ a items fa hl rs =>
    cases e
    obtain ⟨m, hl'⟩ := id hl
    have ne : a ≠ s.heap.objs.size := Nat.ne_of_lt (Heap.lt_size hl')
    refine call_enumerate_list hl.isList fun h' he hit hz hk => q _ _ _ _ _ (enum_start H fa rs ⟨_, hl'⟩ (Draws.list (A := A.in1) hh _ a ne items) he ⟨hit, hl.isList.at fun o x => hk a o x⟩ hk)
  | @tup _ a items fa hl rs =>
    cases e
    obtain ⟨o, hl', r'⟩ := id hl
    have ne : a ≠ s.heap.objs.size := Nat.ne_of_lt (Heap.lt_size hl')
    exact call_enumT hl fun h' he hit hz hk => q _ _ _ _ _ (enum_start H fa rs ⟨_, hl'⟩ (draws_tuple (A := A.in1) hh _ a ne items) he ⟨hit, o, hk _ _ hl', r'⟩ hk)
  | _ => cases e

theorem den_enum (O : c.Ok) {p pc pos tp : Pos} {n : Nat} {elts : List Expr} {X : Expr} {body : List Stmt} {tgt : SA} {fb : SS} {fi : SE} (hf : DenE c k vars sc (.Name "enumerate" p) (kE (.g (.type "enumerate")))) (hi : DenE c k vars sc X fi) (ht : DenA c k vars sc (.Tuple elts n tp) tgt) (hb : DenSs c k vars sc body fb) (hst : starFree [X] = true) :
    DenS c k vars sc (.For (.Tuple elts n tp) (.Call (.Name "enumerate" p) [X] [] pc) body [] pos) (enumS tgt fb fi) := by
  intro env A s F ρ loc σ fl loc' σ' Q E hs hA H I e q
  unfold enumS at e
  split at e
  · rename_i v σ₁ e1
    split at e
    · rename_i ws e2
      refine wpAny_For (wpAny_Call_Name_kw (hf env A s F ρ loc σ _ σ _ _ hs.1 hA H I rfl fun x s₁ ρ₁ H₁ A₁ r₁ => ?_)) (fun _ => rfl)
      cases r₁
      have I₁ := I.adv H A₁
      have ea : argsE [fi] loc σ = some ([v], σ₁) := by simp only [argsE, e1]
      refine callWith_of (P := fun h => c.K.In h) (by rw [any_free hst]; rfl) (fun h X => Keep.type _ h X) (evalArgs_any (starEach_free hst) ?_)
      refine den_argC hi den_argNil hst env A s₁ F ρ₁ loc σ [v] σ₁ pc _ _ hs.1 hA H₁ I₁ ea fun xs s₂ ρ₂ H₂ A₂ r₂ => ⟨O.atK H₂, ?_⟩
      cases r₂ with
      | cons r₂ r₃ =>
        cases r₃
        have I₂ := I₁.adv H₁ A₂
        have A02 := A₁.trans H.len H₁.len A₂
        refine enum_call (elts := elts) (n := n) (tp := tp) hA.2.1 H₂ r₂ e2 fun Ia s₃ wr fp St S => S.it.self rfl _ _ _ _ _ S.st ?_
        have nwr : ∀ a o, s₂.heap.get? a = some o → a ∉ wr := fun a o e m => by rw [(S.new a m).1] at e; cases e
        have hO : ∀ a, OwnW env a → F a ∧ a ∉ wr := fun a w => ⟨I₂.ownF a w, by obtain ⟨_, o, e⟩ := H₂.fr a (I₂.ownF a w); exact nwr a o e⟩
        have I₃ : FrI c.lay vars (fun a => F a ∨ a ∈ wr) ρ₂ env loc s₃.heap := I₂.moreF (fun a f => .inl f) S.keep S.grow
        refine for_go S.it (fun a m => .inr m) ht hb hs hA S.inv I₃ S.st (fun a m => ⟨(S.fp a m).1, fun w => (S.fp a m).2.1 (hO a w).1, (S.fp a m).2.2⟩) e fun z s₄ ρ₄ h' tk H₄ I₄ A₄ r₄ hk => ?_
        obtain ⟨H₅, A₅, G₅⟩ := loop_end (tk := tk) (fun a f => by obtain ⟨_, o, e⟩ := H₂.fr a f; exact nwr a o e) S (fun n h => nomatch h) (fun n h => nomatch h) H₄ A₄ I₂.ownF hk
        refine q z _ ρ₄ H₅ (I₄.dropWr hO hk G₅) (A02.ofE.trans H.len H₂.len A₅) ?_
        cases r₄ with
        | next => exact .next
        | brk => exact .brk
        | cont => exact .cont
        | ret r => exact .ret (r.grow G₅)
    · cases e
  · cases e
end
end Mine
namespace Mine
open PySem PySem.Spec PySem.Calls PyProof.Rows PySem.W
open PySem.Sre PySem.Builtin.Re in
noncomputable def drv : Nat → Sre.M → Option Sre.M
  | 0, _ => none
  | n + 1, m => let m' := m.runFor reTurnSteps; if m'.outcome.isSome then some m' else drv n m'
noncomputable def isHit : Option Sre.M → Bool
  | some m => (match m.outcome with | some .matched => true | _ => false)
  | none => false
noncomputable def hitN (x : Str) : Bool := isHit (drv 16 (Sre.forSearch codeN x.cps 0 0 x.cps.size false)) && Nat.ble x.length smax
open PySem.Sre PySem.Builtin.Re in
theorem drive_go {M' : Model} {A : Around} {E : Value → Shared → Prop} {Q : Sre.M → Shared → Prop} {m' : Sre.M} : ∀ (n N : Nat) (m : Sre.M) (s : Shared), n ≤ N → drv n m = some m' → Q m' s → wpAny M' A (reDrive N m) Q E s
  | 0, _, _, _, _, e, _ => by cases e
  | n + 1, 0, _, _, h, _, _ => absurd h (by omega)
  | n + 1, N + 1, m, s, h, e, q => by
    unfold drv at e
    unfold reDrive
    dsimp only at e ⊢
    split at e
    · rename_i ho
      cases e
      rw [if_pos ho]
      exact wpAny_pure q
    · rename_i ho
      rw [if_neg ho]
      exact wpAny_bind (wpAny_rule (drive_go n N _ s (by omega) e q))
open PySem.Sre PySem.Builtin.Re in
theorem answer_hit {M' : Model} {A : Around} {E : Value → Shared → Prop} {s : Shared} {P : Fin → Shared → Prop} {t : ReTarget} {m m' : Sre.M} (hd : drv 16 m = some m') (ho : m'.outcome = some .matched) (hg : t.groups = 0)
    (q : ∀ h' a, (∀ b o, s.heap.get? b = some o → h'.get? b = some o) → (∃ o, h'.get? a = some o ∧ o.cls = .type "re.Match") → P (.done (.ret (.ref a))) { s with heap := h' }) : wpAny M' A (reAnswer t m) P E s := by
  unfold reAnswer
  refine wpAny_bind ?_
  unfold reRunToEnd
  refine wpAny_bind (drive_go 16 (2 ^ 64) m s (by decide) hd ?_)
  refine wpAny_bind (rules_loop _ _ ?_)
  rw [ho]
  refine wpAny_pure ?_
  dsimp only
  unfold reNewMatch
  rw [hg]
  refine wpAny_bind ?_
  dsimp only [List.range, List.range.loop, List.flatMap, List.any]
  simp only [Bool.false_eq_true, if_false]
  unfold newTuple newFields
  refine wpAny_bind (wpAny_newObj_type ?_ (by show Array.size _ ≤ sizeLine; simp [sizeLine]))
  refine wpAny_newObj_type ?_ (by size_fits)
  exact wpAny_pure (q _ _ (fun b o e => Heap.get?_push_of_some _ (Heap.get?_push_of_some _ e)) ⟨_, Heap.get?_push_size _ rfl, rfl⟩)
open PySem.Sre PySem.Builtin.Re in
theorem call_search_hit {prog : Program} {w : World} {A : Around} {E Q : Value → Shared → Prop} {s : Shared} {p ct : Addr} {oP oC : Obj} {fs items : Array Value} {n : Nat} {x : Str} {t : Tok} (hP : s.heap.get? p = some oP) (hcl : oP.cls = .type "re.Pattern") (hd : oP.data = .fields fs) (h5 : fs.getD 5 .none = .ref ct) (h6 : reRawNat (fs.getD 6 .none) = 0) (h2 : reRawNat (fs.getD 2 .none) = 0) (hC : s.heap.get? ct = some oC) (hcd : oC.data = .seq items n)
    (hco : (items.map reRawOf).map (·.toNat) = codeN) (hx : hitN x = true)
    (q : ∀ h' a, (∀ b o, s.heap.get? b = some o → h'.get? b = some o) → (∃ o, h'.get? a = some o ∧ o.cls = .type "re.Match") → Q (.ref a) { s with heap := h' }) : wpAny (model prog w) A (call (.builtin "re.Pattern.search") [.ref p, .str x t]) Q E s := by
  obtain ⟨g1, g2⟩ := Bool.and_eq_true_iff.mp hx
  refine wpAny_call_entry slot_search ⟨oP, hP, hcl⟩ entry_search ?_ (args_search _ _)
  unfold Builtin.«re.Pattern.search»
  refine wpAny_bind (target_go hP hd h5 h6 hC hcd ?_)
  have hl : min ((2 : Int) ^ 63 - 1).toNat x.cps.size = x.cps.size := by
    have hz' : x.cps.size ≤ 1000000 := Nat.le_of_ble_eq_true g2
    have : ((2 : Int) ^ 63 - 1).toNat = 9223372036854775807 := by decide
    rw [this]; omega
  rw [hl, hco, h2]
  unfold isHit at g1
  split at g1
  · rename_i m' e
    split at g1
    · rename_i ho
      exact answer_hit e ho rfl fun h' a hk hc => ⟨_, rfl, q h' a hk hc⟩
    · cases g1
  · cases g1
theorem noBool_match : typeLookup (.type "re.Match") "__bool__" = pure none := by rw [typeLookup_type, builtinLookup_eq_fast]; kernel_rfl
theorem noLen_match : typeLookup (.type "re.Match") "__len__" = pure none := by rw [typeLookup_type, builtinLookup_eq_fast]; kernel_rfl
theorem truthy_match {prog : Program} {w : World} {A : Around} {E : Value → Shared → Prop} {Q : Bool → Shared → Prop} {s : Shared} {a : Addr} (h : ∃ o, s.heap.get? a = some o ∧ o.cls = .type "re.Match") (q : Q true s) : wpAny (model prog w) A (truthy (.ref a)) Q E s := by
  have hT : s.TypeIs (.ref a) "re.Match" := h
  unfold truthy
  first
    | refine wpAny_bind (wpAny_callSpecial?_none (name := Str.ofString "__bool__") hT noBool_match ?_)
    | refine wpAny_bind (wpAny_pure (wpAny_bind (wpAny_callSpecial?_none (name := Str.ofString "__bool__") hT noBool_match ?_)))
  first
    | refine wpAny_bind (wpAny_specialOf (name := Str.ofString "__len__") hT noLen_match ?_)
    | refine wpAny_bind (wpAny_pure (wpAny_bind (wpAny_specialOf (name := Str.ofString "__len__") hT noLen_match ?_)))
  exact wpAny_pure q
example : hitN "  \t \tVia" = true := by decide +kernel
end Mine
namespace Mine
open PySem PySem.Spec PySem.Calls PyProof.Rows PySem.W
noncomputable def NoFields (h : Heap) (L : Addr) : Prop := ∃ o, h.get? L = some o ∧ ∀ vs, o.data ≠ .fields vs
noncomputable def OutF (F : Addr → Prop) (ρ : List Addr) (h : Heap) (x : Env) : Prop := x.scope.kind ≠ .module ∧ ∃ L, x.frame = some L ∧ ((F L ∧ NoFields h L) ∨ ρ[0]? = some L)
noncomputable def Outs (F : Addr → Prop) (ρ : List Addr) (h : Heap) (l : List Env) : Prop := ∀ x ∈ l, OutF F ρ h x
structure FrO (F : Addr → Prop) (ρ : List Addr) (h : Heap) (env : Env) (A : Around) (l : List Env) : Prop where
  fr : env.frame = some env.locals
  st : A.frames = some (env :: l)
  out : Outs F ρ h l
  ne : ∀ x ∈ l, ∀ L, x.frame = some L → ¬ OwnW env L
structure Up (c : Cx) (F : Addr → Prop) (ρ : List Addr) (σ : Hp) (s : Shared) (σr : Hp) (W G : Addr → Prop) (tl : List Addr) (hr : Heap) (s' : Shared) : Prop where
  sub : ∀ a, F a → G a
  inv : HInv c.lay G c.h₀ (ρ ++ tl) σr hr
  new : ∀ a ∈ tl, s.heap.get? a = none
  keep : ∀ b o, s.heap.get? b = some o → ¬ Live ρ σ b → ¬ W b → hr.get? b = some o
  there : ∀ b o, s.heap.get? b = some o → ∃ o', hr.get? b = some o'
  gens : s'.gens = s.gens
  drawn : s'.drawn = s.drawn
  os : s'.os = s.os
noncomputable def FlyAt (c : Cx) (F : Addr → Prop) (ρ : List Addr) (σ : Hp) (s : Shared) (l : List Env) (σr : Hp) (W : Addr → Prop) (e : Addr) (s' : Shared) : Prop :=
  ∃ (G : Addr → Prop) (tl : List Addr) (hr B : Heap) (a0 : Value) (frs : List Addr), Up c F ρ σ s σr W G tl hr s' ∧ (∀ b ∈ frs, b ∈ l.filterMap (·.frame) ∨ s.heap.get? b = none) ∧
    (∀ b ∈ frs, (G b ∨ ∃ ns vs, (ρ ++ tl)[0]? = some b ∧ σr[0]? = some (.frm b ns vs)) ∧ NoFields hr b) ∧
    (∀ b o, hr.get? b = some o → b ∉ frs → B.get? b = some o) ∧ Heap.FlyingW B l e (.type "ValueError") a0 s'.heap ∧ hr.UpToSlots s'.heap
noncomputable def MadeAt (c : Cx) (F : Addr → Prop) (ρ : List Addr) (σ : Hp) (s : Shared) (L : Addr) (σr : Hp) (W : Addr → Prop) (e : Addr) (s' : Shared) : Prop :=
  ∃ (G : Addr → Prop) (tl : List Addr) (hr : Heap) (vs : List Value), Up c F ρ σ s σr W G tl hr s' ∧ NoFields hr L ∧ Heap.MadeExcOf hr s'.heap e (.type "ValueError") vs
section
variable {c : Cx} {F : Addr → Prop} {ρ ρ₁ : List Addr} {σ σ₁ σr : Hp} {s s₁ s' : Shared} {W W' G : Addr → Prop} {tl : List Addr} {hr : Heap} {e : Addr} {l : List Env} {L : Addr}
theorem none_back {W : Addr → Prop} (A₁ : Adv ρ σ s ρ₁ σ₁ s₁ W) {a : Addr} (h : s₁.heap.get? a = none) : s.heap.get? a = none := by
  cases z : s.heap.get? a with
  | none => rfl
  | some o => obtain ⟨o', e⟩ := A₁.there a o z; rw [h] at e; cases e
theorem Up.trans (A₁ : Adv ρ σ s ρ₁ σ₁ s₁ W) (hl : σ.length = ρ.length) (U : Up c F ρ₁ σ₁ s₁ σr W G tl hr s') : ∃ tl', ρ₁ ++ tl = ρ ++ tl' ∧ Up c F ρ σ s σr W G tl' hr s' := by
  obtain ⟨t1, rfl, h1⟩ := A₁.tl
  refine ⟨t1 ++ tl, by simp, U.sub, by rw [← List.append_assoc]; exact U.inv, fun a ha => ?_, fun b o e nl nw => U.keep b o (A₁.keep b o e nl nw) (notLive_adv hl A₁ nl ⟨o, e⟩) nw, fun b o e => ?_, U.gens.trans A₁.gens, U.drawn.trans A₁.drawn, U.os.trans A₁.os⟩
  · rcases List.mem_append.mp ha with ha | ha
    · exact h1 a ha
    · exact none_back A₁ (U.new a ha)
  · obtain ⟨o', e'⟩ := A₁.there b o e
    exact U.there b o' e'
theorem Up.mono (hW : ∀ b, W b → W' b) (U : Up c F ρ σ s σr W G tl hr s') : Up c F ρ σ s σr W' G tl hr s' := ⟨U.sub, U.inv, U.new, fun b o e nl nw => U.keep b o e nl fun w => nw (hW b w), U.there, U.gens, U.drawn, U.os⟩
theorem FlyAt.trans (A₁ : Adv ρ σ s ρ₁ σ₁ s₁ W) (hl : σ.length = ρ.length) (x : FlyAt c F ρ₁ σ₁ s₁ l σr W e s') : FlyAt c F ρ σ s l σr W e s' := by
  obtain ⟨G, tl, hr, B, a0, frs, U, f1, f2, f3, f4, f5⟩ := x
  obtain ⟨tl', e', U'⟩ := U.trans A₁ hl
  exact ⟨G, tl', hr, B, a0, frs, U', fun b hb => (f1 b hb).imp id (none_back A₁), fun b hb => by rw [← e']; exact f2 b hb, f3, f4, f5⟩
theorem FlyAt.mono (hW : ∀ b, W b → W' b) (x : FlyAt c F ρ σ s l σr W e s') : FlyAt c F ρ σ s l σr W' e s' := by
  obtain ⟨G, tl, hr, B, a0, frs, U, r⟩ := x
  exact ⟨G, tl, hr, B, a0, frs, U.mono hW, r⟩
theorem MadeAt.trans (A₁ : Adv ρ σ s ρ₁ σ₁ s₁ W) (hl : σ.length = ρ.length) (x : MadeAt c F ρ₁ σ₁ s₁ L σr W e s') : MadeAt c F ρ σ s L σr W e s' := by
  obtain ⟨G, tl, hr, vs, U, r⟩ := x
  obtain ⟨tl', _, U'⟩ := U.trans A₁ hl
  exact ⟨G, tl', hr, vs, U', r⟩
theorem Outs.adv (A₁ : Adv ρ σ s ρ₁ σ₁ s₁ W) (H : HInv c.lay F c.h₀ ρ σ s.heap) (hW : ∀ x ∈ l, ∀ L, x.frame = some L → ¬ W L) (o : Outs F ρ s.heap l) : Outs F ρ₁ s₁.heap l := by
  intro x hx
  obtain ⟨k1, L, k2, k3⟩ := o x hx
  refine ⟨k1, L, k2, ?_⟩
  rcases k3 with ⟨fL, ob, h1, h2⟩ | h0
  · exact .inl ⟨fL, ob, A₁.keep L ob h1 (fun z => (H.own L z.mem).1 fL) (hW x hx L k2), h2⟩
  · obtain ⟨t1, rfl, _⟩ := A₁.tl
    exact .inr (by rw [List.getElem?_append_left (List.getElem?_eq_some_iff.mp h0).1]; exact h0)
theorem FrO.adv {env : Env} {A : Around} (A₁ : Adv ρ σ s ρ₁ σ₁ s₁ W) (H : HInv c.lay F c.h₀ ρ σ s.heap) (hW : ∀ b, W b → OwnW env b) (o : FrO F ρ s.heap env A l) : FrO F ρ₁ s₁.heap env A l :=
  ⟨o.fr, o.st, o.out.adv A₁ H fun x hx L hL w => o.ne x hx L hL (hW L w), o.ne⟩
end

noncomputable def RaE (c : Cx) (k : Nat) (vars : List (Nat × Str)) (sc : Scope) (ex : Expr) (r : Loc → Hp → Hp → Prop) : Prop :=
  ∀ (env : Env) (A : Around) (s : Shared) (F : Addr → Prop) (ρ : List Addr) (loc : Loc) (σ σr : Hp) (l : List Env) (Q E : Value → Shared → Prop),
    env.scope = sc → AOk c k A → HInv c.lay F c.h₀ ρ σ s.heap → FrI c.lay vars F ρ env loc s.heap → FrO F ρ s.heap env A l → r loc σ σr →
    (∀ e s', FlyAt c F ρ σ s (env :: l) σr NoW e s' → E (.ref e) s') → wpAny (model c.prog c.w) A (eval ex env) Q E s
noncomputable def RaS (c : Cx) (k : Nat) (vars : List (Nat × Str)) (sc : Scope) (st : Stmt) (r : Loc → Hp → Hp → Prop) : Prop :=
  ∀ (env : Env) (A : Around) (s : Shared) (F : Addr → Prop) (ρ : List Addr) (loc : Loc) (σ σr : Hp) (l : List Env) (Q : Flow → Shared → Prop) (E : Value → Shared → Prop),
    StOk c k sc env A → AOk c k A → HInv c.lay F c.h₀ ρ σ s.heap → FrI c.lay vars F ρ env loc s.heap → FrO F ρ s.heap env A l → r loc σ σr →
    (∀ e s', FlyAt c F ρ σ s (env :: l) σr (OwnW env) e s' ∨ MadeAt c F ρ σ s env.locals σr (OwnW env) e s' → E (.ref e) s') → wpAny (model c.prog c.w) A (exec st env) Q E s
noncomputable def RaSs (c : Cx) (k : Nat) (vars : List (Nat × Str)) (sc : Scope) (sts : List Stmt) (r : Loc → Hp → Hp → Prop) : Prop :=
  ∀ (env : Env) (A : Around) (s : Shared) (F : Addr → Prop) (ρ : List Addr) (loc : Loc) (σ σr : Hp) (l : List Env) (Q : Flow → Shared → Prop) (E : Value → Shared → Prop),
    StOk c k sc env A → AOk c k A → HInv c.lay F c.h₀ ρ σ s.heap → FrI c.lay vars F ρ env loc s.heap → FrO F ρ s.heap env A l → r loc σ σr →
    (∀ e s', FlyAt c F ρ σ s (env :: l) σr (OwnW env) e s' ∨ MadeAt c F ρ σ s env.locals σr (OwnW env) e s' → E (.ref e) s') → wpAny (model c.prog c.w) A (execs sts env) Q E s
noncomputable def CodeRa (c : Cx) (k : Nat) (cd : List Value → Code) (r : List V → Hp → Hp → Prop) : Prop :=
  ∀ (A : Around) (s : Shared) (F : Addr → Prop) (ρ : List Addr) (σ σr : Hp) (vs : List V) (xs : List Value) (l : List Env) (R : Result → Shared → Prop),
    AOk c k A → HInv c.lay F c.h₀ ρ σ s.heap → VRs c.lay F ρ s.heap vs xs → A.frames = some l → Outs F ρ s.heap l → r vs σ σr →
    (∀ e s', FlyAt c F ρ σ s l σr NoW e s' → R (.error (.ref e)) s') → codeAny (model c.prog c.w) A (cd xs) R s
noncomputable def raN (f : SS) (r : Loc → Hp → Hp → Prop) : Loc → Hp → Hp → Prop := fun loc σ σr => ∃ loc₁ σ₁, f loc σ = some (.next, loc₁, σ₁) ∧ r loc₁ σ₁ σr
noncomputable def raI (ft : ST) (r : Loc → Hp → Hp → Prop) : Loc → Hp → Hp → Prop := fun loc σ σr => ∃ σ₁, ft loc σ = some (true, σ₁) ∧ r loc σ₁ σr
noncomputable def raA (fo : SE) (chk : Hp → V → Bool) (r : Loc → Hp → Hp → Prop) : Loc → Hp → Hp → Prop := fun loc σ σr => ∃ a σ₁, fo loc σ = some (a, σ₁) ∧ chk σ₁ a = true ∧ r loc σ₁ σr
noncomputable def raM (fo : SE) (chk : Hp → V → Bool) (fs : List SE) (r : List V → Hp → Hp → Prop) : Loc → Hp → Hp → Prop := fun loc σ σr => ∃ a σ₁ vs σ₂, fo loc σ = some (a, σ₁) ∧ chk σ₁ a = true ∧ argsE fs loc σ₁ = some (vs, σ₂) ∧ r (a :: vs) σ₂ σr
noncomputable def raK (fo : SE) (chk : Hp → V → Bool) (f₀ : SE) (b : Bool) (r : List V → Hp → Hp → Prop) : Loc → Hp → Hp → Prop := fun loc σ σr => ∃ a σ₁ v σ₂, fo loc σ = some (a, σ₁) ∧ chk σ₁ a = true ∧ f₀ loc σ₁ = some (v, σ₂) ∧ r [a, v, .bool b] σ₂ σr
noncomputable def raC (n nloc : Nat) (r : Loc → Hp → Hp → Prop) : List V → Hp → Hp → Prop := fun vs σ σr => vs.length = n ∧ r (locOf vs nloc) σ σr ∧ ∃ L ns vs, σr[0]? = some (.frm L ns vs)
noncomputable def raD (n nloc : Nat) (r : Loc → Hp → Hp → Prop) : List V → Hp → Hp → Prop := fun vs σ σr => vs.length + 1 = n ∧ r (locOf (vs ++ [.edict]) nloc) σ σr ∧ ∃ L ns vs, σr[0]? = some (.frm L ns vs)
noncomputable def raZ : Loc → Hp → Hp → Prop := fun _ σ σr => σr = σ
section
variable {c : Cx} {k : Nat} {vars : List (Nat × Str)} {sc : Scope}
theorem ra_here {st : Stmt} {rest : List Stmt} {r : Loc → Hp → Hp → Prop} (h : RaS c k vars sc st r) : RaSs c k vars sc (st :: rest) r := by
  intro env A s F ρ loc σ σr l Q E hs hA H I O e q
  exact wpAny_execs_cons (h env A s F ρ loc σ σr l _ _ hs hA H I O e q)
theorem ra_next {st : Stmt} {rest : List Stmt} {f : SS} {r : Loc → Hp → Hp → Prop} (hf : DenS c k vars sc st f) (h : RaSs c k vars sc rest r) : RaSs c k vars sc (st :: rest) (raN f r) := by
  intro env A s F ρ loc σ σr l Q E hs hA H I O e q
  obtain ⟨loc₁, σ₁, e1, e2⟩ := e
  refine wpAny_execs_cons (hf env A s F ρ loc σ .next loc₁ σ₁ _ _ hs hA H I e1 fun x s₁ ρ₁ H₁ I₁ A₁ r₁ => ?_)
  cases r₁
  refine h env A s₁ F ρ₁ loc₁ σ₁ σr l _ _ hs hA H₁ I₁ (O.adv A₁ H fun _ w => w) e2 fun ex s' z => q ex s' ?_
  exact z.imp (fun z => z.trans A₁ H.len) fun z => z.trans A₁ H.len
theorem ra_if {t : Expr} {a b : List Stmt} {pos : Pos} {ft : ST} {r : Loc → Hp → Hp → Prop} (ht : DenT c k vars sc t ft) (ha : RaSs c k vars sc a r) : RaS c k vars sc (.If t a b pos) (raI ft r) := by
  intro env A s F ρ loc σ σr l Q E hs hA H I O e q
  obtain ⟨σ₁, e1, e2⟩ := e
  refine wpAny_If (ht env A s F ρ loc σ true σ₁ _ _ hs.1 hA H I e1 fun s₁ ρ₁ H₁ A₁ => ?_)
  rw [if_pos rfl]
  have A₁' : Adv ρ σ s ρ₁ σ₁ s₁ (OwnW env) := A₁.ofE
  refine ha env A s₁ F ρ₁ loc σ₁ σr l _ _ hs hA H₁ (I.adv H A₁) (O.adv A₁' H fun _ w => w) e2 fun ex s' z => q ex s' ?_
  exact z.imp (fun z => z.trans A₁' H.len) fun z => z.trans A₁' H.len
theorem ra_expr {e₀ : Expr} {pos : Pos} {r : Loc → Hp → Hp → Prop} (h : RaE c k vars sc e₀ r) (hs : ∀ env : Env, swapsWith e₀ none pos.line env = pure false) : RaS c k vars sc (.Expr e₀ pos) r := by
  intro env A s F ρ loc σ σr l Q E hsc hA H I O e q
  exact wpAny_Expr_any (h env A s F ρ loc σ σr l _ _ hsc.1 hA H I O e fun ex s' z => q ex s' (.inl (z.mono fun _ w => w.elim))) (inter_false I.kind) (hs env)
theorem ra_tup {e₀ : Expr} {rest : List Expr} {n : Nat} {pos : Pos} {r : Loc → Hp → Hp → Prop} (h : RaE c k vars sc e₀ r) (hst : starFree [e₀] = true) : RaE c k vars sc (.Tuple (e₀ :: rest) n pos) r := by
  intro env A s F ρ loc σ σr l Q E hs hA H I O e q
  exact wpAny_Tuple (wpAny_items_cons (h env A s F ρ loc σ σr l _ _ hs hA H I O e q) (by cases e₀ <;> first | rfl | cases hst))
theorem ra_methArg {o e₀ : Expr} {name : Str} {apos pos : Pos} {f : Value} {fo : SE} {chk : Hp → V → Bool} {r : Loc → Hp → Hp → Prop} (ho : DenE c k vars sc o fo) (hm : MethAt c name f chk) (hk : Keep c f) (h : RaE c k vars sc e₀ r) (hst : starFree [e₀] = true)
    (hev : MethForm o name apos [e₀] [] pos sc) : RaE c k vars sc (.Call (.Attribute o name apos) [e₀] [] pos) (raA fo chk r) := by
  intro env A s F ρ loc σ σr l Q E hs hA H I O e q
  obtain ⟨a, σ₁, e1, hc, e2⟩ := e
  obtain ⟨pl, he⟩ := hev env hs
  refine methodCall_KW (pl := pl) ?_ he
  refine ho env A s F ρ loc σ a σ₁ _ _ hs hA H I e1 fun x s₁ ρ₁ H₁ A₁ r₁ => ?_
  refine hm A s₁ F ρ₁ σ₁ a x pl _ _ H₁ r₁ hc ?_
  refine callWith_of (P := fun h => c.K.In h) (by rw [any_free hst]; rfl) (fun h X => hk _ h X) (evalArgs_any (starEach_free hst) ?_)
  refine wpAny_items_cons (h env A s₁ F ρ₁ loc σ₁ σr l _ _ hs hA H₁ (I.adv H A₁) (O.adv A₁ H fun _ w => w.elim) e2 fun ex s' z => q ex s' (z.trans A₁ H.len)) (starFree_cons hst env)
theorem ra_meth (O' : c.Ok) {o : Expr} {name : Str} {apos pos : Pos} {f : Value} {args : List Expr} {fo : SE} {fs : List SE} {chk : Hp → V → Bool} {r : List V → Hp → Hp → Prop} (ho : DenE c k vars sc o fo) (hm : MethAt c name f chk) (hk : Keep c f) (hF : CodeRa c k (fun xs => .call f ⟨xs, []⟩) r) (ha : DenArgs c k vars sc args (argsE fs)) (hst : starFree args = true)
    (hev : MethForm o name apos args [] pos sc) : RaE c k vars sc (.Call (.Attribute o name apos) args [] pos) (raM fo chk fs r) := by
  intro env A s F ρ loc σ σr l Q E hs hA H I O e q
  obtain ⟨a, σ₁, vs, σ₂, e1, hc, e2, e3⟩ := e
  obtain ⟨pl, he⟩ := hev env hs
  refine methodCall_KW (pl := pl) ?_ he
  refine ho env A s F ρ loc σ a σ₁ _ _ hs hA H I e1 fun x s₁ ρ₁ H₁ A₁ r₁ => ?_
  refine hm A s₁ F ρ₁ σ₁ a x pl _ _ H₁ r₁ hc ?_
  refine callWith_of (P := fun h => c.K.In h) (by rw [any_free hst]; rfl) (fun h X => hk _ h X) (evalArgs_any (starEach_free hst) ?_)
  have I₁ := I.adv H A₁
  refine ha env A s₁ F ρ₁ loc σ₁ vs σ₂ pos _ _ hs hA H₁ I₁ e2 fun xs s₂ ρ₂ H₂ A₂ r₂ => ⟨O'.atK H₂, ?_⟩
  have A02 := A₁.trans H.len H₁.len A₂
  have O₂ := O.adv A02 H fun _ w => w.elim
  have I₂ := I₁.adv H₁ A₂
  refine wpAny_call (hF A s₂ F ρ₂ σ₂ σr (a :: vs) (x :: xs) (env :: l) _ hA H₂ (.cons (r₁.adv H₁ A₂) r₂) O.st (fun y hy => ?_) e3 fun ex s' z => q ex s' (z.trans A02 H.len))
  rcases List.mem_cons.mp hy with rfl | hy
  · refine ⟨by rw [I.kind]; decide, _, O.fr, .inl ⟨I₂.loF, ?_⟩⟩
    obtain ⟨m, ob, es, ep, h1, h2, _⟩ := I₂.ns
    exact ⟨ob, h1, fun vs z => by rw [h2] at z; cases z⟩
  · exact O₂.out y hy

theorem fly_leave {A : Around} {env : Env} {F : Addr → Prop} {ρ : List Addr} {σ σr : Hp} {s : Shared} {h' : Heap} {tk : Nat} {l : List Env} {e : Addr} {s' : Shared} {Q : Unit → Shared → Prop} {E : Value → Shared → Prop} {M : Model}
    (hfr : A.frames = some (env :: l)) (hf : env.frame = some env.locals) (hkind : env.scope.kind ≠ .module) (ho : Outs F ρ s.heap l) (H : HInv c.lay F c.h₀ ρ σ s.heap) (notOwn : ∀ b o, s.heap.get? b = some o → ¬ OwnW env b) (hk : ∀ b o, s.heap.get? b = some o → h'.get? b = some o)
    (hσ : ∃ L ns vs, σr[0]? = some (.frm L ns vs))
    (x : FlyAt c (fun a => F a ∨ OwnW env a) ρ σ { s with heap := h', toks := tk } (env :: l) σr (OwnW env) e s' ∨ MadeAt c (fun a => F a ∨ OwnW env a) ρ σ { s with heap := h', toks := tk } env.locals σr (OwnW env) e s')
    (q : ∀ s'', FlyAt c F ρ σ s l σr NoW e s'' → Q () s'') : wpAny M A (leaving env (.ref e)) Q E s' := by
  have back : ∀ b, h'.get? b = none → s.heap.get? b = none := fun b hb => by
    cases z : s.heap.get? b with
    | none => rfl
    | some o => have := hk b o z; rw [hb] at this; cases this
  have up : ∀ {G : Addr → Prop} {tl : List Addr} {hr : Heap} {h'' : Heap}, Up c (fun a => F a ∨ OwnW env a) ρ σ { s with heap := h', toks := tk } σr (OwnW env) G tl hr s' → Up c F ρ σ s σr NoW G tl hr { s' with heap := h'' } := fun U =>
    ⟨fun a f => U.sub a (.inl f), U.inv, fun a ha => back a (U.new a ha),
     fun b o e nl _ => U.keep b o (hk b o e) nl (notOwn b o e), fun b o e => U.there b o (hk b o e), U.gens, U.drawn, U.os⟩
  have own0 : s.heap.get? env.locals = none := by
    cases z : s.heap.get? env.locals with
    | none => rfl
    | some o => exact absurd (.inl rfl) (notOwn _ o z)
  rcases x with ⟨G, tl, hr, B, a0, frs, U, f1, f2, f3, f4, f5⟩ | ⟨G, tl, hr, vs, U, hL, hx⟩
  · refine wpAny_leaves_onW hfr hf f4 fun h'' k1 k2 => q _ ⟨G, tl, hr, B, a0, frs, up U, fun b hb => ?_, f2, f3, k1, f5.trans k2⟩
    rcases f1 b hb with h1 | h1
    · rcases List.mem_filterMap.mp h1 with ⟨y, hy, hyf⟩
      rcases List.mem_cons.mp hy with rfl | hy
      · rw [hf] at hyf; cases hyf; exact .inr own0
      · exact .inl (List.mem_filterMap.mpr ⟨y, hy, hyf⟩)
    · exact .inr (back b h1)
  · have hfrs : ∀ b ∈ (env :: l).filterMap (·.frame), (G b ∨ ∃ ns vs, (ρ ++ tl)[0]? = some b ∧ σr[0]? = some (.frm b ns vs)) ∧ NoFields hr b := by
      intro b hb
      rcases List.mem_filterMap.mp hb with ⟨y, hy, hyf⟩
      rcases List.mem_cons.mp hy with rfl | hy
      · rw [hf] at hyf; cases hyf
        exact ⟨.inl (U.sub _ (.inr (.inl rfl))), hL⟩
      · obtain ⟨_, L, k2, k3⟩ := ho y hy
        rw [hyf] at k2; cases k2
        rcases k3 with ⟨fL, ob, h1, h2⟩ | h0
        · exact ⟨.inl (U.sub _ (.inl fL)), ob, U.keep b ob (hk b ob h1) (fun z => (H.own b z.mem).1 fL) (notOwn b ob h1), h2⟩
        · have h0' : (ρ ++ tl)[0]? = some b := by rw [List.getElem?_append_left (List.getElem?_eq_some_iff.mp h0).1]; exact h0
          obtain ⟨L', ns, ws, hσ⟩ := hσ
          obtain ⟨rfl, m, xs, ⟨ob, es, ep, h1, h2, _⟩, _⟩ := U.inv.objs 0 _ b hσ h0'
          exact ⟨.inr ⟨ns, ws, h0', hσ⟩, ob, h1, fun vs z => by rw [h2] at z; cases z⟩
    have ff : ∀ l' : List Env, (∀ y ∈ l', y ∈ env :: l) → hr.FunFrames (hideAll hr ((env :: l).filterMap (·.frame))) l' := by
      intro l'
      induction l' with
      | nil => intro _; trivial
      | cons y l' ih =>
        intro hy
        have hm := hy y List.mem_cons_self
        obtain ⟨L, hyf⟩ : ∃ L, y.frame = some L := by
          rcases List.mem_cons.mp hm with rfl | hm
          · exact ⟨_, hf⟩
          · obtain ⟨_, L, k2, _⟩ := ho y hm; exact ⟨L, k2⟩
        have hin : L ∈ (env :: l).filterMap (·.frame) := List.mem_filterMap.mpr ⟨y, hm, hyf⟩
        obtain ⟨_, ob, h1, h2⟩ := hfrs L hin
        refine ⟨?_, ⟨L, ob, hyf, hideAll_none _ hin, h1, h2⟩, ih fun z hz => hy z (List.mem_cons_of_mem _ hz)⟩
        rcases List.mem_cons.mp hm with rfl | hm
        · exact hkind
        · exact (ho y hm).1
    refine wpAny_leaves_madeW hfr hf (fun b o e => of_hideAll _ e) (ff _ fun _ h => h) hx fun h'' t k1 _ _ k4 => q _ ⟨G, tl, hr, _, _, _, up U, fun b hb => ?_, hfrs, fun b o e n => hideAll_get _ e n, k1, (Heap.UpToSlots.of_keeps hx.keeps).trans k4⟩
    rcases List.mem_filterMap.mp hb with ⟨y, hy, hyf⟩
    rcases List.mem_cons.mp hy with rfl | hy
    · rw [hf] at hyf; cases hyf; exact .inr own0
    · exact .inl (List.mem_filterMap.mpr ⟨y, hy, hyf⟩)
theorem ra_run (O : c.Ok) {f : Addr} {fd : FuncData} {body : List Stmt} {names : List Str} {nloc : Nat} {r : Loc → Hp → Hp → Prop} (S : FnShape c f fd body names vars nloc) (hb : RaSs c k vars fd.scope body r)
    {A : Around} {s : Shared} {F : Addr → Prop} {ρ : List Addr} {σ σr : Hp} {vs : List V} {xs : List Value} {l : List Env} {R : Result → Shared → Prop}
    (hA : AOk c (k + 1) A) (H : HInv c.lay F c.h₀ ρ σ s.heap) (rv : VRs c.lay F ρ s.heap vs xs) (hn : xs.length = names.length) (hfr : A.frames = some l) (ho : Outs F ρ s.heap l) (e : r (locOf vs nloc) σ σr) (hσ : ∃ L ns vs, σr[0]? = some (.frm L ns vs))
    (q : ∀ e s', FlyAt c F ρ σ s l σr NoW e s' → R (.error (.ref e)) s') :
    wpAny (model c.prog c.w) A.in1 (newFunctionEnv fd.scope fd.globals fd.closure (names.zip xs) (fd.qualname ++ ".<locals>.") (some f) fd.code none fd.builtins)
        (fun env s₂ => s₂.heap.NoLimit ∧ codeAny (model c.prog c.w) A (.func body env) R s₂) (fun e s' => R (.error e) s') s := by
  refine code_enter O S H rv hn fun env h' tk eS eF _ notOwn hk H' I' => codeAny_func ?_
  have hkind : env.scope.kind ≠ .module := by rw [I'.kind]; decide
  have O' : FrO (fun a => F a ∨ OwnW env a) ρ h' env (A.deeper env) l := by
    refine ⟨eF, Around.frames_deeper hfr, fun y hy => ?_, fun y hy L hL w => ?_⟩
    · obtain ⟨k1, L, k2, k3⟩ := ho y hy
      exact ⟨k1, L, k2, k3.imp (fun ⟨fL, ob, h1, h2⟩ => ⟨.inl fL, ob, hk _ _ h1, h2⟩) id⟩
    · obtain ⟨_, L', k2, k3⟩ := ho y hy
      rw [hL] at k2; cases k2
      rcases k3 with ⟨_, ob, h1, _⟩ | h0
      · exact notOwn _ _ h1 w
      · obtain ⟨_, _, ob, h1⟩ := H.own _ (List.mem_of_getElem? h0)
        exact notOwn _ _ h1 w
  refine hb env (A.deeper env) { s with heap := h', toks := tk } (fun a => F a ∨ OwnW env a) ρ (locOf vs nloc) σ σr l _ _ (hA.st eS eF) (hA.deeper env) H' I' O' e fun ex s' z => ?_
  exact fly_leave O'.st eF hkind ho H notOwn hk hσ z fun s'' z' => q ex s'' z'
theorem code_ra (O : c.Ok) {f : Addr} {fd : FuncData} {body : List Stmt} {names : List Str} {nloc : Nat} {r : Loc → Hp → Hp → Prop} {mk : List Value → Args} (S : FnShape c f fd body names vars nloc) (hb : RaSs c k vars fd.scope body r) (B : Binds c.K fd mk names false) :
    CodeRa c (k + 1) (fun xs => .call (.ref f) (mk xs)) (raC names.length nloc r) := by
  intro A s F ρ σ σr vs xs l R hA H rv hfr ho e q
  obtain ⟨e1, e2, e3⟩ := e
  obtain ⟨oc, od, osl, look⟩ := S.look
  refine codeAny_call_function hA.room ((O.atK H) _ _ look) rfl S.co S.gen S.stmts (codeRec_of (O.atK H) S.code) ?_
  have hx : xs.length = names.length := by rw [← rv.length, e1]
  refine B _ _ _ _ _ xs (O.atK H) (by simpa using hx) ?_
  simp only [Bool.false_eq_true, if_false]
  exact ra_run O S hb hA H rv hx hfr ho e2 e3 q
theorem code_raX (O : c.Ok) {f : Addr} {fd : FuncData} {body : List Stmt} {names : List Str} {nloc : Nat} {r : Loc → Hp → Hp → Prop} {mk : List Value → Args} (S : FnShape c f fd body names vars nloc) (hb : RaSs c k vars fd.scope body r) (B : Binds c.K fd mk names true) :
    CodeRa c (k + 1) (fun xs => .call (.ref f) (mk xs)) (raD names.length nloc r) := by
  intro A s F ρ σ σr vs xs l R hA H rv hfr ho e q
  obtain ⟨e1, e2, e3⟩ := e
  obtain ⟨oc, od, osl, look⟩ := S.look
  refine codeAny_call_function hA.room ((O.atK H) _ _ look) rfl S.co S.gen S.stmts (codeRec_of (O.atK H) S.code) ?_
  have hx : xs.length + 1 = names.length := by rw [← rv.length, e1]
  refine B _ _ _ _ _ xs (O.atK H) (by simpa using hx) ?_
  simp only [if_true]
  have hk := push_keep s.heap emptyDict
  have fr := H.freeNew (get_size_none s.heap)
  have nsys : (s.heap.objs.size == sysModules) = false := by
    obtain ⟨o, _, _, ho, _⟩ := O.atG H
    have h3 : (3 : Nat) < s.heap.objs.size := Heap.lt_size ho
    exact beq_eq_false_iff_ne.mpr fun z => by have : s.heap.objs.size = 1 := z; omega
  have A₁ : Adv ρ σ s ρ σ { s with heap := s.heap.push emptyDict } NoW := Adv.ext hk
  have H₁ : HInv c.lay F c.h₀ ρ σ (s.heap.push emptyDict) := H.ext hk
  have r₁ : VRs c.lay F ρ (s.heap.push emptyDict) (vs ++ [.edict]) (xs ++ [.ref s.heap.objs.size]) := (rv.adv H A₁).append (.cons (.edict fr (Heap.get?_push_size _ rfl) nsys) .nil)
  exact ra_run (s := { s with heap := s.heap.push emptyDict }) O S hb hA H₁ r₁ (by simpa using hx) hfr (ho.adv A₁ H fun _ _ _ _ w => w.elim) e2 e3 fun ex s' z => q ex s' (z.trans A₁ H.len)
end
end Mine
namespace Mine
open PySem PySem.Spec PySem.Calls PyProof.Rows PySem.W
section
variable {c : Cx} {k : Nat} {vars : List (Nat × Str)} {sc : Scope}
theorem ra_methKw (O' : c.Ok) {o : Expr} {name kn : Str} {apos pos p1 p2 : Pos} {n : Nat} {b : Bool} {f : Value} {e₀ : Expr} {fo f₀ : SE} {chk : Hp → V → Bool} {r : List V → Hp → Hp → Prop} (ho : DenE c k vars sc o fo) (hm : MethAt c name f chk) (hk : Keep c f) (hF : CodeRa c k (fun xs => .call f ⟨xs.dropLast, [(kn, xs.getLastD .none)]⟩) r) (ha : DenE c k vars sc e₀ f₀) (hst : starFree [e₀] = true)
    (hev : MethForm o name apos [e₀] [⟨some kn, .Constant (.bool b) n p1, p2⟩] pos sc) : RaE c k vars sc (.Call (.Attribute o name apos) [e₀] [⟨some kn, .Constant (.bool b) n p1, p2⟩] pos) (raK fo chk f₀ b r) := by
  intro env A s F ρ loc σ σr l Q E hs hA H I O e q
  obtain ⟨a, σ₁, v, σ₂, e1, hc, e2, e3⟩ := e
  obtain ⟨pl, he⟩ := hev env hs
  refine methodCall_KW (pl := pl) ?_ he
  have hargs := den_argC ha (den_argNil (c := c) (k := k) (vars := vars) (sc := sc)) hst
  refine ho env A s F ρ loc σ a σ₁ _ _ hs hA H I e1 fun x s₁ ρ₁ H₁ A₁ r₁ => ?_
  refine hm A s₁ F ρ₁ σ₁ a x pl _ _ H₁ r₁ hc ?_
  refine callWith_of (P := fun h => c.K.In h) (by rw [any_free hst]; rfl) (fun h X => hk _ h X) ?_
  have hse := starFree_cons hst env
  have I₁ := I.adv H A₁
  have e2' : argsE [f₀] loc σ₁ = some ([v], σ₂) := by simp only [argsE, e2]
  have goal : wpAny (model c.prog c.w) A (spliced (backTo pos (starEach [e₀] env))) (fun vs s₁ => wpAny (model c.prog c.w) A (evalAll ((backToKw pos (keywordEach [⟨some kn, .Constant (.bool b) n p1, p2⟩] env)).map (·.2))) (fun ks s₂ => c.K.In s₂.heap ∧ wpAny (model c.prog c.w) A (call f ([x] ++ vs) ([kn].zip ks)) Q E s₂) E s₁) E s₁ := by
    refine hargs env A s₁ F ρ₁ loc σ₁ [v] σ₂ pos _ _ hs hA H₁ I₁ e2' fun xs s₂ ρ₂ H₂ A₂ r₂ => ?_
    refine wpAny_evalAll_cons (wpAny_bind ?_)
    refine wpAny_Constant_bool (wpAny_bind (wpAny_standAt (wpAny_pure (wpAny_evalAll_nil ⟨O'.atK H₂, ?_⟩))))
    have A02 := A₁.trans H.len H₁.len A₂
    have O₂ := O.adv A02 H fun _ w => w.elim
    have I₂ := I₁.adv H₁ A₂
    have outs : Outs F ρ₂ s₂.heap (env :: l) := fun y hy => by
      rcases List.mem_cons.mp hy with rfl | hy
      · refine ⟨by rw [I.kind]; decide, _, O.fr, .inl ⟨I₂.loF, ?_⟩⟩
        obtain ⟨m, ob, es, ep, h1, h2, _⟩ := I₂.ns
        exact ⟨ob, h1, fun vs z => by rw [h2] at z; cases z⟩
      · exact O₂.out y hy
    have z := hF A s₂ F ρ₂ σ₂ σr ([a] ++ [v] ++ [.bool b]) ([x] ++ xs ++ [.bool b]) (env :: l) (R := fun r s' => match r with | .ok (.ret v) => Q v s' | .ok _ => False | .error e => E e s') hA H₂ ((((VRs.cons r₁ .nil).adv H₁ A₂).append r₂).append (.cons .bool .nil)) O.st outs e3 fun ex s' z => q ex s' (z.trans A02 H.len)
    dsimp only at z
    rw [List.dropLast_concat] at z
    have gl : ([x] ++ xs ++ [Value.bool b]).getLastD .none = .bool b := by rw [List.getLastD_eq_getLast?, List.getLast?_concat]; rfl
    rw [gl] at z
    exact wpAny_call (codeAny_mono z fun r s' h => by cases r with | error e => exact h | ok f => cases f <;> first | exact h | exact h.elim)
  rw [hse] at goal ⊢
  exact evalArgs_kw rfl goal
theorem ra_raise {np cpos pos : Pos} {e₀ : Expr} {v₀ : V} (hn : DenE c k vars sc (.Name "ValueError" np) (kE (.g (.type "ValueError")))) (ha : DenE c k vars sc e₀ (kE v₀)) (hst : starFree [e₀] = true) :
    RaS c k vars sc (.Raise (some (.Call (.Name "ValueError" np) [e₀] [] cpos)) none pos) raZ := by
  intro env A s F ρ loc σ σr l Q E hs hA H I O e q
  unfold raZ at e
  subst e
  have hse := starFree_cons (r := []) hst env
  refine Raise_madeB PySem.F.excCall_ValueError PySem.F.excRaise_ValueError hA.2.1 (hn env A s F ρ loc σr _ σr _ _ hs.1 hA H I rfl fun x s₁ ρ₁ H₁ A₁ r₁ => ?_) hse rfl
  cases r₁
  refine ⟨rfl, ?_⟩
  have I₁ := I.adv H A₁
  refine den_argC ha (den_argNil (c := c) (k := k) (vars := vars) (sc := sc)) hst env A s₁ F ρ₁ loc σr [v₀] σr cpos _ _ hs.1 hA H₁ I₁ rfl fun xs s₂ ρ₂ H₂ A₂ r₂ => ⟨by rw [← r₂.length, sizeLine_eq]; show 1 ≤ _; omega, fun h' ex hx => q ex _ (.inr ?_)⟩
  have A02 := (A₁.trans H.len H₁.len A₂)
  have I₂ := I₁.adv H₁ A₂
  obtain ⟨tl, rfl, ht⟩ := A02.tl
  refine ⟨F, tl, s₂.heap, _, ⟨fun _ f => f, H₂, ht, fun b o e nl _ => A02.keep b o e nl id, A02.there, A02.gens, A02.drawn, A02.os⟩, ?_, hx.of⟩
  obtain ⟨m, ob, es, ep, h1, h2, _⟩ := I₂.ns
  exact ⟨ob, h1, fun vs z => by rw [h2] at z; cases z⟩
noncomputable def PatG (c : Cx) (pN : Addr) : Prop := ∃ fs sl ct items m sl', c.K.lookup pN = some ⟨.type "re.Pattern", none, .fields fs, sl⟩ ∧ fs.getD 5 .none = .ref ct ∧ Builtin.Re.reRawNat (fs.getD 6 .none) = 0 ∧ Builtin.Re.reRawNat (fs.getD 2 .none) = 0 ∧ c.K.lookup ct = some ⟨.type "tuple", none, .seq items m, sl'⟩ ∧ (items.map Builtin.Re.reRawOf).map (·.toNat) = codeN
noncomputable def hitT (pN : Addr) (fo fv : SE) : ST := fun loc σ => match fo loc σ with
  | some (.g (.ref a), σ₁) => if Nat.beq a pN then (match fv loc σ₁ with
    | some (.str x, σ₂) => if hitN x then some (true, σ₂) else none
    | _ => none) else none
  | _ => none
theorem den_hit (O' : c.Ok) {pN : Addr} (P : PatG c pN) {o e₀ : Expr} {apos pos : Pos} {fo fv : SE} (ho : DenE c k vars sc o fo) (ha : DenE c k vars sc e₀ fv) (hst : starFree [e₀] = true) (hev : MethForm o "search" apos [e₀] [] pos sc) (hk : Keep c (.builtin "re.Pattern.search"))
    (he : ∀ (env : Env) (whole : Sem Value), isTrue (.Call (.Attribute o "search" apos) [e₀] [] pos) env whole = (do let v ← whole; standAt (Expr.Call (.Attribute o "search" apos) [e₀] [] pos).pos; holding [v] (truthy v))) : DenT c k vars sc (.Call (.Attribute o "search" apos) [e₀] [] pos) (hitT pN fo fv) := by
  intro env A s F ρ loc σ b σ' Q E hs hA H I e q
  refine wpAny_isTrue_value ?_ (he env _)
  unfold hitT at e
  split at e
  · rename_i a σ₁ e1
    split at e
    · rename_i hp
      have := Nat.eq_of_beq_eq_true hp
      subst this
      split at e
      · rename_i x σ₂ e2
        split at e
        · rename_i hx
          cases e
          obtain ⟨pl, hev⟩ := hev env hs
          obtain ⟨fs, sl, ct, items, m, sl', h1, h2, h3, h4, h5, h6⟩ := P
          refine methodCall_KW (pl := pl) ?_ hev
          refine ho env A s F ρ loc σ _ σ₁ _ _ hs hA H I e1 fun y s₁ ρ₁ H₁ A₁ r₁ => ?_
          cases r₁
          refine getMethod_search ((O'.atK H₁) _ _ h1) rfl rfl ?_
          refine callWith_of (P := fun h => c.K.In h) (by rw [any_free hst]; rfl) (fun h X => hk _ h X) (evalArgs_any (starEach_free hst) ?_)
          have e2' : argsE [fv] loc σ₁ = some ([.str x], σ') := by simp only [argsE, e2]
          refine den_argC ha (den_argNil (c := c) (k := k) (vars := vars) (sc := sc)) hst env A s₁ F ρ₁ loc σ₁ [.str x] σ' pos _ _ hs hA H₁ (I.adv H A₁) e2' fun xs s₂ ρ₂ H₂ A₂ r₂ => ⟨O'.atK H₂, ?_⟩
          cases r₂ with
          | cons r₂ r₃ =>
            cases r₃; cases r₂
            refine call_search_hit ((O'.atK H₂) _ _ h1) rfl rfl h2 h3 h4 ((O'.atK H₂) _ _ h5) rfl h6 hx fun h' m hk hm => truthy_match hm ?_
            exact q _ ρ₂ (H₂.ext hk) ((A₁.trans H.len H₁.len A₂).trans H.len H₂.len (Adv.ext hk))
        · cases e
      · cases e
    · cases e
  · cases e

theorem bi_any (O' : c.Ok) {x : Str} {v₀ : Value} {pos : Pos} (hk : sc.names.lookup x = some .globalImplicit) (hv : nsIn c.K mainGlobals x = some none) (hb : bootBuiltins x = some v₀) (hn : x ≠ "__name__") (hd : (x == ("__debug__" : Str)) = false)
    (env : Env) (A : Around) (s : Shared) (F : Addr → Prop) (ρ : List Addr) (loc : Loc) (σ : Hp) (Q E : Value → Shared → Prop) (hs : env.scope = sc) (H : HInv c.lay F c.h₀ ρ σ s.heap) (I : FrI c.lay vars F ρ env loc s.heap) (q : Q v₀ s) : wpAny (model c.prog c.w) A (eval (.Name x pos) env) Q E s := by
  have hg := O'.atG H
  have hbi := O'.atB H
  rw [← I.glob] at hg
  rw [← I.bi] at hbi
  exact Name_function_global I.kind (by rw [Env.kindOf, hs]; exact hk) (loadGlobal_builtin hg (mg_none_of O'.kin O'.g hv) hbi ((O'.builtins x hn).trans hb) q) hd
theorem land {F : Addr → Prop} {ρ : List Addr} {σ σr : Hp} {s s' : Shared} {env el : Env} {loc : Loc} {LF : Addr} {G : Addr → Prop} {tl : List Addr} {hr B h : Heap} {frs : List Addr}
    (H : HInv c.lay F c.h₀ ρ σ s.heap) (I : FrI c.lay vars F ρ env loc s.heap) (hf : env.frame = some env.locals) (hel : el.frame = some LF) (h0 : ∃ ns vs, σ[0]? = some (.frm LF ns vs)) (hσ : σr.take σ.length = σ)
    (U : Up c F ρ σ s σr NoW G tl hr s') (f1 : ∀ b ∈ frs, b ∈ [env, el].filterMap (·.frame) ∨ s.heap.get? b = none) (f2 : ∀ b ∈ frs, (G b ∨ ∃ ns vs, (ρ ++ tl)[0]? = some b ∧ σr[0]? = some (.frm b ns vs)) ∧ NoFields hr b)
    (f3 : ∀ b o, hr.get? b = some o → b ∉ frs → B.get? b = some o) (hB : B.StaysIn h) (hs : hr.UpToSlots h) :
    HInv c.lay F c.h₀ ρ σ h ∧ FrI c.lay vars F ρ env loc h ∧ Adv ρ σ s ρ σ { s' with heap := h } (OwnW env) := by
  obtain ⟨ns₀, vs₀, h0⟩ := h0
  have hl0 : 0 < ρ.length := by rw [← H.len]; exact (List.getElem?_eq_some_iff.mp h0).1
  obtain ⟨a0, ha0⟩ : ∃ a, ρ[0]? = some a := ⟨_, List.getElem?_eq_getElem hl0⟩
  obtain ⟨rfl, m₀, xs₀, ns₁, _⟩ := H.objs 0 _ _ h0 ha0
  have kp : ∀ b o, hr.get? b = some o → b ∉ frs → h.get? b = some o := fun b o e n => hB b o (f3 b o e n)
  have up : ∀ b o, hr.get? b = some o → b ∈ frs → ∃ sl, h.get? b = some { o with slots := sl } := fun b o e m => by
    obtain ⟨_, ob, h1, h2⟩ := f2 b m
    rw [e] at h1; cases h1
    exact hs b o e h2
  have th : ∀ b o, hr.get? b = some o → ∃ o', h.get? b = some o' := fun b o e => by
    by_cases m : b ∈ frs
    · obtain ⟨sl, z⟩ := up b o e m; exact ⟨_, z⟩
    · exact ⟨o, kp b o e m⟩
  have nfree : ∀ b ∈ frs, ¬ Free G (ρ ++ tl) b := fun b m fr => by
    rcases (f2 b m).1 with g | ⟨_, _, z, _⟩
    · exact fr.1 g
    · exact fr.2 (List.mem_of_getElem? z)
  have GG : Grow G (ρ ++ tl) hr G (ρ ++ tl) h := ⟨fun b o fr e => kp b o e fun m => nfree b m fr, fun b o fr _ => fr, fun _ _ e => e⟩
  have HG : HInv c.lay G c.h₀ (ρ ++ tl) σr h := by
    refine ⟨U.inv.len, U.inv.nodup, fun a ha => ?_, fun a g => ?_, fun n o a e z => ?_, fun b o e => ?_⟩
    · obtain ⟨x, y, o, e⟩ := U.inv.own a ha
      exact ⟨x, y, th a o e⟩
    · obtain ⟨y, o, e⟩ := U.inv.fr a g
      exact ⟨y, th a o e⟩
    · have r := U.inv.objs n o a e z
      by_cases m : a ∈ frs
      · rcases (f2 a m).1 with g | ⟨ns, vs, z0, e0⟩
        · exact absurd g (U.inv.own a (List.mem_of_getElem? z)).1
        · have : n = 0 := nodup_get U.inv.nodup z z0
          subst this
          rw [e0] at e; cases e
          obtain ⟨_, mm, xs, ⟨ob, es, ep, h1, h2⟩, q, v⟩ := r
          obtain ⟨sl, h3⟩ := up a ob h1 m
          exact ⟨rfl, mm, xs, ⟨_, es, ep, h3, h2⟩, q, v.grow GG⟩
      · cases o with
        | lst vs => obtain ⟨items, ⟨n, ho⟩, v⟩ := r; exact ⟨items, ⟨n, kp _ _ ho m⟩, v.grow GG⟩
        | dict C vs => obtain ⟨mm, xs, ⟨o, es, ep, e, z⟩, q, v⟩ := r; exact ⟨mm, xs, ⟨o, es, ep, kp _ _ e m, z⟩, q, v.grow GG⟩
        | frm L ns vs => obtain ⟨rfl, mm, xs, ⟨o, es, ep, e, z⟩, q, v⟩ := r; exact ⟨rfl, mm, xs, ⟨o, es, ep, kp _ _ e m, z⟩, q, v.grow GG⟩
        | dead => trivial
    · refine kp b o (U.inv.base b o e) fun m => ?_
      rcases (f2 b m).1 with g | ⟨_, _, z, _⟩
      · rw [(U.inv.fr b g).1] at e; cases e
      · rw [(U.inv.own b (List.mem_of_getElem? z)).2.1] at e; cases e
  have hlen : ρ.length = σ.length := H.len.symm
  have HF : HInv c.lay F c.h₀ ρ σ h := by
    have z := (HG.lessF U.sub).shrink (ρ := ρ) (tl := tl) (by
      rw [hlen, hσ]
      refine List.all_eq_true.mpr fun o ho => ?_
      obtain ⟨n, hn⟩ := List.getElem?_of_mem ho
      rw [← hlen]; exact H.low hn)
    rwa [hlen, hσ] at z
  have sh : ∀ b o, s.heap.get? b = some o → ¬ Live ρ σ b → hr.get? b = some o := fun b o e nl => U.keep b o e nl id
  have fex : ∀ b o, s.heap.get? b = some o → b ≠ env.locals → b ≠ a0 → ¬ Live ρ σ b → h.get? b = some o := fun b o e n1 n2 nl => by
    refine kp b o (sh b o e nl) fun m => ?_
    rcases f1 b m with z | z
    · simp [hf, hel] at z
      rcases z with z | z
      · exact n1 z
      · exact n2 z
    · rw [e] at z; cases z
  have notLive : ∀ b, F b → ¬ Live ρ σ b := fun b fb z => (H.own b z.mem).1 fb
  have ma0 : a0 ∈ ρ := List.mem_of_getElem? ha0
  have fne : ∀ b, F b → b ≠ a0 := fun b fb z => (H.own a0 ma0).1 (z ▸ fb)
  have nsOk : ∀ m, s.heap.Ns env.locals m → h.Ns env.locals m := fun m ⟨o, es, ep, e, r⟩ => by
    have e1 := sh _ o e (notLive _ I.loF)
    by_cases hm : env.locals ∈ frs
    · obtain ⟨sl, z⟩ := up _ o e1 hm
      exact ⟨_, es, ep, z, r⟩
    · exact ⟨o, es, ep, kp _ o e1 hm, r⟩
  have cellOk : ∀ x cc v, env.cells.lookup x = some cc → s.heap.IsCell cc v → h.IsCell cc v := fun x cc v hx ⟨o, e, r⟩ => by
    obtain ⟨fc, ne, _⟩ := I.cellsF x cc hx
    exact ⟨o, fex cc o e ne (fne cc fc) (notLive cc fc), r⟩
  have GF : Grow F ρ s.heap F ρ h := ⟨fun b o fr e => fex b o e (fun z => fr.1 (z ▸ I.loF)) (fun z => fr.2 (z ▸ ma0)) fun z => fr.2 z.mem, fun _ _ fr _ => fr, fun _ _ e => e⟩
  refine ⟨HF, ⟨I.vok, I.kind, I.glob, I.bi, let ⟨m, z⟩ := I.ns; ⟨m, nsOk m z⟩, I.loF, fun x cc hx => let ⟨y1, y2, v, y3⟩ := I.cellsF x cc hx; ⟨y1, y2, v, cellOk x cc v hx y3⟩, I.cellsNe, I.kinds, fun i x v hi hv => ?_⟩, ?_⟩
  · obtain ⟨y, hy, ry⟩ := I.vals i x v hi hv
    refine ⟨y, ?_, ry.grow GF⟩
    rcases hy with ⟨k1, m, k2, k3⟩ | ⟨k1, cc, k2, k3⟩
    · exact .inl ⟨k1, m, nsOk m k2, k3⟩
    · exact .inr ⟨k1, cc, k2, cellOk x cc _ k2 k3⟩
  · refine ⟨⟨[], by simp, by simp⟩, fun _ _ x => x, fun b o e nl nw => fex b o e (fun z => nw (.inl z)) (fun z => nl ⟨0, z ▸ ha0, _, h0, by simp⟩) nl, fun b o e => ?_, U.gens, U.drawn, U.os⟩
    obtain ⟨o', e'⟩ := U.there b o e
    exact th b o' e'

noncomputable def tryS (LF : Addr) (bad : Loc → Hp → Bool) (f h : SS) : SS := fun loc σ => match (σ[0]? : Option SO) with
  | some (SO.frm L _ _) => if Nat.beq L LF then (if bad loc σ then h loc σ else f loc σ) else none
  | _ => none
theorem den_try {el : Env} {LF : Addr} {e₀ : Expr} {x y : Str} {np py ep hp ap pos : Pos} {n i : Nat} {cpos : Pos} {f : SS} {bad : Loc → Hp → Bool} {r : Loc → Hp → Hp → Prop} (hlf : c.lf = some el) (hkind : el.scope.kind ≠ .module) (hel : el.frame = some LF) (hk6 : k = 6)
    (hf : DenS c k vars sc (.Expr e₀ ep) f) (hr : RaE c k vars sc e₀ r) (hbad : ∀ loc σ, bad loc σ = true → ∃ σr, r loc σ σr ∧ σr.take σ.length = σ) (hsw : ∀ env : Env, swapsWith e₀ none ep.line env = pure false)
    (hnA : ∀ (env : Env) (A : Around) (s : Shared) (F : Addr → Prop) (ρ : List Addr) (loc : Loc) (σ : Hp) (Q E : Value → Shared → Prop), env.scope = sc → HInv c.lay F c.h₀ ρ σ s.heap → FrI c.lay vars F ρ env loc s.heap → Q (.type "ValueError") s → wpAny (model c.prog c.w) A (eval (.Name "ValueError" np) env) Q E s)
    (hm : (i, y) ∈ vars) (hswA : ∀ env : Env, env.scope = sc → swapsWith (.Constant (.str x) n cpos) (some (.Name y py)) ap.line env = pure false) :
    DenS c k vars sc (.Try [.Expr e₀ ep] [.ExceptHandler (some (.Name "ValueError" np)) none [.Assign [.Name y py] (.Constant (.str x) n cpos) ap] hp] [] [] pos) (tryS LF bad f (asgS i (kE (.str x)))) := by
  intro env A s F ρ loc σ fl loc' σ' Q E hs hA H I e q
  unfold tryS at e
  split at e
  · rename_i L ns vs h0
    split at e
    · rename_i hL
      have := Nat.eq_of_beq_eq_true hL
      subst this
      obtain ⟨hfr, hfe⟩ := hs.2 el hlf hk6
      refine wpAny_Try_except (wpAny_execs_cons ?_)
      split at e
      · rename_i hb
        obtain ⟨σr, e1, e2⟩ := hbad loc σ hb
        unfold asgS kE at e
        simp only at e
        split at e
        · rename_i hi
          cases e
          have h0p : 0 < ρ.length := by rw [← H.len]; exact (List.getElem?_eq_some_iff.mp h0).1
          obtain ⟨a0, ha0⟩ : ∃ a, ρ[0]? = some a := ⟨_, List.getElem?_eq_getElem h0p⟩
          obtain ⟨rfl, _⟩ := H.objs 0 _ _ h0 ha0
          have ma0 : a0 ∈ ρ := List.mem_of_getElem? ha0
          have outs : Outs F ρ s.heap [el] := fun y hy => by
            rw [List.mem_singleton.mp hy]; exact ⟨hkind, a0, hel, .inr ha0⟩
          have ne : ∀ y ∈ [el], ∀ L, y.frame = some L → ¬ OwnW env L := fun y hy L hL w => by
            rw [List.mem_singleton.mp hy, hel] at hL; cases hL
            exact (H.own a0 ma0).1 (I.ownF a0 w)
          refine wpAny_Expr_any (hr env A s F ρ loc σ σr [el] _ _ hs.1 hA H I ⟨hfe, hfr, outs, ne⟩ e1 fun ex s' z => ?_) (inter_false I.kind) (hsw env)
          obtain ⟨G, tl, hr', B, a1, frs, U, f1, f2, f3, f4, f5⟩ := z
          refine wpAny_looks_onW hfr hfe f4 fun h₄ g4 u4 => ?_
          refine wpAny_landsW g4 fun h₅ g5 u5 => ?_
          have u := f5.trans (u4.trans u5)
          obtain ⟨H5, I5, A5⟩ := land H I hfe hel ⟨ns, vs, h0⟩ e2 U f1 f2 f3 g5.1 u
          refine wpAny_handleBy_builtin (X := "ValueError") (T := "ValueError") (b := true) PySem.F.isExc_ValueError PySem.F.notTuple_ValueError (by rw [isSubtype_type]; kernel_rfl) (hnA env _ { s' with heap := h₅ } F ρ loc σ _ _ hs.1 H5 I5 ⟨rfl, g5.there, ?_⟩)
          rw [if_pos rfl]
          refine lands_againW g5 fun h₆ g6 u6 => ?_
          obtain ⟨H6, I6, A6⟩ := land H I hfe hel ⟨ns, vs, h0⟩ e2 U f1 f2 f3 g6.1 (u.trans u6)
          refine wpAny_execs_cons (wpAny_Assign_Name (wpAny_Constant_str ?_) (hswA env hs.1))
          exact store_var (s := { s' with heap := h₆, toks := s'.toks + 1 }) H6 I6 hm hi .str fun s'' H'' I'' A'' => wpAny_execs_nil (q .next s'' ρ H'' I'' ((A6.trans H.len H6.len (Adv.toks (tk := s'.toks + 1))).trans H.len H6.len A'') .next)
        · cases e
      · refine hf env A s F ρ loc σ fl loc' σ' _ _ hs hA H I e fun z s₁ ρ₁ H₁ I₁ A₁ r₁ => ?_
        have w := q z s₁ ρ₁ H₁ I₁ A₁ r₁
        cases r₁ with
        | next => exact wpAny_execs_nil (wpAny_execs_nil w)
        | brk => exact w
        | cont => exact w
        | ret r => exact w
    · cases e
  · cases e
end
end Mine
namespace Mine
open PySem PySem.Spec PySem.Calls PyProof.Rows PySem.W
section
variable {lay : Addr → List Str} {F : Addr → Prop} {h₀ h : Heap} {L : Addr} {names : List Str} {vs : List V}
theorem lend_frame {m : Str → Option Value} {xs : List Value} (H : HInv lay F h₀ [] [] h) (fL : F L) (hN : h.Ns L m) (hm : ∀ (i : Nat) (n : Str) (x : Value), names[i]? = some n → xs[i]? = some x → m n = some x) (r : VRs lay F [] h vs xs) :
    HInv lay (fun a => F a ∧ a ≠ L) h₀ [L] [.frm L names vs] h ∧ Grow F [] h (fun a => F a ∧ a ≠ L) [L] h := by
  have G : Grow F [] h (fun a => F a ∧ a ≠ L) [L] h := ⟨fun _ _ _ e => e, fun b o fr _ => ⟨fun f => fr.1 f.1, fun z => fr.1 (by rw [List.mem_singleton.mp z]; exact fL)⟩, fun n a e => by simp at e⟩
  obtain ⟨ob, es, ep, ho, _⟩ := id hN
  refine ⟨⟨rfl, by simp, fun a ha => ?_, fun a f => H.fr a f.1, fun n o a e z => ?_, H.base⟩, G⟩
  · rw [List.mem_singleton.mp ha]
    exact ⟨fun f => f.2 rfl, (H.fr L fL).1, ob, ho⟩
  · cases n with
    | zero =>
      simp at e z
      subst e z
      exact ⟨rfl, m, xs, hN, hm, r.grow G⟩
    | succ n => simp at e
theorem take_frame (H : HInv lay (fun a => F a ∧ a ≠ L) h₀ [L] [.frm L names vs] h) (hL : h₀.get? L = none) (hb : V.lowBs 0 vs = true) :
    HInv lay F h₀ [] [] h ∧ (∀ v x, V.lowB 0 v = true → VR lay (fun a => F a ∧ a ≠ L) [L] h v x → VR lay F [] h v x) ∧ ∃ m xs, h.Ns L m ∧ (∀ (i : Nat) (n : Str) (x : Value), names[i]? = some n → xs[i]? = some x → m n = some x) ∧ VRs lay F [] h vs xs := by
  have G : Grow (fun a => F a ∧ a ≠ L) [L] h F ([] ++ [L]) h := ⟨fun _ _ _ e => e, fun b o fr _ => ⟨fun f => fr.1 ⟨f, fun z => fr.2 (List.mem_singleton.mpr z)⟩, fr.2⟩, fun _ _ e => e⟩
  obtain ⟨_, m, xs, hN, hm, r⟩ := H.objs 0 _ L rfl rfl
  refine ⟨⟨rfl, List.nodup_nil, fun a ha => (nomatch ha), fun a f => ?_, fun n o a e _ => by simp at e, H.base⟩, fun v x hv r => VR.shrink (ρ := []) hv (r.grow G), m, xs, hN, hm, VRs.shrink (ρ := []) hb (r.grow G)⟩
  by_cases z : a = L
  · obtain ⟨ob, es, ep, ho, _⟩ := hN
    exact ⟨z ▸ hL, ob, z ▸ ho⟩
  · exact H.fr a ⟨f, z⟩
end
theorem two_vals {lay : Addr → List Str} {F : Addr → Prop} {h : Heap} {x0 x1 : Str} {a b u : V} {xs : List Value} {m : Str → Option Value} {env : Env} (r : VRs lay F [] h [a, b] xs) (hN : h.Ns env.locals m) (hm : ∀ (i : Nat) (n : Str) (x : Value), [x0, x1][i]? = some n → xs[i]? = some x → m n = some x) (k0 : env.kindOf x0 = some .local) (k1 : env.kindOf x1 = some .local) {i : Nat} {x : Str} (hi : (i, x) ∈ [(0, x0), (1, x1)]) (hu : [some a, some b][i]? = some (some u)) :
    ∃ y, VarAt env h x y ∧ VR lay F [] h u y := by
  cases r with
  | @cons _ _ z0 _ q0 r =>
    cases r with
    | @cons _ _ z1 _ q1 r =>
      rcases List.mem_cons.mp hi with e | e
      · cases e; cases hu
        exact ⟨z0, .inl ⟨k0, m, hN, hm 0 _ _ rfl rfl⟩, q0⟩
      · cases List.mem_singleton.mp e; cases hu
        exact ⟨z1, .inl ⟨k1, m, hN, hm 1 _ _ rfl rfl⟩, q1⟩
theorem ns_unique {h : Heap} {L : Addr} {m m' : Str → Option Value} (a : h.Ns L m) (b : h.Ns L m') : m = m' := by
  obtain ⟨o, es, ep, h1, h2, _, h3⟩ := a
  obtain ⟨o', es', ep', k1, k2, _, k3⟩ := b
  rw [h1] at k1; cases k1
  rw [h2] at k2; cases k2
  funext x
  rw [← h3, ← k3]
inductive LawB (c : Cx) (vars : List (Nat × Str)) (sc : Scope) (f₀ f₂ : SE) (ft : Addr) : List Stmt → Prop
  | mk {st : Stmt} {t : Str} {tp cp pp rp : Pos} {a₁ e₂ : Expr} (h0 : DenS c 7 vars sc st (asgS 1 f₀)) (ht : DenE c 7 vars sc (.Name t tp) (kE (.g (.ref ft)))) (ha : DenE c 7 vars sc a₁ (nmE 1)) (hst : starFree [a₁] = true) (h2 : DenE c 7 vars sc e₂ f₂) (hm : behindInMarks .Eq e₂ = false) :
    LawB c vars sc f₀ f₂ ft [st, .Return (some (.Compare (.Call (.Name t tp) [a₁] [] cp) [.Eq] [e₂] pp)) rp]
noncomputable def withLf (c : Cx) (env : Env) : Cx := { c with lf := some env }
theorem law_body {c : Cx} (O : c.Ok) {x0 x1 : Str} {sc : Scope} {f₀ f₂ : SE} {ft : Addr} {sts : List Stmt} (B : LawB c [(0, x0), (1, x1)] sc f₀ f₂ ft sts) {A : Around} {env : Env} {s : Shared} {F : Addr → Prop} {sv rv v v' : V} {told : Addr → SF} {Q : Flow → Shared → Prop} {E : Value → Shared → Prop}
    (hs : StOk c 7 sc env A) (hA : AOk c 7 A) (hfr : A.frames = some [env]) (hcl : ∀ x, env.cells.lookup x = none) (hk : Keep c (.ref ft)) (H : HInv c.lay F c.h₀ [] [] s.heap) (I : FrI c.lay [(0, x0), (1, x1)] F [] env [some sv, none] s.heap)
    (htold : FnOk (withLf c env) 7 (fun xs => call (.ref ft) xs) (told env.locals)) (hne : x0 ≠ x1)
    (e0 : f₀ [some sv, none] [] = some (rv, [])) (e1 : ∀ L, told L [rv] [.frm L [x0, x1] [sv, rv]] = some (v, [.frm L [x0, x1] [sv, rv]])) (ev : V.lowB 0 v = true) (e2 : f₂ [some sv, some rv] [] = some (v', [])) (e3 : eqF false [v, v'] [] = some (.bool true, []))
    (q : ∀ s', HInv c.lay F c.h₀ [] [] s'.heap → Adv [] [] s [] [] s' (OwnW env) → Q (.ret (.bool true)) s') : wpAny (model c.prog c.w) A (execs sts env) Q E s := by
  cases B with
  | mk h0 ht ha hst h2 hm =>
    rename_i st t tp cp pp rp a₁ e₂
    refine wpAny_execs_cons (h0 env A s F [] [some sv, none] [] .next [some sv, some rv] [] _ _ hs hA H I (by simp [asgS, e0]) fun z s₁ ρ₁ H₁ I₁ A₁ r₁ => ?_)
    cases r₁
    have : ρ₁ = [] := List.length_eq_zero_iff.mp H₁.len.symm
    subst this
    refine wpAny_execs_cons (wpAny_Return_some (wpAny_Compare1 ?_ hm))
    refine wpAny_Call_Name_kw (ht env A s₁ F [] _ [] _ [] _ _ hs.1 hA H₁ I₁ rfl fun y s₂ ρ₂ H₂ A₂ r₂ => ?_)
    cases r₂
    have : ρ₂ = [] := List.length_eq_zero_iff.mp H₂.len.symm
    subst this
    have I₂ := I₁.adv H₁ A₂
    refine callWith_of (P := fun h => c.K.In h) (by rw [any_free hst]; rfl) (fun h X => hk _ h X) (evalArgs_any (starEach_free hst) ?_)
    have ea : argsE [nmE 1] [some sv, some rv] ([] : Hp) = some ([rv], []) := rfl
    refine den_argC ha (den_argNil (c := c) (k := 7) (vars := [(0, x0), (1, x1)]) (sc := sc)) hst env A s₂ F [] _ [] [rv] [] cp _ _ hs.1 hA H₂ I₂ ea fun xs s₃ ρ₃ H₃ A₃ r₃ => ⟨O.atK H₃, ?_⟩
    have : ρ₃ = [] := List.length_eq_zero_iff.mp H₃.len.symm
    subst this
    have I₃ := I₂.adv H₂ A₃
    have cont : ∃ m y0 y1, s₃.heap.Ns env.locals m ∧ m x0 = some y0 ∧ m x1 = some y1 ∧ VR c.lay F [] s₃.heap sv y0 ∧ VR c.lay F [] s₃.heap rv y1 ∧ env.kindOf x0 = some .local ∧ env.kindOf x1 = some .local := by
      obtain ⟨y0, hy0, r0⟩ := I₃.vals 0 x0 sv (by simp) rfl
      obtain ⟨y1, hy1, r1⟩ := I₃.vals 1 x1 rv (by simp) rfl
      rcases hy0 with ⟨k0, m, n0, g0⟩ | ⟨_, cc, g, _⟩
      · rcases hy1 with ⟨k1, m', n1, g1⟩ | ⟨_, cc, g, _⟩
        · obtain rfl : m = m' := ns_unique n0 n1
          exact ⟨m, y0, y1, n0, g0, g1, r0, r1, k0, k1⟩
        · rw [hcl] at g; cases g
      · rw [hcl] at g; cases g
    obtain ⟨m, y0, y1, hN, g0, g1, r0, r1, k0, k1⟩ := cont
    obtain ⟨H₄, G₄⟩ := lend_frame (names := [x0, x1]) (vs := [sv, rv]) (xs := [y0, y1]) H₃ I₃.loF hN (fun i n x a b => by
      match i with
      | 0 => simp at a b; rw [← a, ← b]; exact g0
      | 1 => simp at a b; rw [← a, ← b]; exact g1
      | i + 2 => simp at a) (.cons r0 (.cons r1 .nil))
    have hA' : AOk (withLf c env) 7 A := ⟨fun el e => by cases e; exact ⟨Nat.le_refl _, fun _ => hfr⟩, hA.2⟩
    refine htold A s₃ (fun a => F a ∧ a ≠ env.locals) [env.locals] [.frm env.locals [x0, x1] [sv, rv]] [rv] xs v _ _ _ hA' H₄ (r₃.grow G₄) (e1 _) fun z s₅ ρ₅ H₅ A₅ r₅ => ?_
    obtain ⟨tl, rfl, _⟩ := A₅.tl
    have : tl = [] := by have := H₅.len; simp at this; exact this
    subst this
    have lows : V.lowBs 0 [sv, rv] = true := by
      have := (VRs.cons r0 (.cons r1 .nil)).low
      exact this
    obtain ⟨H₆, cv, m', xs', hN', hm', r'⟩ := take_frame (F := F) H₅ (H₃.fr _ I₃.loF).1 lows
    have ez := cv v z ev r₅
    have kpF : ∀ b o, s₃.heap.get? b = some o → b ≠ env.locals → s₅.heap.get? b = some o := fun b o e n => A₅.keep b o e (fun z => n (List.mem_singleton.mp z.mem)) id
    have A35 : Adv [] [] s₃ [] [] s₅ (OwnW env) := ⟨⟨[], by simp, by simp⟩, fun _ _ x => x, fun b o e _ nw => kpF b o e fun z => nw (.inl z), A₅.there, A₅.gens, A₅.drawn, A₅.os⟩
    have I₅ : FrI c.lay [(0, x0), (1, x1)] F [] env [some sv, some rv] s₅.heap := by
      refine ⟨I₃.vok, I₃.kind, I₃.glob, I₃.bi, ⟨m', hN'⟩, I₃.loF, fun x cc hx => (by rw [hcl] at hx; cases hx), I₃.cellsNe, I₃.kinds, fun i x u hi hu => ?_⟩
      exact two_vals r' hN' hm' k0 k1 hi hu
    refine h2 env A s₅ F [] _ [] v' [] _ _ hs.1 hA H₆ I₅ e2 fun y s₆ ρ₆ H₇ A₆ r₆ => ?_
    have : ρ₆ = [] := List.length_eq_zero_iff.mp H₇.len.symm
    subst this
    refine fn_eq A s₆ F [] [] [v, v'] [z, y] (.bool true) [] _ _ hA H₇ (.cons (ez.adv H₆ A₆) (.cons r₆ .nil)) e3 fun w s₇ ρ₇ H₈ A₇ r₇ => ?_
    have : ρ₇ = [] := List.length_eq_zero_iff.mp H₈.len.symm
    subst this
    cases r₇
    exact q s₇ H₈ ((((A₁.trans H.len H₁.len A₂.ofE).trans H.len H₂.len A₃.ofE).trans H.len H₃.len A35).trans H.len H₆.len (A₆.trans H₆.len H₇.len A₇).ofE)
end Mine
namespace Mine
open PySem PySem.Spec PySem.Calls PyProof.Rows PySem.W
structure Ad where
  WS : Nat
  HD : Nat
  pN : Nat
  pV : Nat
  LF : Nat
noncomputable abbrev ws_init_vars : List (Nat × Str) := [(0, "self"), (1, "ws"), (2, "S"), (3, "T"), (4, "count"), (5, "b"), (6, "n"), (7, "nt"), (8, "ch")]
noncomputable def ws_init_b0 (a : Ad) : SS := seqS (ifS (cmT (op2 (eqF false) (nmE 8) (nmE 2))) (seqS (asgS 6 (op2 addF (nmE 6) (kE (.int 1)))) (seqS (asgS 5 (op2 addF (nmE 5) (kE (.int 1)))) (nilS))) (seqS (ifS (cmT (op2 (eqF false) (nmE 8) (nmE 3))) (seqS (asgS 6 (op2 addF (nmE 6) (kE (.int 1)))) (seqS (asgS 7 (op2 addF (nmE 7) (kE (.int 1)))) (seqS (ifS (cmT (op2 (int2 geI) (nmE 5) (callE lenF [nmE 4]))) (seqS (asgS 4 (op2 addF (nmE 4) (op2 mulF (lstE [kE (.int 0)]) (op2 addF (op2 (int2 subI) (nmE 5) (callE lenF [nmE 4])) (kE (.int 1)))))) (nilS)) (nilS)) (seqS (asgT (stI (nmE 4) (nmE 5)) (op2 addF (op2 idxF (nmE 4) (nmE 5)) (kE (.int 1)))) (seqS (asgS 5 (kE (.int 0))) (nilS)))))) (seqS (brkS) (nilS))) (nilS))) (nilS)
noncomputable def ws_init_sh (a : Ad) : SS := seqS (asgT (stA a.WS 0 (nmE 0)) (nmE 1)) (seqS (swpS [2, 3] (tupE [op1 (clsF a.WS (.str " ")) (kE (.g (.ref a.WS))), op1 (clsF a.WS (.str "\t")) (kE (.g (.ref a.WS)))])) (seqS (asgS 4 (mlstE [])) (seqS (asg3 (nmA 5) (nmA 6) (nmA 7) (kE (.int 0))) (seqS (forS (nmA 8) (ws_init_b0 a) (op1 (atF a.WS 0) (nmE 0))) (seqS (asgT (stA a.WS 1 (nmE 0)) (nmE 6)) (seqS (asgT (stA a.WS 2 (nmE 0)) (nmE 7)) (seqS (asgT (stA a.WS 3 (nmE 0)) (tupE [callE tupF [nmE 4], nmE 5])) (seqS (asgT (stA a.WS 4 (nmE 0)) (op2 (int2 leI) (callE lenF [nmE 4]) (kE (.int 1)))) (nilS)))))))))
noncomputable def ws_init0 (a : Ad) : SF := fnF 2 9 false (ws_init_sh a)
structure Sc where
  cnt : List Int
  b : Nat
  n : Nat
  nt : Nat
noncomputable def padL (c : List Int) (b : Nat) : List Int := if c.length ≤ b then c ++ List.replicate (b - c.length + 1) 0 else c
noncomputable def bump (c : List Int) (b : Nat) : List Int := (padL c b).set b ((padL c b).getD b 0 + 1)
noncomputable def scan : List Nat → Sc → Sc
  | [], s => s
  | ch :: r, s => if ch = 32 then scan r ⟨s.cnt, s.b + 1, s.n + 1, s.nt⟩ else if ch = 9 then scan r ⟨bump s.cnt s.b, 0, s.n + 1, s.nt + 1⟩ else s
noncomputable def scan0 (x : Str) : Sc := scan x.cps.toList ⟨[], 0, 0, 0⟩
noncomputable def wsL (raw : Str) (s : Sc) : List V := [.str raw, .int s.n, .int s.nt, .tup [.tup (s.cnt.map .int), .int s.b], .bool (decide ((s.cnt.length : Int) ≤ 1))]
noncomputable def wsV (a : Ad) (raw : Str) (s : Sc) : V := .obj a.WS (wsL raw s)
noncomputable def ascS (x : Str) : Bool := x.cps.all (· < 128) && Nat.ble x.length 500
noncomputable def Whitespace (a : Ad) : SF := fun vs σ => match vs with
  | [.str x] => if ascS x then some (wsV a x (scan0 x), σ) else none
  | _ => none
noncomputable abbrev ws_equal_vars : List (Nat × Str) := [(0, "self"), (1, "other")]
noncomputable def ws_equal_sh (a : Ad) : SS := seqS (retS (op2 (eqF false) (op1 (atF a.WS 3) (nmE 0)) (op1 (atF a.WS 3) (nmE 1)))) (nilS)
noncomputable def ws_equal (a : Ad) : SF := fnF 2 2 false (ws_equal_sh a)
noncomputable abbrev hd_cst_vars : List (Nat × Str) := [(0, "self"), (1, "value"), (2, "name"), (3, "regex")]
noncomputable def hd_cst_sh (a : Ad) : SS := seqS (ifS (cmT (op2 (isF false) (callE typF [nmE 1]) (kE (.g (.type "str"))))) (seqS (asgS 3 (ifE (cmT (nmE 2)) (kE (.g (.ref a.pN))) (kE (.g (.ref a.pV))))) (seqS (ifS (cmT (methE (chkP a.pN a.pV) (schF a.pN a.pV) (nmE 3) [nmE 1])) (seqS (failS) (nilS)) (nilS)) (seqS (retS (nmE 1)) (nilS)))) (nilS)) (seqS (failS) (nilS))
noncomputable def hd_cst (a : Ad) : SF := fnF 3 4 false (hd_cst_sh a)
noncomputable abbrev hd_init_vars : List (Nat × Str) := [(0, "self"), (1, "headers"), (2, "k"), (3, "v")]
noncomputable def hd_init_b0 (a : Ad) : SS := seqS (exprS (methKwE (chkI a.HD) (hd_cst a) (nmE 0) [nmE 2] true)) (seqS (exprS (methKwE (chkI a.HD) (hd_cst a) (nmE 0) [nmE 3] false)) (nilS))
noncomputable def hd_init_sh (a : Ad) : SS := seqS (asgS 1 (ifE (cmT (op2 (isF true) (nmE 1) (kE .none))) (nmE 1) (mlstE []))) (seqS (ifS (cmT (op2 (isF true) (callE typF [nmE 1]) (kE (.g (.type "list"))))) (seqS (failS) (nilS)) (nilS)) (seqS (asgT (stA a.HD 0 (nmE 0)) (nmE 1)) (seqS (ifS (cmT (kE (.bool true))) (seqS (forS (tupT [nmA 2, nmA 3]) (hd_init_b0 a) (nmE 1)) (nilS)) (nilS)) (nilS))))
noncomputable def hd_init (a : Ad) : SF := fnF 2 4 false (hd_init_sh a)
noncomputable def Headers (a : Ad) : SF := clsC a.HD (dfF 1 [.none] (hd_init a))
noncomputable abbrev hd_delitem_vars : List (Nat × Str) := [(0, "self"), (1, "name")]
noncomputable abbrev hd_delitem_vars0 : List (Nat × Str) := [(2, "kv"), (1, "name")]
noncomputable def hd_delitem_sh (a : Ad) : SS := seqS (asgS 1 (methKwE (chkI a.HD) (hd_cst a) (nmE 0) [methE chkStr lowF (nmE 1) []] true)) (seqS (asgT (stSl (op1 (atF a.HD 0) (nmE 0))) (cmpV hd_delitem_vars0 [2] (nmA 2) (cmT (op2 (eqF true) (methE chkStr lowF (op2 idxF (nmE 2) (kE (.int 0))) []) (nmE 1))) (nmE 2) (op1 (atF a.HD 0) (nmE 0)))) (nilS))
noncomputable def hd_delitem (a : Ad) : SF := fnF 2 3 false (hd_delitem_sh a)
noncomputable abbrev hd_setitem_vars : List (Nat × Str) := [(0, "self"), (1, "name"), (2, "val")]
noncomputable def hd_setitem_sh (a : Ad) : SS := seqS (delS a.HD (hd_delitem a) (nmE 0) (nmE 1)) (seqS (exprS (methE chkRef appF (op1 (atF a.HD 0) (nmE 0)) [tupE [methKwE (chkI a.HD) (hd_cst a) (nmE 0) [nmE 1] true, methKwE (chkI a.HD) (hd_cst a) (nmE 0) [nmE 2] false]])) (nilS))
noncomputable def hd_setitem (a : Ad) : SF := fnF 3 3 false (hd_setitem_sh a)
noncomputable abbrev hd_get_all_vars : List (Nat × Str) := [(0, "self"), (1, "name")]
noncomputable abbrev hd_get_all_vars0 : List (Nat × Str) := [(2, "kv"), (1, "name")]
noncomputable def hd_get_all_sh (a : Ad) : SS := seqS (asgS 1 (methKwE (chkI a.HD) (hd_cst a) (nmE 0) [methE chkStr lowF (nmE 1) []] true)) (seqS (retS (cmpV hd_get_all_vars0 [2] (nmA 2) (cmT (op2 (eqF false) (methE chkStr lowF (op2 idxF (nmE 2) (kE (.int 0))) []) (nmE 1))) (op2 idxF (nmE 2) (kE (.int 1))) (op1 (atF a.HD 0) (nmE 0)))) (nilS))
noncomputable def hd_get_all (a : Ad) : SF := fnF 2 3 false (hd_get_all_sh a)
noncomputable abbrev hd_get_vars : List (Nat × Str) := [(0, "self"), (1, "name"), (2, "default"), (3, "k"), (4, "v")]
noncomputable def hd_get_b0 (a : Ad) : SS := seqS (ifS (cmT (op2 (eqF false) (methE chkStr lowF (nmE 3) []) (nmE 1))) (seqS (retS (nmE 4)) (nilS)) (nilS)) (nilS)
noncomputable def hd_get_sh (a : Ad) : SS := seqS (asgS 1 (methKwE (chkI a.HD) (hd_cst a) (nmE 0) [methE chkStr lowF (nmE 1) []] true)) (seqS (forS (tupT [nmA 3, nmA 4]) (hd_get_b0 a) (op1 (atF a.HD 0) (nmE 0))) (seqS (retS (nmE 2)) (nilS)))
noncomputable def hd_get (a : Ad) : SF := fnF 3 5 false (hd_get_sh a)
noncomputable def hd_get1 (a : Ad) : SF := dfF 2 [.none] (hd_get a)
noncomputable abbrev hd_values_vars : List (Nat × Str) := [(0, "self")]
noncomputable abbrev hd_values_vars0 : List (Nat × Str) := [(1, "k"), (2, "v")]
noncomputable def hd_values_sh (a : Ad) : SS := seqS (retS (cmpV hd_values_vars0 [1, 2] (tupT [nmA 1, nmA 2]) (ttT) (nmE 2) (op1 (atF a.HD 0) (nmE 0)))) (nilS)
noncomputable def hd_values (a : Ad) : SF := fnF 1 3 false (hd_values_sh a)
noncomputable abbrev hd_items_vars : List (Nat × Str) := [(0, "self")]
noncomputable def hd_items_sh (a : Ad) : SS := seqS (retS (op1 cpyF (op1 (atF a.HD 0) (nmE 0)))) (nilS)
noncomputable def hd_items (a : Ad) : SF := fnF 1 1 false (hd_items_sh a)
noncomputable abbrev hd_setdefault_vars : List (Nat × Str) := [(0, "self"), (1, "name"), (2, "value"), (3, "result")]
noncomputable def hd_setdefault_sh (a : Ad) : SS := seqS (asgS 3 (methE (chkI a.HD) (hd_get1 a) (nmE 0) [nmE 1])) (seqS (ifS (cmT (op2 (isF false) (nmE 3) (kE .none))) (seqS (exprS (methE chkRef appF (op1 (atF a.HD 0) (nmE 0)) [tupE [methKwE (chkI a.HD) (hd_cst a) (nmE 0) [nmE 1] true, methKwE (chkI a.HD) (hd_cst a) (nmE 0) [nmE 2] false]])) (seqS (retS (nmE 2)) (nilS))) (seqS (retS (nmE 3)) (nilS))) (nilS))
noncomputable def hd_setdefault (a : Ad) : SF := fnF 3 4 false (hd_setdefault_sh a)
noncomputable abbrev hd_addh_vars : List (Nat × Str) := [(0, "self"), (1, "_name"), (2, "_value"), (3, "_params"), (4, "parts"), (5, "k"), (6, "v")]
noncomputable def hd_addh_sh (a : Ad) : SS := seqS (asgS 4 (mlstE [])) (seqS (ifS (cmT (op2 (isF true) (nmE 2) (kE .none))) (seqS (asgS 2 (methKwE (chkI a.HD) (hd_cst a) (nmE 0) [nmE 2] false)) (seqS (exprS (methE chkRef appF (nmE 4) [nmE 2])) (nilS))) (nilS)) (seqS (itmS 3) (seqS (exprS (methE chkRef appF (op1 (atF a.HD 0) (nmE 0)) [tupE [methKwE (chkI a.HD) (hd_cst a) (nmE 0) [nmE 1] true, methE chkStr joiF (kE (.str "; ")) [nmE 4]]])) (nilS))))
noncomputable def hd_addh0 (a : Ad) : SF := fnF 3 7 true (hd_addh_sh a)
noncomputable def hdrs (a : Ad) (σ : Hp) (v : V) : Option (Nat × List V) := match attrs? σ v with
  | some (C, [.ref m]) => if Nat.beq C a.HD then (match σ[m]? with | some (.lst items) => some (m, items) | _ => none) else none
  | _ => none
noncomputable def addTo (σ : Hp) (m : Nat) (items : List V) (x y : Str) : Option (V × Hp) := if Nat.ble items.length lmax then some (.none, σ.set m (.lst (items ++ [.tup [.str x, .str y]]))) else none
noncomputable def hd_addh (a : Ad) : SF := fun vs σ => match vs with
  | [self, .str x, .none] => (match hdrs a σ self with | some (m, items) => if goodS badN x then addTo σ m items x "" else none | none => none)
  | [self, .str x, .str y] => (match hdrs a σ self with | some (m, items) => if goodS badN x && goodS badV y && Nat.ble y.length 1000 then addTo σ m items x y else none | none => none)
  | _ => none
noncomputable def cst_ra (a : Ad) : Loc → Hp → Hp → Prop := raI (cmT (op2 (isF false) (callE typF [nmE 1]) (kE (.g (.type "str"))))) (raN (asgS 3 (ifE (cmT (nmE 2)) (kE (.g (.ref a.pN))) (kE (.g (.ref a.pV))))) (raI (hitT a.pN (nmE 3) (nmE 1)) raZ))
noncomputable def addh_ra (a : Ad) : Loc → Hp → Hp → Prop := raN (asgS 4 (mlstE [])) (raN (ifS (cmT (op2 (isF true) (nmE 2) (kE .none))) (seqS (asgS 2 (methKwE (chkI a.HD) (hd_cst a) (nmE 0) [nmE 2] false)) (seqS (exprS (methE chkRef appF (nmE 4) [nmE 2])) (nilS))) (nilS)) (raN (itmS 3) (raA (op1 (atF a.HD 0) (nmE 0)) chkRef (raK (nmE 0) (chkI a.HD) (nmE 1) true (raC 3 4 (cst_ra a))))))
noncomputable def told_ra (a : Ad) : Loc → Hp → Hp → Prop := raM (nmE 1) (chkI a.HD) [nmE 8, nmE 7] (raD 4 7 (addh_ra a))
noncomputable def isFrm : Option SO → Bool
  | some (SO.frm _ _ _) => true
  | _ => false
noncomputable def tryBad (a : Ad) (loc : Loc) (σ : Hp) : Bool := match (loc[1]? : Option (Option V)), (loc[8]? : Option (Option V)), (loc[7]? : Option (Option V)) with
  | some (some self), some (some (V.str x)), some (some (V.str y)) => isFrm σ[0]? && (hdrs a σ self).isSome && hitN x && goodS badV y
  | _, _, _ => false
end Mine
namespace Mine
open PySem PySem.Spec PySem.Calls PyProof.Rows PySem.W
noncomputable abbrev rowsF1_vars : List (Nat × Str) := [(0, "script"), (1, "rows"), (2, "place"), (3, "number"), (4, "rest"), (5, "one"), (6, "two"), (7, "tail"), (8, "form"), (9, "deed"), (10, "word"), (11, "lead"), (12, "turned")]
noncomputable def rowsF1_b0 (a : Ad) : SS := seqS (asgS 4 (op2 (int2 modI) (nmE 3) (kE (.int 810)))) (seqS (asgT (tupT [nmA 5, nmA 6, nmA 7, nmA 8]) (tupE [op2 (int2 modI) (nmE 4) (kE (.int 3)), op2 (int2 modI) (op2 (int2 divI) (nmE 4) (kE (.int 3))) (kE (.int 3)), op2 (int2 modI) (op2 (int2 divI) (nmE 4) (kE (.int 9))) (kE (.int 2)), op2 (int2 modI) (op2 (int2 divI) (nmE 4) (kE (.int 18))) (kE (.int 3))])) (seqS (swpS [9, 10] (tupE [op2 (int2 modI) (op2 (int2 divI) (nmE 4) (kE (.int 54))) (kE (.int 5)), op2 (int2 divI) (nmE 4) (kE (.int 270))])) (seqS (swpS [11, 12] (tupE [op2 mulF (kE (.str " ")) (op2 addF (nmE 5) (nmE 6)), op2 mulF (kE (.str " ")) (op2 addF (nmE 5) (nmE 6))])) (seqS (ifS (cmT (op2 (int2 gtI) (nmE 8) (kE (.int 0)))) (seqS (asgS 11 (op2 addF (op2 addF (op2 addF (op2 addF (op2 mulF (kE (.str " ")) (nmE 5)) (kE (.str "\t"))) (op2 mulF (kE (.str " ")) (nmE 6))) (kE (.str "\t"))) (op2 mulF (kE (.str " ")) (nmE 7)))) (seqS (asgS 12 (op2 addF (op2 addF (op2 addF (op2 addF (op2 mulF (kE (.str " ")) (nmE 6)) (kE (.str "\t"))) (op2 mulF (kE (.str " ")) (nmE 5))) (kE (.str "\t"))) (op2 mulF (kE (.str " ")) (nmE 7)))) (nilS))) (nilS)) (seqS (exprS (methE chkRef appF (nmE 1) [tupE [nmE 11, nmE 12, nmE 9, nmE 10, op2 addF (op2 addF (nmE 11) (op2 idxF (lstE [kE (.str "Via"), kE (.str "vIA"), kE (.str "Age")]) (nmE 10))) (callE strF [nmE 2])]])) (nilS))))))
noncomputable def rowsF1_sh (a : Ad) : SS := seqS (asgS 1 (mlstE [])) (seqS (enumS (tupT [nmA 2, nmA 3]) (rowsF1_b0 a) (op2 addF (op2 slcF (nmE 0) (kE (.int 8))) (lstE [kE (.int 19), kE (.int 399), kE (.int 235), kE (.int 760), kE (.int 75), kE (.int 451)]))) (seqS (retS (nmE 1)) (nilS)))
noncomputable def rowsF1 (a : Ad) : SF := trF (fnF 1 13 false (rowsF1_sh a))
noncomputable abbrev nameF1_vars : List (Nat × Str) := [(0, "lead"), (1, "word"), (2, "count"), (3, "rest"), (4, "name"), (5, "length"), (6, "many")]
noncomputable def nameF1_b0 (a : Ad) : SS := seqS (asgS 4 (op2 addF (nmE 4) (op2 mulF (op2 addF (op2 mulF (kE (.str " ")) (nmE 5)) (kE (.str "_"))) (nmE 6)))) (nilS)
noncomputable def nameF1_sh (a : Ad) : SS := seqS (asgT (tupT [nmA 2, nmA 3]) (op1 (atF a.WS 3) (callE (Whitespace a) [op2 addF (nmE 0) (nmE 1)]))) (seqS (asgS 4 (kE (.str ""))) (seqS (enumS (tupT [nmA 5, nmA 6]) (nameF1_b0 a) (nmE 2)) (seqS (retS (op2 addF (op2 addF (nmE 4) (op2 mulF (kE (.str " ")) (nmE 3))) (nmE 1))) (nilS))))
noncomputable def nameF1 (a : Ad) : SF := fnF 2 7 false (nameF1_sh a)
noncomputable abbrev columnsF1_vars : List (Nat × Str) := [(0, "lead"), (1, "columns"), (2, "size"), (3, "column"), (4, "sign")]
noncomputable def columnsF1_b0 (a : Ad) : SS := seqS (asgS 3 (ifE (cmT (op2 (eqF false) (nmE 4) (kE (.str " ")))) (op2 addF (nmE 3) (kE (.int 1))) (op2 mulF (op2 addF (op2 (int2 divI) (nmE 3) (nmE 2)) (kE (.int 1))) (nmE 2)))) (nilS)
noncomputable def columnsF1_b1 (a : Ad) : SS := seqS (asgS 3 (kE (.int 0))) (seqS (forS (nmA 4) (columnsF1_b0 a) (nmE 0)) (seqS (exprS (methE chkRef appF (nmE 1) [nmE 3])) (nilS)))
noncomputable def columnsF1_sh (a : Ad) : SS := seqS (asgS 1 (mlstE [])) (seqS (forS (nmA 2) (columnsF1_b1 a) (callE rngF [kE (.int 1), kE (.int 6)])) (seqS (retS (nmE 1)) (nilS)))
noncomputable def columnsF1 (a : Ad) : SF := trF (fnF 1 5 false (columnsF1_sh a))
noncomputable abbrev toldF1_vars : List (Nat × Str) := [(0, "rows"), (1, "table"), (2, "told"), (3, "lead"), (4, "turned"), (5, "deed"), (6, "word"), (7, "value"), (8, "line"), (9, "name"), (10, "other"), (11, "answer"), (12, "here"), (13, "level")]
noncomputable abbrev toldF1_vars0 : List (Nat × Str) := [(14, "text"), (12, "here")]
noncomputable def toldF1_b0 (a : Ad) : SS := seqS (asgS 8 (op2 addF (nmE 3) (op2 idxF (lstE [kE (.str "Via"), kE (.str "vIA"), kE (.str "Age")]) (nmE 6)))) (seqS (asgS 9 (callE (nameF1 a) [nmE 3, op2 idxF (lstE [kE (.str "Via"), kE (.str "vIA"), kE (.str "Age")]) (nmE 6)])) (seqS (asgS 10 (callE (nameF1 a) [nmE 4, op2 idxF (lstE [kE (.str "vIA"), kE (.str "Via"), kE (.str "aGE")]) (nmE 6)])) (seqS (asgS 11 (kE (.str "done"))) (seqS (ifS (cmT (op2 (eqF false) (nmE 5) (kE (.int 0)))) (seqS (exprS (methE (chkI a.HD) (hd_addh a) (nmE 1) [nmE 9, nmE 7])) (nilS)) (nilS)) (seqS (ifS (cmT (op2 (eqF false) (nmE 5) (kE (.int 1)))) (seqS (asgT (stM a.HD (hd_setitem a) (nmE 1) (nmE 9)) (nmE 7)) (nilS)) (nilS)) (seqS (ifS (cmT (op2 (eqF false) (nmE 5) (kE (.int 2)))) (seqS (asgS 11 (methE (chkI a.HD) (hd_setdefault a) (nmE 1) [nmE 9, nmE 7])) (nilS)) (nilS)) (seqS (ifS (cmT (op2 (eqF false) (nmE 5) (kE (.int 3)))) (seqS (delS a.HD (hd_delitem a) (nmE 1) (nmE 9)) (nilS)) (nilS)) (seqS (ifS (cmT (op2 (eqF false) (nmE 5) (kE (.int 4)))) (seqS (tryS a.LF (tryBad a) (exprS (methE (chkI a.HD) (hd_addh a) (nmE 1) [nmE 8, nmE 7])) (asgS 11 (kE (.str "refused")))) (nilS)) (nilS)) (seqS (asgS 12 (callE (Whitespace a) [nmE 8])) (seqS (asgS 13 (cmpV toldF1_vars0 [14] (nmA 14) (cmT (methE (chkI a.WS) (ws_equal a) (nmE 12) [callE (Whitespace a) [nmE 14]])) (nmE 14) (methE (chkI a.HD) (hd_values a) (nmE 1) []))) (seqS (exprS (methE chkRef appF (nmE 2) [tupE [nmE 11, methE (chkI a.HD) (hd_items a) (nmE 1) [], methE (chkI a.HD) (hd_get_all a) (nmE 1) [nmE 10], methE (chkI a.HD) (hd_get a) (nmE 1) [nmE 10, kE (.str "none")], nmE 13]])) (nilS))))))))))))
noncomputable def toldF1_sh (a : Ad) : SS := seqS (asgS 1 (callE (Headers a) [])) (seqS (asgS 2 (mlstE [])) (seqS (forS (tupT [nmA 3, nmA 4, nmA 5, nmA 6, nmA 7]) (toldF1_b0 a) (nmE 0)) (seqS (retS (nmE 2)) (nilS))))
noncomputable def toldF1 (a : Ad) : SF := trF (fnF 1 15 false (toldF1_sh a))
noncomputable abbrev dueF1_vars : List (Nat × Str) := [(0, "rows"), (1, "pairs"), (2, "due"), (3, "lead"), (4, "turned"), (5, "deed"), (6, "word"), (7, "value"), (8, "key"), (9, "runs"), (10, "name"), (11, "alike"), (12, "answer"), (13, "same"), (14, "level"), (15, "items")]
noncomputable abbrev dueF1_vars0 : List (Nat × Str) := [(16, "run")]
noncomputable abbrev dueF1_vars1 : List (Nat × Str) := [(17, "known"), (18, "spelled"), (19, "text"), (8, "key")]
noncomputable abbrev dueF1_vars2 : List (Nat × Str) := [(20, "pair"), (8, "key")]
noncomputable abbrev dueF1_vars3 : List (Nat × Str) := [(21, "known"), (22, "spelled"), (23, "text"), (8, "key")]
noncomputable abbrev dueF1_vars4 : List (Nat × Str) := [(24, "known"), (25, "spelled"), (26, "text"), (8, "key")]
noncomputable abbrev dueF1_vars5 : List (Nat × Str) := [(27, "known"), (28, "spelled"), (29, "text")]
noncomputable def dueF1_b0 (a : Ad) : SS := seqS (asgS 8 (tupE [callE (columnsF1 a) [nmE 3], op2 (int2 divI) (nmE 6) (kE (.int 2))])) (seqS (asgS 9 (methE chkStr splF (nmE 3) [kE (.str "\t")])) (seqS (asgS 10 (op2 addF (op2 addF (methE chkStr joiF (kE (.str "")) [cmpV dueF1_vars0 [16] (nmA 16) (ttT) (op2 addF (nmE 16) (kE (.str "_"))) (callE sorF [op2 slcF (nmE 9) (op1 negF (kE (.int 1)))])]) (op2 idxF (nmE 9) (op1 negF (kE (.int 1))))) (op2 idxF (lstE [kE (.str "Via"), kE (.str "vIA"), kE (.str "Age")]) (nmE 6)))) (seqS (asgS 11 (cmpV dueF1_vars1 [17, 18, 19] (tupT [nmA 17, nmA 18, nmA 19]) (cmT (op2 (eqF false) (nmE 17) (nmE 8))) (nmE 19) (nmE 1))) (seqS (asgS 12 (kE (.str "done"))) (seqS (ifS (cmT (op2 (eqF false) (nmE 5) (kE (.int 2)))) (seqS (asgS 12 (ifE (cmT (op2 (eqF true) (nmE 11) (lstE []))) (op2 idxF (nmE 11) (kE (.int 0))) (nmE 7))) (nilS)) (nilS)) (seqS (ifS (allT .And [cmT (op2 (eqF false) (nmE 5) (kE (.int 4))), cmT (op2 (inF false) (kE (.str "\t")) (nmE 3))]) (seqS (asgS 12 (kE (.str "refused"))) (nilS)) (nilS)) (seqS (ifS (allT .Or [cmT (op2 (eqF false) (nmE 5) (kE (.int 1))), cmT (op2 (eqF false) (nmE 5) (kE (.int 3)))]) (seqS (asgS 1 (cmpV dueF1_vars2 [20] (nmA 20) (cmT (op2 (eqF true) (op2 idxF (nmE 20) (kE (.int 0))) (nmE 8))) (nmE 20) (nmE 1))) (nilS)) (nilS)) (seqS (ifS (allT .Or [cmT (op2 (int2 ltI) (nmE 5) (kE (.int 2))), allT .And [cmT (op2 (eqF false) (nmE 5) (kE (.int 2))), cmT (op2 (eqF false) (nmE 11) (lstE []))], allT .And [cmT (op2 (eqF false) (nmE 5) (kE (.int 4))), cmT (op2 (inF true) (kE (.str "\t")) (nmE 3))]]) (seqS (asgS 1 (op2 addF (nmE 1) (lstE [tupE [nmE 8, nmE 10, nmE 7]]))) (nilS)) (nilS)) (seqS (asgS 13 (cmpV dueF1_vars3 [21, 22, 23] (tupT [nmA 21, nmA 22, nmA 23]) (cmT (op2 (eqF false) (nmE 21) (nmE 8))) (nmE 23) (nmE 1))) (seqS (asgS 14 (cmpV dueF1_vars4 [24, 25, 26] (tupT [nmA 24, nmA 25, nmA 26]) (cmT (op2 (eqF false) (op2 idxF (nmE 24) (kE (.int 0))) (op2 idxF (nmE 8) (kE (.int 0))))) (nmE 26) (nmE 1))) (seqS (asgS 15 (cmpV dueF1_vars5 [27, 28, 29] (tupT [nmA 27, nmA 28, nmA 29]) (ttT) (tupE [nmE 28, nmE 29]) (nmE 1))) (seqS (exprS (methE chkRef appF (nmE 2) [tupE [nmE 12, nmE 15, nmE 13, ifE (cmT (op2 (eqF true) (nmE 13) (lstE []))) (op2 idxF (nmE 13) (kE (.int 0))) (kE (.str "none")), nmE 14]])) (nilS)))))))))))))
noncomputable def dueF1_sh (a : Ad) : SS := seqS (asgS 1 (lstE [])) (seqS (asgS 2 (mlstE [])) (seqS (forS (tupT [nmA 3, nmA 4, nmA 5, nmA 6, nmA 7]) (dueF1_b0 a) (nmE 0)) (seqS (retS (nmE 2)) (nilS))))
noncomputable def dueF1 (a : Ad) : SF := trF (fnF 1 30 false (dueF1_sh a))
noncomputable abbrev lawF1_vars : List (Nat × Str) := [(0, "script"), (1, "rows")]
end Mine
namespace Mine
open PySem PySem.Spec PySem.Calls PyProof.Rows PySem.W
theorem str_blank : (Str.ofString " ") = ⟨#[32]⟩ := by decide +kernel
theorem str_tab : (Str.ofString "\t") = ⟨#[9]⟩ := by decide +kernel
theorem eq_sign (c d : Nat) : ((⟨#[c]⟩ : Str) == ⟨#[d]⟩) = decide (c = d) := by
  by_cases h : c = d
  · subst h; simp
  · rw [decide_eq_false h]; exact beq_eq_false_iff_ne.mpr fun z => h (by injection z with z; simpa using z)
theorem okI_nat (n : Nat) (h : n ≤ 100000) : okI (n : Int) = true := by unfold okI; exact decide_eq_true (by omega)
theorem ble_lmax (k : Nat) (h : k ≤ 100000) : Nat.ble k lmax = true := Nat.ble_eq_true_of_le (by unfold lmax; omega)
theorem ixOf_nat (i n : Nat) (h : i < n) : ixOf (i : Int) n = some i := by
  unfold ixOf
  rw [if_pos (decide_eq_true (by omega)), if_pos (decide_eq_true (by omega))]; rfl

theorem scan_tab (a : Ad) (self : V) (x : Str) (s : Sc) (m : Nat) (τ : Hp) (hm : τ[m]? = some (.lst (s.cnt.map .int))) (hb5 : s.b ≤ 500) (hc : s.cnt.length ≤ 501) : ∃ m' τ',
    ws_init_b0 a [some self, some (.str x), some (.str " "), some (.str "\t"), some (.ref m), some (.int s.b), some (.int s.n), some (.int s.nt), some (.str ⟨#[9]⟩)] τ
      = some (.next, [some self, some (.str x), some (.str " "), some (.str "\t"), some (.ref m'), some (.int 0), some (.int (s.n + 1)), some (.int (s.nt + 1)), some (.str ⟨#[9]⟩)], τ')
      ∧ ((m' = m ∧ τ' = τ.set m (.lst ((bump s.cnt s.b).map .int))) ∨ (m' = τ.length ∧ τ' = τ ++ [.lst ((bump s.cnt s.b).map .int)])) := by
  by_cases hp : s.cnt.length ≤ s.b
  · have hge : (s.b : Int) ≥ (s.cnt.length : Int) := by omega
    have hcnt : ((s.b : Int) - (s.cnt.length : Int) + 1).toNat = s.b - s.cnt.length + 1 := by omega
    have r1 : (-1000 : Int) < (s.b : Int) - (s.cnt.length : Int) + 1 := by omega
    have r2 : (s.b : Int) - (s.cnt.length : Int) + 1 < 1000 := by omega
    have hpd : (s.cnt.map V.int) ++ List.replicate (s.b - s.cnt.length + 1) (V.int 0) = (padL s.cnt s.b).map .int := by simp [padL, hp]
    have hpl : (padL s.cnt s.b).length = s.b + 1 := by simp [padL, hp]; omega
    have hsz : s.cnt.length + (s.b - s.cnt.length + 1) = s.b + 1 := by omega
    have hlen : s.cnt.length ≤ lmax := by unfold lmax; omega
    have hlen2 : s.b + 1 ≤ lmax := by unfold lmax; omega
    have hok := okI_nat s.b (by omega)
    have hbump : (padL s.cnt s.b).set s.b ((padL s.cnt s.b).getD s.b 0 + 1) = bump s.cnt s.b := rfl
    generalize padL s.cnt s.b = p at hpd hpl hbump
    have hix := ixOf_nat s.b p.length (by omega)
    have hx : p[s.b]? = some (p.getD s.b 0) := by rw [List.getD_eq_getElem?_getD, List.getElem?_eq_getElem (by omega)]; rfl
    have r3 : (s.b : Int) < (p.length : Int) := by omega
    have r4 : s.b < p.length := by omega
    refine ⟨τ.length, τ ++ [.lst ((bump s.cnt s.b).map .int)], ?_, .inr ⟨rfl, rfl⟩⟩
    rw [← hbump]
    generalize p.getD s.b 0 = y at hx
    simp [ws_init_b0, seqS, ifS, cmT, op2, nmE, eqF, str_blank, str_tab, trV, asgS, addF, kE, nilS, eq_sign, int2, geI, callE, argsE, lenF, lstOf, addL, mulF, mulL, lstE, subI, asgT, stI, idxF, hm, hlen, hge, r1, r2, hcnt, hsz, hlen2, hpd, hok, hix, hx, r3, r4]
    have hy : p[s.b] = y := by have := List.getElem?_eq_getElem r4; rw [hx] at this; exact (Option.some.inj this).symm
    rw [hy]
  · have hge : ¬ (s.b : Int) ≥ (s.cnt.length : Int) := by omega
    have hpd : padL s.cnt s.b = s.cnt := by simp [padL, hp]
    have hlen : s.cnt.length ≤ lmax := by unfold lmax; omega
    have hok := okI_nat s.b (by omega)
    have hbump : s.cnt.set s.b (s.cnt.getD s.b 0 + 1) = bump s.cnt s.b := by unfold bump; rw [hpd]
    have hix := ixOf_nat s.b s.cnt.length (by omega)
    have hx : s.cnt[s.b]? = some (s.cnt.getD s.b 0) := by rw [List.getD_eq_getElem?_getD, List.getElem?_eq_getElem (by omega)]; rfl
    have r4 : s.b < s.cnt.length := by omega
    refine ⟨m, τ.set m (.lst ((bump s.cnt s.b).map .int)), ?_, .inl ⟨rfl, rfl⟩⟩
    rw [← hbump]
    generalize s.cnt.getD s.b 0 = y at hx
    simp [ws_init_b0, seqS, ifS, cmT, op2, nmE, eqF, str_blank, str_tab, trV, asgS, addF, kE, nilS, eq_sign, int2, geI, callE, argsE, lenF, lstOf, addL, mulF, mulL, lstE, subI, asgT, stI, idxF, hm, hlen, hge, hok, hix, hx, r4]
    have hy : s.cnt[s.b] = y := by have := List.getElem?_eq_getElem r4; rw [hx] at this; exact (Option.some.inj this).symm
    rw [hy]

theorem scan_loop (a : Ad) (self : V) (x : Str) (L : Nat) : ∀ (cs : List Nat) (s : Sc) (m : Nat) (τ : Hp) (c8 : Option V),
    L ≤ m → τ[m]? = some (.lst (s.cnt.map .int)) → s.b + cs.length ≤ 500 → s.cnt.length ≤ 501 →
    ∃ m' τ' c8', forL (nmA 8) (ws_init_b0 a) (cs.map fun c => .str ⟨#[c]⟩) [some self, some (.str x), some (.str " "), some (.str "\t"), some (.ref m), some (.int s.b), some (.int s.n), some (.int s.nt), c8] τ
      = some (.next, [some self, some (.str x), some (.str " "), some (.str "\t"), some (.ref m'), some (.int (scan cs s).b), some (.int (scan cs s).n), some (.int (scan cs s).nt), c8'], τ')
      ∧ L ≤ m' ∧ τ'[m']? = some (.lst ((scan cs s).cnt.map .int)) ∧ τ'.take L = τ.take L ∧ τ.length ≤ τ'.length ∧ (scan cs s).cnt.length ≤ 501 := by
  intro cs
  induction cs with
  | nil => intro s m τ c8 hL hm hb hc; exact ⟨m, τ, c8, rfl, hL, hm, rfl, Nat.le_refl _, hc⟩
  | cons c cs ih =>
    intro s m τ c8 hL hm hb hc
    have hml : m < τ.length := (List.getElem?_eq_some_iff.mp hm).1
    simp only [List.length_cons] at hb
    simp only [List.map_cons, forL, nmA, List.length_cons, List.length_nil, List.set_cons_succ, List.set_cons_zero]
    by_cases h32 : c = 32
    · subst h32
      obtain ⟨m', τ', c8', e, r⟩ := ih ⟨s.cnt, s.b + 1, s.n + 1, s.nt⟩ m τ (some (.str ⟨#[32]⟩)) hL hm (by simp only; omega) hc
      refine ⟨m', τ', c8', ?_, r⟩
      rw [scan, if_pos rfl, ← e]
      simp [ws_init_b0, seqS, ifS, cmT, op2, nmE, eqF, str_blank, trV, asgS, addF, kE, nilS]
    · by_cases h9 : c = 9
      · subst h9
        obtain ⟨m1, τ1, eb, hcase⟩ := scan_tab a self x s m τ hm (by omega) hc
        have hbl : (bump s.cnt s.b).length ≤ 501 := by simp only [bump, padL]; split <;> simp <;> omega
        have h1 : L ≤ m1 ∧ τ1[m1]? = some (.lst ((bump s.cnt s.b).map .int)) ∧ τ1.take L = τ.take L ∧ τ.length ≤ τ1.length := by
          rcases hcase with ⟨rfl, rfl⟩ | ⟨rfl, rfl⟩
          · exact ⟨hL, by rw [List.getElem?_set_self hml], by rw [List.take_set_of_le hL], by simp⟩
          · exact ⟨by omega, by simp, by rw [List.take_append_of_le_length (by omega)], by simp⟩
        obtain ⟨a1, a2, a3, a4⟩ := h1
        obtain ⟨m', τ', c8', e, e1, e2, e3, e4, e5⟩ := ih ⟨bump s.cnt s.b, 0, s.n + 1, s.nt + 1⟩ m1 τ1 (some (.str ⟨#[9]⟩)) a1 a2 (by simp only; omega) hbl
        rw [scan, if_neg h32, if_pos rfl]
        refine ⟨m', τ', c8', ?_, e1, e2, e3.trans a3, Nat.le_trans a4 e4, e5⟩
        rw [← e]
        simp only [eb, if_true, show (8 < 0 + 1 + 1 + 1 + 1 + 1 + 1 + 1 + 1 + 1) from by decide]
        rfl
      · refine ⟨m, τ, some (.str ⟨#[c]⟩), ?_, hL, ?_, rfl, Nat.le_refl _, ?_⟩
        · rw [scan, if_neg h32, if_neg h9]
          simp [ws_init_b0, seqS, ifS, cmT, op2, nmE, eqF, str_blank, str_tab, trV, h32, h9, brkS, eq_sign]
        · rw [scan, if_neg h32, if_neg h9]; exact hm
        · rw [scan, if_neg h32, if_neg h9]; exact hc
end Mine
namespace Mine
open PySem PySem.Spec PySem.Calls PyProof.Rows PySem.W

theorem lt_of_get {α : Type} {l : List α} {n : Nat} {x : α} (h : l[n]? = some x) : n < l.length := (List.getElem?_eq_some_iff.mp h).1
theorem ws_init_run (a : Ad) (x : Str) (hx : ascS x = true) (σ : Hp) (n : Nat) (hn : σ[n]? = some (.dict a.WS [])) :
    ∃ σ₁, ws_init0 a [.inst a.WS n, .str x] σ = some (.none, σ₁) ∧ σ.length ≤ σ₁.length ∧ σ₁.take σ.length = σ.set n (.dict a.WS (wsL x (scan0 x))) := by
  obtain ⟨h1, h2⟩ := Bool.and_eq_true_iff.mp hx
  have h2 : x.cps.size ≤ 500 := Nat.le_of_ble_eq_true h2
  have hl : n < σ.length := lt_of_get hn
  have e0 : ((σ.set n (.dict a.WS [.str x])) ++ [.lst []])[σ.length]? = some (.lst (([] : List Int).map V.int)) := by simp
  have h3 : (⟨[], 0, 0, 0⟩ : Sc).b + x.cps.toList.length ≤ 500 := by simp [h2]
  obtain ⟨m', τ', c8', e, e1, e2, e3, e4, e5⟩ := scan_loop a (.inst a.WS n) x σ.length x.cps.toList ⟨[], 0, 0, 0⟩ σ.length ((σ.set n (.dict a.WS [.str x])) ++ [.lst []]) none (Nat.le_refl _) e0 h3 (by simp)
  have hq : scan x.cps.toList ⟨[], 0, 0, 0⟩ = scan0 x := rfl
  rw [hq] at e e2 e5
  have hml : m' < τ'.length := lt_of_get e2
  have e3' : τ'.take σ.length = σ.set n (.dict a.WS [.str x]) := by rw [e3, List.take_append_of_le_length (by simp)]; exact List.take_of_length_le (by simp)
  have hn' : τ'[n]? = some (.dict a.WS [.str x]) := by
    have : (τ'.take σ.length)[n]? = τ'[n]? := by rw [List.getElem?_take_of_lt hl]
    rw [← this, e3']; simp [hl]
  have hnl : n < τ'.length := lt_of_get hn'
  have hne : n ≠ m' := fun z => by omega
  have hcl : (scan0 x).cnt.length ≤ lmax := by unfold lmax; omega
  have hsrc : ∀ τ : Hp, srcOf τ (.str x) = some (x.cps.toList.map fun c => .str ⟨#[c]⟩, none) := fun τ => by
    simp only [srcOf]; rw [if_pos h1]
  generalize hB : ws_init_b0 a = B at e
  have hs1 : ∀ y : SO, (List.set σ n y)[n]? = some y := fun y => by rw [List.getElem?_set_self hl]
  have hs2 : ∀ (y : SO) (r : Hp), (List.set σ n y ++ r)[n]? = some y := fun y r => by rw [List.getElem?_append_left (by simpa using hl), hs1]
  have hs3 : ∀ y : SO, (List.set τ' n y)[n]? = some y := fun y => by rw [List.getElem?_set_self hnl]
  have hs4 : ∀ y : SO, (List.set τ' n y)[m']? = some (.lst ((scan0 x).cnt.map V.int)) := fun y => by rw [List.getElem?_set_ne hne, e2]
  refine ⟨τ'.set n (.dict a.WS (wsL x (scan0 x))), ?_, ?_, ?_⟩
  · unfold ws_init0 fnF
    rw [if_pos (by rfl)]
    simp only [ws_init_sh, hB]
    simp [locOf, seqS, asgT, stA, nmE, hn, swpS, tupE, argsE, op1, clsF, kE, setL, asgS, mlstE, asg3, nmA, forS, atF, attrs?, hs1, hs2, V.notG, hsrc, lend, giveBack]
    simp at e
    rw [e]
    simp [hn', nmE, seqS, asgT, stA, tupE, callE, argsE, lenF, lstOf, hcl, e2, tupF, op2, int2, leI, kE, nilS, wsL, hs3, hs4]
  · simp; have := e4; simp at this; omega
  · rw [List.take_set]
    rw [e3']; simp

theorem scan_int_low (n : Nat) (s : Sc) (x : Str) : V.lowBs n (wsL x s) = true := by
  have : ∀ l : List Int, V.lowBs n (l.map V.int) = true := fun l => by induction l with
    | nil => rfl
    | cons i l ih => simp [V.lowBs, V.lowB, ih]
  simp [wsL, V.lowBs, V.lowB, this]
theorem ref_Whitespace (a : Ad) (vs : List V) (σ : Hp) (v : V) (σ' : Hp) (h : Whitespace a vs σ = some (v, σ')) : ∃ v₁ σ₁, clsC a.WS (ws_init0 a) vs σ = some (v₁, σ₁) ∧ v = V.frz σ.length σ₁ v₁ ∧ σ' = σ₁.take σ.length ∧ Left σ σ' ∧ (v.lowB σ.length = true ∨ ∃ w ∈ vs, v = w) := by
  unfold Whitespace at h
  split at h
  · rename_i x
    split at h
    · rename_i hx
      cases h
      obtain ⟨σ₁, e, l, t⟩ := ws_init_run a x hx (σ ++ [.dict a.WS []]) σ.length (by simp)
      have ht : σ₁.take (σ.length + 1) = σ ++ [.dict a.WS (wsL x (scan0 x))] := by
        have := t; simp at this; rw [this]
      have hg : σ₁[σ.length]? = some (.dict a.WS (wsL x (scan0 x))) := by
        have : (σ₁.take (σ.length + 1))[σ.length]? = σ₁[σ.length]? := List.getElem?_take_of_lt (Nat.lt_succ_self _)
        rw [← this, ht]; simp
      have hk : σ₁.take σ.length = σ := by
        have : (σ₁.take (σ.length + 1)).take σ.length = σ₁.take σ.length := by rw [List.take_take]; congr 1; omega
        rw [← this, ht]; simp
      refine ⟨.inst a.WS σ.length, σ₁, ?_, ?_, hk.symm, ?_, .inl ?_⟩
      · unfold clsC; rw [e]
      · simp [V.frz, hg, wsV]
      · intro i o eo v hv; exact .inr ⟨i, o, eo, hv⟩
      · simp [wsV, V.lowB, scan_int_low]
    · cases h
  · cases h
end Mine
namespace Mine
open PySem PySem.Spec PySem.Calls PyProof.Rows PySem.W
section
variable (loc : Loc) (σ : Hp) (i : Nat) (v w : V) (f g h : SE) (o : SF) (t t' : ST) (p q : SS) (C : Addr) (vs ws : List V) (fs : List SE)
@[simp] theorem nilS_e : nilS loc σ = some (.next, loc, σ) := rfl
@[simp] theorem brkS_e : brkS loc σ = some (.brk, loc, σ) := rfl
@[simp] theorem failS_e : failS loc σ = none := rfl
@[simp] theorem kE_e : kE v loc σ = some (v, σ) := rfl
@[simp] theorem nmE_e : nmE i loc σ = match loc[i]? with | some (some v) => some (v, σ) | _ => none := rfl
@[simp] theorem seqS_e : seqS p q loc σ = match p loc σ with | some (.next, loc₁, σ₁) => q loc₁ σ₁ | r => r := rfl
@[simp] theorem ifS_e : ifS t p q loc σ = match t loc σ with | some (true, σ₁) => p loc σ₁ | some (false, σ₁) => q loc σ₁ | none => none := rfl
@[simp] theorem ifE_e : ifE t f g loc σ = match t loc σ with | some (true, σ₁) => f loc σ₁ | some (false, σ₁) => g loc σ₁ | none => none := rfl
@[simp] theorem cmT_e : cmT f loc σ = match f loc σ with | some (a, σ₁) => (match trV a with | some b => some (b, σ₁) | none => none) | none => none := rfl
@[simp] theorem notT_e : notT t loc σ = match t loc σ with | some (b, σ₁) => some (!b, σ₁) | none => none := rfl
@[simp] theorem op1_e : op1 o f loc σ = match f loc σ with | some (a, σ₁) => o [a] σ₁ | none => none := rfl
@[simp] theorem op2_e : op2 o f g loc σ = match f loc σ with | some (a, σ₁) => (match g loc σ₁ with | some (b, σ₂) => o [a, b] σ₂ | none => none) | none => none := rfl
@[simp] theorem argsE_nil : argsE [] loc σ = some ([], σ) := rfl
@[simp] theorem argsE_cons : argsE (f :: fs) loc σ = match f loc σ with | some (a, σ₁) => (match argsE fs loc σ₁ with | some (as, σ₂) => some (a :: as, σ₂) | none => none) | none => none := rfl
@[simp] theorem callE_e : callE o fs loc σ = match argsE fs loc σ with | some (vs, σ₁) => o vs σ₁ | none => none := rfl
@[simp] theorem tupE_e : tupE fs loc σ = match argsE fs loc σ with | some (vs, σ₁) => some (.tup vs, σ₁) | none => none := rfl
@[simp] theorem lstE_e : lstE fs loc σ = match argsE fs loc σ with | some (vs, σ₁) => some (.lst vs, σ₁) | none => none := rfl
@[simp] theorem mlstE_e : mlstE fs loc σ = match argsE fs loc σ with | some (vs, σ₁) => some (.ref σ₁.length, σ₁ ++ [.lst vs]) | none => none := rfl
@[simp] theorem asgS_e : asgS i f loc σ = match f loc σ with | some (v, σ₁) => if i < loc.length then some (.next, loc.set i (some v), σ₁) else none | none => none := rfl
@[simp] theorem retS_e : retS f loc σ = match f loc σ with | some (v, σ₁) => some (.ret v, loc, σ₁) | none => none := rfl
@[simp] theorem exprS_e : exprS f loc σ = match f loc σ with | some (_, σ₁) => some (.next, loc, σ₁) | none => none := rfl
@[simp] theorem nmA_e : nmA i v loc σ = if i < loc.length then some (loc.set i (some v), σ) else none := rfl
@[simp] theorem tupT_e (ts : List SA) : tupT ts (.tup vs) loc σ = tupA ts vs loc σ := rfl
@[simp] theorem tupA_nil : tupA [] [] loc σ = some (loc, σ) := rfl
@[simp] theorem tupA_cons (s : SA) (ts : List SA) : tupA (s :: ts) (v :: vs) loc σ = match s v loc σ with | some (loc₁, σ₁) => tupA ts vs loc₁ σ₁ | none => none := rfl
@[simp] theorem methE_e (chk : Hp → V → Bool) : methE chk o f fs loc σ = match f loc σ with
  | some (a, σ₁) => if chk σ₁ a then (match argsE fs loc σ₁ with
    | some (vs, σ₂) => o ([a] ++ vs) σ₂
    | none => none) else none
  | none => none := rfl
@[simp] theorem methKwE_e (chk : Hp → V → Bool) (b : Bool) : methKwE chk o f fs b loc σ = match f loc σ with
  | some (a, σ₁) => if chk σ₁ a then (match argsE fs loc σ₁ with
    | some (vs, σ₂) => o ([a] ++ vs ++ [.bool b]) σ₂
    | none => none) else none
  | none => none := rfl
@[simp] theorem asgT_e (s : SA) : asgT s f loc σ = match f loc σ with
  | some (v, σ₁) => (match s v loc σ₁ with
    | some (loc', σ') => some (.next, loc', σ')
    | none => none)
  | none => none := rfl
@[simp] theorem ttT_e : ttT loc σ = some (true, σ) := rfl
@[simp] theorem chkStr_e (x : Str) : chkStr σ (.str x) = true := rfl
@[simp] theorem chkRef_e (n : Nat) : chkRef σ (.ref n) = match σ[n]? with | some (.lst _) => true | _ => false := rfl
@[simp] theorem trV_b (b : Bool) : trV (.bool b) = some b := rfl
@[simp] theorem trV_n : trV .none = some false := rfl
@[simp] theorem int2_e (k : Int → Int → Option V) (a b : Int) : int2 k [.int a, .int b] σ = match k a b with | some v => some (v, σ) | none => none := rfl
@[simp] theorem subI_e (a b : Int) : subI a b = some (.int (a - b)) := rfl
@[simp] theorem ltI_e (a b : Int) : ltI a b = some (.bool (decide (a < b))) := rfl
@[simp] theorem leI_e (a b : Int) : leI a b = some (.bool (decide (a ≤ b))) := rfl
@[simp] theorem gtI_e (a b : Int) : gtI a b = some (.bool (decide (a > b))) := rfl
@[simp] theorem geI_e (a b : Int) : geI a b = some (.bool (decide (a ≥ b))) := rfl
@[simp] theorem addF_int (a b : Int) : addF [.int a, .int b] σ = some (.int (a + b), σ) := rfl
@[simp] theorem addF_str (a b : Str) : addF [.str a, .str b] σ = if Nat.ble (a.length + b.length) smax then some (.str (a ++ b), σ) else none := rfl
@[simp] theorem rngF2 (a b : Int) : rngF [.int a, .int b] σ = some (.rng a b, σ) := rfl
@[simp] theorem rngF1 (a : Int) : rngF [.int a] σ = some (.rng 0 a, σ) := rfl
@[simp] theorem maxF2 (a b : Int) : maxF [.int a, .int b] σ = some (.int (if b > a then b else a), σ) := rfl
@[simp] theorem isF_none (n : Bool) : isF n [.none, .none] σ = some (.bool (!n), σ) := by cases n <;> rfl
@[simp] theorem isF_str (n : Bool) (x : Str) : isF n [.str x, .none] σ = some (.bool n, σ) := by cases n <;> rfl
@[simp] theorem typF_str (x : Str) : typF [.str x] σ = some (.g (.type "str"), σ) := rfl
@[simp] theorem clsF_e : clsF C v [.g (.ref C)] σ = some (v, σ) := by simp [clsF]
@[simp] theorem eqF_str (n : Bool) (a b : Str) : eqF n [.str a, .str b] σ = some (.bool (n != (a == b)), σ) := rfl
@[simp] theorem tupF_lst : tupF [.lst vs] σ = if Nat.ble vs.length lmax then some (.tup vs, σ) else none := rfl
@[simp] theorem lenF_lst : lenF [.lst vs] σ = if Nat.ble vs.length lmax then some (.int vs.length, σ) else none := rfl
@[simp] theorem lenF_tup : lenF [.tup vs] σ = if Nat.ble vs.length lmax then some (.int vs.length, σ) else none := rfl
@[simp] theorem appF_e (n : Nat) : appF [.ref n, v] σ = match σ[n]? with
    | some (.lst ws) => if Nat.ble ws.length lmax then some (.none, σ.set n (.lst (ws ++ [v]))) else none
    | _ => none := rfl
end
theorem eqF_int {σ : Hp} (n : Bool) (a b : Int) : eqF n [.int a, .int b] σ = some (.bool (n != (a == b)), σ) := rfl
theorem ble_of {a b : Nat} (h : a ≤ b) : Nat.ble a b = true := Nat.ble_eq_true_of_le h
theorem seq_go {p q : SS} {loc loc₁ : Loc} {σ σ₁ : Hp} {r : Option (Fl × Loc × Hp)} (h : p loc σ = some (.next, loc₁, σ₁)) (k : q loc₁ σ₁ = r) : seqS p q loc σ = r := by
  rw [seqS_e, h]; exact k
theorem for_nil {tgt : SA} {b : SS} {loc : Loc} {σ : Hp} : forL tgt b [] loc σ = some (.next, loc, σ) := rfl
theorem for_step {tgt : SA} {b : SS} {v : V} {vs : List V} {loc loc₁ loc₂ : Loc} {σ σ₁ σ₂ : Hp} {r : Option (Fl × Loc × Hp)} (h : tgt v loc σ = some (loc₁, σ₁)) (hb : b loc₁ σ₁ = some (.next, loc₂, σ₂)) (k : forL tgt b vs loc₂ σ₂ = r) : forL tgt b (v :: vs) loc σ = r := by
  rw [forL, h]; simp only [hb]; exact k
theorem forS_go {tgt : SA} {fb : SS} {fi : SE} {loc : Loc} {σ σ₁ σ₂ : Hp} {v : V} {ws : List V} {b : Option Nat} {fl : Fl} {loc' : Loc} (h1 : fi loc σ = some (v, σ₁)) (h2 : srcOf σ₁ v = some (ws, b)) (h3 : forL tgt fb ws loc (lend b σ₁) = some (fl, loc', σ₂)) : forS tgt fb fi loc σ = some (fl, loc', giveBack b ws σ₂) := by
  unfold forS
  rw [h1]
  simp only [h2, h3]
theorem cmp_go2 {is : List Nat} {tgt : SA} {test : ST} {elt fi : SE} {loc : Loc} {σ σ₁ σ₂ : Hp} {v : V} {ws rs : List V} {b : Option Nat} (h1 : fi loc σ = some (v, σ₁)) (hs : v.notS = true) (h2 : srcOf σ₁ v = some (ws, b)) (hl : ws.length ≤ 1000000) (h3 : cmpL tgt test elt ws (clr is loc) (lend b σ₁) = some (rs, σ₂)) : cmpE is tgt test elt fi loc σ = some (.lst rs, giveBack b ws σ₂) := by
  unfold cmpE
  rw [h1]
  simp only [h2, h3, hs, ble_of hl, if_true]
theorem srcOf_rng {σ : Hp} {a b : Int} (ha : -1000000 ≤ a ∧ a ≤ 1000000) (hb : -1000000 ≤ b ∧ b ≤ 1000000) : srcOf σ (.rng a b) = some (rngL a b, none) := by
  simp only [srcOf, ha.1, ha.2, hb.1, hb.2, decide_true, Bool.and_self, if_true]
end Mine
namespace Mine
open PySem PySem.Spec PySem.Calls PyProof.Rows PySem.W
theorem cst_run (a : Ad) (self : V) (x : Str) (b : Bool) (σ : Hp) (hpv : b = false → Nat.beq a.pV a.pN = false) (h : goodS (if b then badN else badV) x = true) : hd_cst a [self, .str x, .bool b] σ = some (.str x, σ) := by
  cases b
  · have hpv := hpv rfl
    simp at h
    simp [hd_cst, fnF, hd_cst_sh, locOf, isF, chkP, schF, h, hpv]
  · simp at h
    simp [hd_cst, fnF, hd_cst_sh, locOf, isF, chkP, schF, h]
theorem hdrs_atF {a : Ad} {σ : Hp} {self : V} {m : Nat} {items : List V} (h : hdrs a σ self = some (m, items)) : atF a.HD 0 [self] σ = some (.ref m, σ) ∧ chkI a.HD σ self = true ∧ σ[m]? = some (.lst items) := by
  unfold hdrs at h
  split at h
  · rename_i C m' e
    split at h
    · rename_i hC
      split at h
      · rename_i its e2
        cases h
        simp at hC
        refine ⟨by simp [atF, e, hC, V.notG], by simp [chkI, e, hC], e2⟩
      · cases h
    · cases h
  · cases h
theorem hdrs_ext {a : Ad} {σ σ' : Hp} {self : V} {m : Nat} {items : List V} (h : hdrs a σ self = some (m, items)) (hk : ∀ (i : Nat) (o : SO), σ[i]? = some o → σ'[i]? = some o) : hdrs a σ' self = some (m, items) := by
  unfold hdrs at h ⊢
  split at h
  · rename_i C m' e
    split at h
    · rename_i hC
      split at h
      · rename_i its e2
        cases h
        have e' : attrs? σ' self = some (C, [.ref m]) := by
          unfold attrs? at e ⊢
          split at e
          · exact e
          · rename_i C1 n1
            split at e
            · rename_i C2 vs e3
              rw [hk _ _ e3]; exact e
            · cases e
          · cases e
        simp [e', hC, hk _ _ e2]
      · cases h
    · cases h
  · cases h
theorem get_app {σ : Hp} {i : Nat} {o x : SO} (h : σ[i]? = some o) : (σ ++ [x])[i]? = some o := by
  rw [List.getElem?_append_left (lt_of_get h)]; exact h
theorem join1 (y : Str) (h : y.length ≤ 1000) : JoinOk (Str.ofString "; ") [y] ∧ Txt.join (Str.ofString "; ") [y] = y := by
  refine ⟨?_, ?_⟩
  · have : (Str.ofString "; ").length = 2 := by decide +kernel
    simp [JoinOk, this, PySem.Builtin.Str.tooLong, sizeLine]; omega
  · rfl
theorem addh_run (a : Ad) (hpv : Nat.beq a.pV a.pN = false) {self : V} {x y : Str} {o : V} {σ : Hp} {m : Nat} {items : List V} (h : hdrs a σ self = some (m, items)) (hx : goodS badN x = true) (hy : (o = .none ∧ y = "") ∨ (o = .str y ∧ goodS badV y = true ∧ y.length ≤ 1000)) (hl : items.length ≤ lmax) :
    ∃ z, hd_addh0 a [self, .str x, o] σ = some (.none, (σ.set m (.lst (items ++ [.tup [.str x, .str y]]))) ++ [z]) := by
  have h1 : hdrs a (σ ++ [.lst []]) self = some (m, items) := hdrs_ext h fun _ _ e => get_app e
  obtain ⟨g1, g2, g3⟩ := hdrs_atF h1
  obtain ⟨_, _, g0⟩ := hdrs_atF h
  have hm := lt_of_get g0
  rcases hy with ⟨rfl, rfl⟩ | ⟨rfl, hy, hl2⟩
  · have hj : JoinOk (Str.ofString "; ") [] ∧ Txt.join (Str.ofString "; ") [] = Str.ofString "" := ⟨by decide +kernel, by decide +kernel⟩
    have hc := cst_run a self x true (σ ++ [.lst []]) (by simp) (by simpa using hx)
    refine ⟨.lst [], ?_⟩
    simp [hd_addh0, fnF, hd_addh_sh, locOf, itmS, g1, g2, g3, hc, joiF, lstOf, strsOf, hj, hl, List.set_append_left _ _ hm]
  · have hj := join1 y hl2
    have h2 : hdrs a (σ ++ [.lst [.str y]]) self = some (m, items) := hdrs_ext h fun _ _ e => get_app e
    obtain ⟨k1, k2, k3⟩ := hdrs_atF h2
    have hc := cst_run a self x true (σ ++ [.lst [.str y]]) (by simp) (by simpa using hx)
    have hc2 := cst_run a self y false (σ ++ [.lst []]) (fun _ => hpv) (by simpa using hy)
    refine ⟨.lst [.str y], ?_⟩
    have l0 : Nat.ble 0 lmax = true := by decide
    simp [hd_addh0, fnF, hd_addh_sh, locOf, itmS, g1, g2, g3, k1, k2, k3, hc, hc2, joiF, lstOf, strsOf, hj, hl, l0, List.set_append_left _ _ hm]
theorem left_set {σ : Hp} {m : Nat} {items : List V} {w : V} (hm : σ[m]? = some (.lst items)) (hw : w.lowB σ.length = true) : Left σ (σ.set m (.lst (items ++ [w]))) := by
  intro i o eo v hv
  by_cases hi : m = i
  · subst hi
    rw [List.getElem?_set_self (lt_of_get hm)] at eo
    cases eo
    rcases List.mem_append.mp hv with hv | hv
    · exact .inr ⟨m, _, hm, hv⟩
    · cases hv with
      | head => exact .inl hw
      | tail _ q => cases q
  · rw [List.getElem?_set_ne hi] at eo
    exact .inr ⟨i, o, eo, hv⟩
theorem ref_hd_addh (a : Ad) (hpv : Nat.beq a.pV a.pN = false) (vs : List V) (σ : Hp) (v : V) (σ' : Hp) (h : hd_addh a vs σ = some (v, σ')) : ∃ v₁ σ₁, hd_addh0 a vs σ = some (v₁, σ₁) ∧ v = V.frz σ.length σ₁ v₁ ∧ σ' = σ₁.take σ.length ∧ Left σ σ' ∧ (v.lowB σ.length = true ∨ ∃ w ∈ vs, v = w) := by
  have key : ∀ {self : V} {x y : Str} {o : V} {m : Nat} {items : List V}, hdrs a σ self = some (m, items) → goodS badN x = true → ((o = .none ∧ y = "") ∨ (o = .str y ∧ goodS badV y = true ∧ y.length ≤ 1000)) → addTo σ m items x y = some (v, σ') → vs = [self, .str x, o] →
      ∃ v₁ σ₁, hd_addh0 a vs σ = some (v₁, σ₁) ∧ v = V.frz σ.length σ₁ v₁ ∧ σ' = σ₁.take σ.length ∧ Left σ σ' ∧ (v.lowB σ.length = true ∨ ∃ w ∈ vs, v = w) := by
    intro self x y o m items h1 hx hy ht hv
    subst hv
    unfold addTo at ht
    split at ht
    · rename_i hl
      cases ht
      obtain ⟨z, e⟩ := addh_run a hpv h1 hx hy (Nat.le_of_ble_eq_true hl)
      refine ⟨_, _, e, rfl, ?_, left_set (hdrs_atF h1).2.2 rfl, .inl rfl⟩
      rw [List.take_append_of_le_length (by simp), List.take_of_length_le (by simp)]
    · cases ht
  unfold hd_addh at h
  split at h
  · split at h
    · rename_i m items e
      split at h
      · rename_i hx
        exact key e hx (.inl ⟨rfl, rfl⟩) h rfl
      · cases h
    · cases h
  · split at h
    · rename_i m items e
      split at h
      · rename_i hx
        simp only [Bool.and_eq_true] at hx
        exact key e hx.1.1 (.inr ⟨rfl, hx.1.2, Nat.le_of_ble_eq_true hx.2⟩) h rfl
      · cases h
    · cases h
  · cases h
end Mine
namespace Mine
open PySem PySem.Spec PySem.Calls PyProof.Rows PySem.W
theorem cst_bad (a : Ad) (self : V) (x : Str) (σ : Hp) (hx : hitN x = true) (h0 : isFrm σ[0]? = true) : raC 3 4 (cst_ra a) [self, .str x, .bool true] σ σ := by
  refine ⟨rfl, ⟨σ, rfl, [some self, some (.str x), some (.bool true), some (.g (.ref a.pN))], σ, rfl, σ, ?_, rfl⟩, ?_⟩
  · simp [hitT, hx]
  · unfold isFrm at h0
    split at h0
    · rename_i L ns vs e; exact ⟨L, ns, vs, e⟩
    · cases h0
theorem isFrm_app {σ : Hp} {z : SO} (h : isFrm σ[0]? = true) : isFrm (σ ++ [z])[0]? = true := by
  cases σ with
  | nil => simp [isFrm] at h
  | cons o r => simpa using h
theorem tryBad_ok (a : Ad) (hpv : Nat.beq a.pV a.pN = false) (loc : Loc) (σ : Hp) (h : tryBad a loc σ = true) : ∃ σr, told_ra a loc σ σr ∧ σr.take σ.length = σ := by
  unfold tryBad at h
  split at h
  · rename_i self x y l1 l8 l7
    simp only [Bool.and_eq_true] at h
    obtain ⟨⟨⟨h0, hh⟩, hx⟩, hy⟩ := h
    obtain ⟨⟨m, items⟩, hh⟩ := Option.isSome_iff_exists.mp hh
    obtain ⟨_, g2, _⟩ := hdrs_atF hh
    have f1 : isFrm (σ ++ [SO.lst [.str y]])[0]? = true := isFrm_app h0
    refine ⟨σ ++ [.lst [.str y]], ⟨self, σ, [.str x, .str y], σ, by simp [l1], g2, by simp [l8, l7], rfl, ?_, ?_⟩, by simp⟩
    · have h1 : hdrs a (σ ++ [.lst []]) self = some (m, items) := hdrs_ext hh fun _ _ e => get_app e
      have h2 : hdrs a (σ ++ [.lst [.str y]]) self = some (m, items) := hdrs_ext hh fun _ _ e => get_app e
      obtain ⟨k1, k2, k3⟩ := hdrs_atF h2
      obtain ⟨_, j2, _⟩ := hdrs_atF h1
      have hc2 := cst_run a self y false (σ ++ [.lst []]) (fun _ => hpv) (by simpa using hy)
      refine ⟨[some self, some (.str x), some (.str y), some .edict, some (.ref σ.length), none, none], σ ++ [.lst []], by simp [locOf], ?_⟩
      refine ⟨[some self, some (.str x), some (.str y), some .edict, some (.ref σ.length), none, none], σ ++ [.lst [.str y]], ?_, ?_⟩
      · have l0 : Nat.ble 0 lmax = true := by decide
        simp [j2, hc2, l0]
      · refine ⟨_, _, rfl, .ref m, σ ++ [.lst [.str y]], by simp [k1], by simp [k3], self, σ ++ [.lst [.str y]], .str x, σ ++ [.lst [.str y]], by simp, k2, by simp, cst_bad a self x _ hx f1⟩
    · unfold isFrm at f1
      split at f1
      · rename_i L ns vs e; exact ⟨L, ns, vs, e⟩
      · cases f1
  · cases h
end Mine
namespace Mine
open PySem PySem.Spec PySem.Calls PyProof.Rows PySem.W
noncomputable abbrev ad1 (LF : Addr) : Ad := ⟨248, 182, 48, 53, LF⟩
noncomputable def lay1 (C : Addr) : List Str := if Nat.beq C 248 then ["raw", "n", "nt", "norm", "is_simple"] else if Nat.beq C 182 then ["_headers"] else []
noncomputable abbrev cx1 (w : World) (h₀ : Heap) (mg mb : Str → Option Value) (lf : Option Env) : Cx := { prog := PySem.Challenge.rw_pe0265_01.row.prog, w, K := K1 w.params, h₀, lay := lay1, mg, mb, lf }
section
variable {w : World} {h₀ : Heap} {mg mb : Str → Option Value} {lf : Option Env} {LF : Addr}
noncomputable abbrev lay_WS : List Str := ["raw", "n", "nt", "norm", "is_simple"]
noncomputable abbrev lay_HD : List Str := ["_headers"]
theorem nl_WS : ((cx1 w h₀ mg mb lf).lay (ad1 LF).WS).length ≤ 1000 := by show lay_WS.length ≤ 1000; decide
theorem nl_HD : ((cx1 w h₀ mg mb lf).lay (ad1 LF).HD).length ≤ 1000 := by show lay_HD.length ≤ 1000; decide
theorem nd_WS : ((cx1 w h₀ mg mb lf).lay (ad1 LF).WS).Nodup := by show (["raw", "n", "nt", "norm", "is_simple"] : List Str).Nodup; decide
theorem nd_HD : ((cx1 w h₀ mg mb lf).lay (ad1 LF).HD).Nodup := by show (["_headers"] : List Str).Nodup; decide
theorem sa_WS : findIn (cx1 w h₀ mg mb lf).K (.ref (ad1 LF).WS) "__setattr__" = some (some (.builtin "object.__setattr__")) ∧ plainOver (cx1 w h₀ mg mb lf).K (ad1 LF).WS = true ∧ hasDictIn (cx1 w h₀ mg mb lf).K (ad1 LF).WS = true ∧ ((cx1 w h₀ mg mb lf).lay (ad1 LF).WS).Nodup := ⟨by kernel_rfl, by kernel_rfl, by kernel_rfl, nd_WS⟩
theorem sa_HD : findIn (cx1 w h₀ mg mb lf).K (.ref (ad1 LF).HD) "__setattr__" = some (some (.builtin "object.__setattr__")) ∧ plainOver (cx1 w h₀ mg mb lf).K (ad1 LF).HD = true ∧ hasDictIn (cx1 w h₀ mg mb lf).K (ad1 LF).HD = true ∧ ((cx1 w h₀ mg mb lf).lay (ad1 LF).HD).Nodup := ⟨by kernel_rfl, by kernel_rfl, by kernel_rfl, nd_HD⟩
theorem hd_noSeq : noSeq (cx1 w h₀ mg mb lf).K (ad1 LF).HD = true := by kernel_rfl
theorem hd_fset : findIn (cx1 w h₀ mg mb lf).K (.ref (ad1 LF).HD) "__setitem__" = some (some (.ref 97)) := by kernel_rfl
theorem hd_fsetf : isFn (cx1 w h₀ mg mb lf).K (.ref 97) = true := by kernel_rfl
theorem hd_fdel : findIn (cx1 w h₀ mg mb lf).K (.ref (ad1 LF).HD) "__delitem__" = some (some (.ref 102)) := by kernel_rfl
theorem hd_fdelf : isFn (cx1 w h₀ mg mb lf).K (.ref 102) = true := by kernel_rfl
theorem pats : Pats (cx1 w h₀ mg mb lf) (ad1 LF).pN (ad1 LF).pV := ⟨⟨_, _, _, _, _, _, rfl, rfl, rfl, rfl, by kernel_rfl⟩, ⟨_, _, _, _, _, _, rfl, rfl, rfl, rfl, by kernel_rfl⟩⟩
theorem patg : PatG (cx1 w h₀ mg mb lf) (ad1 LF).pN := ⟨_, _, _, _, _, _, rfl, rfl, rfl, rfl, rfl, by kernel_rfl⟩
theorem nb_len : nsIn (cx1 w h₀ mg mb lf).K mainGlobals "len" = some none := by kernel_rfl
theorem bb_len : bootBuiltins "len" = some (.builtin "len") := by kernel_rfl
theorem nn_len : ("len" : Str) ≠ "__name__" := by decide
theorem nb_tuple : nsIn (cx1 w h₀ mg mb lf).K mainGlobals "tuple" = some none := by kernel_rfl
theorem bb_tuple : bootBuiltins "tuple" = some (.type "tuple") := by kernel_rfl
theorem nn_tuple : ("tuple" : Str) ≠ "__name__" := by decide
theorem nb_range : nsIn (cx1 w h₀ mg mb lf).K mainGlobals "range" = some none := by kernel_rfl
theorem bb_range : bootBuiltins "range" = some (.type "range") := by kernel_rfl
theorem nn_range : ("range" : Str) ≠ "__name__" := by decide
theorem nb_str : nsIn (cx1 w h₀ mg mb lf).K mainGlobals "str" = some none := by kernel_rfl
theorem bb_str : bootBuiltins "str" = some (.type "str") := by kernel_rfl
theorem nn_str : ("str" : Str) ≠ "__name__" := by decide
theorem nb_type : nsIn (cx1 w h₀ mg mb lf).K mainGlobals "type" = some none := by kernel_rfl
theorem bb_type : bootBuiltins "type" = some (.type "type") := by kernel_rfl
theorem nn_type : ("type" : Str) ≠ "__name__" := by decide
theorem nb_sorted : nsIn (cx1 w h₀ mg mb lf).K mainGlobals "sorted" = some none := by kernel_rfl
theorem bb_sorted : bootBuiltins "sorted" = some (.builtin "sorted") := by kernel_rfl
theorem nn_sorted : ("sorted" : Str) ≠ "__name__" := by decide
theorem nb_list : nsIn (cx1 w h₀ mg mb lf).K mainGlobals "list" = some none := by kernel_rfl
theorem bb_list : bootBuiltins "list" = some (.type "list") := by kernel_rfl
theorem nn_list : ("list" : Str) ≠ "__name__" := by decide
theorem nb_enumerate : nsIn (cx1 w h₀ mg mb lf).K mainGlobals "enumerate" = some none := by kernel_rfl
theorem bb_enumerate : bootBuiltins "enumerate" = some (.type "enumerate") := by kernel_rfl
theorem nn_enumerate : ("enumerate" : Str) ≠ "__name__" := by decide
theorem nb_ValueError : nsIn (cx1 w h₀ mg mb lf).K mainGlobals "ValueError" = some none := by kernel_rfl
theorem bb_ValueError : bootBuiltins "ValueError" = some (.type "ValueError") := by kernel_rfl
theorem nn_ValueError : ("ValueError" : Str) ≠ "__name__" := by decide
theorem g_name_disallowed_re : nsIn (cx1 w h₀ mg mb lf).K mainGlobals "_name_disallowed_re" = some (some (.ref (ad1 LF).pN)) := by kernel_rfl
theorem g_value_disallowed_re : nsIn (cx1 w h₀ mg mb lf).K mainGlobals "_value_disallowed_re" = some (some (.ref (ad1 LF).pV)) := by kernel_rfl
theorem g_Whitespace : nsIn (cx1 w h₀ mg mb lf).K mainGlobals "Whitespace" = some (some (.ref (ad1 LF).WS)) := by kernel_rfl
theorem g_Headers : nsIn (cx1 w h₀ mg mb lf).K mainGlobals "Headers" = some (some (.ref (ad1 LF).HD)) := by kernel_rfl
theorem at_headers {k : Nat} (O : (cx1 w h₀ mg mb lf).Ok) : FnOk (cx1 w h₀ mg mb lf) k (one fun x => getAttr x "_headers" true) (atF (ad1 LF).HD 0) := get_attr O (by kernel_rfl) (by kernel_rfl) (by kernel_rfl) rfl (nd_HD)
theorem sat_headers : takerIn (cx1 w h₀ mg mb lf).K (ad1 LF).HD "_headers" = some none := by kernel_rfl
theorem at_raw {k : Nat} (O : (cx1 w h₀ mg mb lf).Ok) : FnOk (cx1 w h₀ mg mb lf) k (one fun x => getAttr x "raw" true) (atF (ad1 LF).WS 0) := get_attr O (by kernel_rfl) (by kernel_rfl) (by kernel_rfl) rfl (nd_WS)
theorem sat_raw : takerIn (cx1 w h₀ mg mb lf).K (ad1 LF).WS "raw" = some none := by kernel_rfl
theorem sat_n : takerIn (cx1 w h₀ mg mb lf).K (ad1 LF).WS "n" = some none := by kernel_rfl
theorem sat_nt : takerIn (cx1 w h₀ mg mb lf).K (ad1 LF).WS "nt" = some none := by kernel_rfl
theorem at_norm {k : Nat} (O : (cx1 w h₀ mg mb lf).Ok) : FnOk (cx1 w h₀ mg mb lf) k (one fun x => getAttr x "norm" true) (atF (ad1 LF).WS 3) := get_attr O (by kernel_rfl) (by kernel_rfl) (by kernel_rfl) rfl (nd_WS)
theorem sat_norm : takerIn (cx1 w h₀ mg mb lf).K (ad1 LF).WS "norm" = some none := by kernel_rfl
theorem sat_is_simple : takerIn (cx1 w h₀ mg mb lf).K (ad1 LF).WS "is_simple" = some none := by kernel_rfl
theorem cat_S {k : Nat} (O : (cx1 w h₀ mg mb lf).Ok) : FnOk (cx1 w h₀ mg mb lf) k (one fun x => getAttr x "S" true) (clsF (ad1 LF).WS (.str " ")) := get_clsattr (mc := .type "type") O (by kernel_rfl) rfl rfl (fun _ _ _ => .str)
theorem cat_T {k : Nat} (O : (cx1 w h₀ mg mb lf).Ok) : FnOk (cx1 w h₀ mg mb lf) k (one fun x => getAttr x "T" true) (clsF (ad1 LF).WS (.str "\t")) := get_clsattr (mc := .type "type") O (by kernel_rfl) rfl rfl (fun _ _ _ => .str)
theorem den_ws_init (O : (cx1 w h₀ mg mb lf).Ok) : DenSs (cx1 w h₀ mg mb lf) 3 ws_init_vars (fdIn (cx1 w h₀ mg mb lf).K 203).scope (bodyIn (cx1 w h₀ mg mb lf).K 203) (ws_init_sh (ad1 LF)) := by
  conv => enter [4]; whnf
  conv => enter [5]; whnf
  refine @den_cons _ _ _ _ _ _ _ _ (@den_asgT _ _ _ _ _ _ _ _ _ (@den_nm _ _ _ _ _ _ _ (mm 1 rfl) rfl) (@den_atA _ _ _ _ O _ _ _ _ _ _ (@den_nm _ _ _ _ _ _ _ (mm 0 rfl) rfl) sa_WS.1 sa_WS.2.1 (sat_raw) sa_WS.2.2.1 sa_WS.2.2.2 rfl nl_WS) rfl (by intro env h; first | rfl | (obtain ⟨⟩ := env; cases h; rfl)) (by intro env h; first | rfl | (obtain ⟨⟩ := env; cases h; rfl))) ?_
  refine @den_cons _ _ _ _ _ _ _ _ (@den_swap _ _ _ _ _ _ _ _ _ _ _ ["S", "T"] (@den_tup _ _ _ _ _ _ _ _ (@den_argC _ _ _ _ _ _ _ _ (@den_at _ _ _ _ _ _ _ _ _ (@den_gl _ _ _ _ O _ _ _ rfl g_Whitespace rfl) (@cat_S _ _ _ _ _ _ _ O) (fun _ => rfl)) (@den_argC _ _ _ _ _ _ _ _ (@den_at _ _ _ _ _ _ _ _ _ (@den_gl _ _ _ _ O _ _ _ rfl g_Whitespace rfl) (@cat_T _ _ _ _ _ _ _ O) (fun _ => rfl)) (@den_argNil _ _ _ _) rfl) rfl) (Nat.le_of_ble_eq_true rfl)) (by decide) rfl (by intro env h; first | rfl | (obtain ⟨⟩ := env; cases h; rfl)) (by intro env h; first | rfl | (obtain ⟨⟩ := env; cases h; rfl))) ?_
  refine @den_cons _ _ _ _ _ _ _ _ (@den_asg _ _ _ _ _ _ _ _ _ _ (@den_mlst _ _ _ _ _ _ _ (@den_argNil _ _ _ _) (Nat.le_of_ble_eq_true rfl)) (mm 4 rfl) (by intro env h; first | rfl | (obtain ⟨⟩ := env; cases h; rfl))) ?_
  refine @den_cons _ _ _ _ _ _ _ _ (@den_asg3 _ _ _ _ _ _ _ _ _ _ _ _ _ (@den_int _ _ _ _ _ _ _) (@den_nmA _ _ _ _ _ _ _ (mm 5 rfl)) (@den_nmA _ _ _ _ _ _ _ (mm 6 rfl)) (@den_nmA _ _ _ _ _ _ _ (mm 7 rfl)) (fun _ => rfl) (fun _ => rfl)) ?_
  refine @den_cons _ _ _ _ _ _ _ _ (@den_for _ _ _ _ _ _ _ _ _ _ _ (@den_at _ _ _ _ _ _ _ _ _ (@den_nm _ _ _ _ _ _ _ (mm 0 rfl) rfl) (@at_raw _ _ _ _ _ _ _ O) (fun _ => rfl)) (@den_nmA _ _ _ _ _ _ _ (mm 8 rfl)) ?_ (fun _ _ => rfl)) ?_
  · refine @den_cons _ _ _ _ _ _ _ _ (@den_if _ _ _ _ _ _ _ _ _ _ _ (@den_cmpT _ _ _ _ _ _ _ _ _ _ _ (@den_nm _ _ _ _ _ _ _ (mm 8 rfl) rfl) (@den_nm _ _ _ _ _ _ _ (mm 2 rfl) rfl) (@fn_eq _ _) rfl) ?_ ?_) ?_
    · refine @den_cons _ _ _ _ _ _ _ _ (@den_asg _ _ _ _ _ _ _ _ _ _ (@den_bin _ _ _ _ _ _ _ _ _ _ _ (@den_nm _ _ _ _ _ _ _ (mm 6 rfl) rfl) (@den_int _ _ _ _ _ _ _) (@fn_addF _ _)) (mm 6 rfl) (by intro env h; first | rfl | (obtain ⟨⟩ := env; cases h; rfl))) ?_
      refine @den_cons _ _ _ _ _ _ _ _ (@den_asg _ _ _ _ _ _ _ _ _ _ (@den_bin _ _ _ _ _ _ _ _ _ _ _ (@den_nm _ _ _ _ _ _ _ (mm 5 rfl) rfl) (@den_int _ _ _ _ _ _ _) (@fn_addF _ _)) (mm 5 rfl) (by intro env h; first | rfl | (obtain ⟨⟩ := env; cases h; rfl))) ?_
      exact @den_nil _ _ _ _
    · refine @den_cons _ _ _ _ _ _ _ _ (@den_if _ _ _ _ _ _ _ _ _ _ _ (@den_cmpT _ _ _ _ _ _ _ _ _ _ _ (@den_nm _ _ _ _ _ _ _ (mm 8 rfl) rfl) (@den_nm _ _ _ _ _ _ _ (mm 3 rfl) rfl) (@fn_eq _ _) rfl) ?_ ?_) ?_
      · refine @den_cons _ _ _ _ _ _ _ _ (@den_asg _ _ _ _ _ _ _ _ _ _ (@den_bin _ _ _ _ _ _ _ _ _ _ _ (@den_nm _ _ _ _ _ _ _ (mm 6 rfl) rfl) (@den_int _ _ _ _ _ _ _) (@fn_addF _ _)) (mm 6 rfl) (by intro env h; first | rfl | (obtain ⟨⟩ := env; cases h; rfl))) ?_
        refine @den_cons _ _ _ _ _ _ _ _ (@den_asg _ _ _ _ _ _ _ _ _ _ (@den_bin _ _ _ _ _ _ _ _ _ _ _ (@den_nm _ _ _ _ _ _ _ (mm 7 rfl) rfl) (@den_int _ _ _ _ _ _ _) (@fn_addF _ _)) (mm 7 rfl) (by intro env h; first | rfl | (obtain ⟨⟩ := env; cases h; rfl))) ?_
        refine @den_cons _ _ _ _ _ _ _ _ (@den_if _ _ _ _ _ _ _ _ _ _ _ (@den_cmpT _ _ _ _ _ _ _ _ _ _ _ (@den_nm _ _ _ _ _ _ _ (mm 5 rfl) rfl) (@den_call _ _ _ _ O _ _ _ _ _ _ _ (@den_bi _ _ _ _ O _ _ _ rfl nb_len bb_len nn_len rfl) Keep.builtin (@fn_len _ _) (@den_argC _ _ _ _ _ _ _ _ (@den_nm _ _ _ _ _ _ _ (mm 4 rfl) rfl) (@den_argNil _ _ _ _) rfl) rfl) (@fn_ge _ _) rfl) ?_ ?_) ?_
        · refine @den_cons _ _ _ _ _ _ _ _ (@den_asg _ _ _ _ _ _ _ _ _ _ (@den_bin _ _ _ _ _ _ _ _ _ _ _ (@den_nm _ _ _ _ _ _ _ (mm 4 rfl) rfl) (@den_bin _ _ _ _ _ _ _ _ _ _ _ (@den_lst _ _ _ _ _ _ _ (@den_argC _ _ _ _ _ _ _ _ (@den_int _ _ _ _ _ _ _) (@den_argNil _ _ _ _) rfl) (Nat.le_of_ble_eq_true rfl)) (@den_bin _ _ _ _ _ _ _ _ _ _ _ (@den_bin _ _ _ _ _ _ _ _ _ _ _ (@den_nm _ _ _ _ _ _ _ (mm 5 rfl) rfl) (@den_call _ _ _ _ O _ _ _ _ _ _ _ (@den_bi _ _ _ _ O _ _ _ rfl nb_len bb_len nn_len rfl) Keep.builtin (@fn_len _ _) (@den_argC _ _ _ _ _ _ _ _ (@den_nm _ _ _ _ _ _ _ (mm 4 rfl) rfl) (@den_argNil _ _ _ _) rfl) rfl) (@fn_sub _ _)) (@den_int _ _ _ _ _ _ _) (@fn_addF _ _)) (@fn_mulF _ _)) (@fn_addF _ _)) (mm 4 rfl) (by intro env h; first | rfl | (obtain ⟨⟩ := env; cases h; rfl))) ?_
          exact @den_nil _ _ _ _
        · exact @den_nil _ _ _ _
        refine @den_cons _ _ _ _ _ _ _ _ (@den_asgT _ _ _ _ _ _ _ _ _ (@den_bin _ _ _ _ _ _ _ _ _ _ _ (@den_idx _ _ _ _ _ _ _ _ _ (@den_nm _ _ _ _ _ _ _ (mm 4 rfl) rfl) (@den_nm _ _ _ _ _ _ _ (mm 5 rfl) rfl) (fun _ _ => rfl)) (@den_int _ _ _ _ _ _ _) (@fn_addF _ _)) (@den_subA _ _ _ _ _ _ _ _ _ (@den_nm _ _ _ _ _ _ _ (mm 4 rfl) rfl) (@den_nm _ _ _ _ _ _ _ (mm 5 rfl) rfl)) rfl (by intro env h; first | rfl | (obtain ⟨⟩ := env; cases h; rfl)) (by intro env h; first | rfl | (obtain ⟨⟩ := env; cases h; rfl))) ?_
        refine @den_cons _ _ _ _ _ _ _ _ (@den_asg _ _ _ _ _ _ _ _ _ _ (@den_int _ _ _ _ _ _ _) (mm 5 rfl) (by intro env h; first | rfl | (obtain ⟨⟩ := env; cases h; rfl))) ?_
        exact @den_nil _ _ _ _
      · refine @den_cons _ _ _ _ _ _ _ _ (@den_brk _ _ _ _ _) ?_
        exact @den_nil _ _ _ _
      exact @den_nil _ _ _ _
    exact @den_nil _ _ _ _
  refine @den_cons _ _ _ _ _ _ _ _ (@den_asgT _ _ _ _ _ _ _ _ _ (@den_nm _ _ _ _ _ _ _ (mm 6 rfl) rfl) (@den_atA _ _ _ _ O _ _ _ _ _ _ (@den_nm _ _ _ _ _ _ _ (mm 0 rfl) rfl) sa_WS.1 sa_WS.2.1 (sat_n) sa_WS.2.2.1 sa_WS.2.2.2 rfl nl_WS) rfl (by intro env h; first | rfl | (obtain ⟨⟩ := env; cases h; rfl)) (by intro env h; first | rfl | (obtain ⟨⟩ := env; cases h; rfl))) ?_
  refine @den_cons _ _ _ _ _ _ _ _ (@den_asgT _ _ _ _ _ _ _ _ _ (@den_nm _ _ _ _ _ _ _ (mm 7 rfl) rfl) (@den_atA _ _ _ _ O _ _ _ _ _ _ (@den_nm _ _ _ _ _ _ _ (mm 0 rfl) rfl) sa_WS.1 sa_WS.2.1 (sat_nt) sa_WS.2.2.1 sa_WS.2.2.2 rfl nl_WS) rfl (by intro env h; first | rfl | (obtain ⟨⟩ := env; cases h; rfl)) (by intro env h; first | rfl | (obtain ⟨⟩ := env; cases h; rfl))) ?_
  refine @den_cons _ _ _ _ _ _ _ _ (@den_asgT _ _ _ _ _ _ _ _ _ (@den_tup _ _ _ _ _ _ _ _ (@den_argC _ _ _ _ _ _ _ _ (@den_call _ _ _ _ O _ _ _ _ _ _ _ (@den_bi _ _ _ _ O _ _ _ rfl nb_tuple bb_tuple nn_tuple rfl) Keep.type (@fn_tup _ _) (@den_argC _ _ _ _ _ _ _ _ (@den_nm _ _ _ _ _ _ _ (mm 4 rfl) rfl) (@den_argNil _ _ _ _) rfl) rfl) (@den_argC _ _ _ _ _ _ _ _ (@den_nm _ _ _ _ _ _ _ (mm 5 rfl) rfl) (@den_argNil _ _ _ _) rfl) rfl) (Nat.le_of_ble_eq_true rfl)) (@den_atA _ _ _ _ O _ _ _ _ _ _ (@den_nm _ _ _ _ _ _ _ (mm 0 rfl) rfl) sa_WS.1 sa_WS.2.1 (sat_norm) sa_WS.2.2.1 sa_WS.2.2.2 rfl nl_WS) rfl (by intro env h; first | rfl | (obtain ⟨⟩ := env; cases h; rfl)) (by intro env h; first | rfl | (obtain ⟨⟩ := env; cases h; rfl))) ?_
  refine @den_cons _ _ _ _ _ _ _ _ (@den_asgT _ _ _ _ _ _ _ _ _ (@den_cmp _ _ _ _ _ _ _ _ _ _ _ (@den_call _ _ _ _ O _ _ _ _ _ _ _ (@den_bi _ _ _ _ O _ _ _ rfl nb_len bb_len nn_len rfl) Keep.builtin (@fn_len _ _) (@den_argC _ _ _ _ _ _ _ _ (@den_nm _ _ _ _ _ _ _ (mm 4 rfl) rfl) (@den_argNil _ _ _ _) rfl) rfl) (@den_int _ _ _ _ _ _ _) (@fn_le _ _) rfl) (@den_atA _ _ _ _ O _ _ _ _ _ _ (@den_nm _ _ _ _ _ _ _ (mm 0 rfl) rfl) sa_WS.1 sa_WS.2.1 (sat_is_simple) sa_WS.2.2.1 sa_WS.2.2.2 rfl nl_WS) rfl (by intro env h; first | rfl | (obtain ⟨⟩ := env; cases h; rfl)) (by intro env h; first | rfl | (obtain ⟨⟩ := env; cases h; rfl))) ?_
  exact @den_nil _ _ _ _
theorem shape_ws_init : FnShape (cx1 w h₀ mg mb lf) 203 (fdIn (cx1 w h₀ mg mb lf).K 203) (bodyIn (cx1 w h₀ mg mb lf).K 203) ["self", "ws"] ws_init_vars 9 := FnShape.of (by kernel_rfl)
theorem code_ws_init (O : (cx1 w h₀ mg mb lf).Ok) : CodeOk (cx1 w h₀ mg mb lf) 4 (fun xs => .call (.ref 203) ⟨xs, []⟩) (ws_init0 (ad1 LF)) :=
  code_fn O shape_ws_init (@den_ws_init _ _ _ _ _ _ O) (Binds.of2 (mk := fun xs => ⟨xs, []⟩) fun a b => by kernel_rfl) rfl
theorem ok_Whitespace (O : (cx1 w h₀ mg mb lf).Ok) : FnOk (cx1 w h₀ mg mb lf) 5 (fun xs => call (.ref (ad1 LF).WS) xs) (Whitespace (ad1 LF)) :=
  (CodeOk.trG (code_cls O (@code_ws_init _ _ _ _ _ _ O) (by kernel_rfl) (by kernel_rfl) (by kernel_rfl)) (ref_Whitespace (ad1 LF))).fn
theorem kp_Whitespace : Keep (cx1 w h₀ mg mb lf) (.ref (ad1 LF).WS) := Keep.K (by kernel_rfl)
theorem den_ws_equal (O : (cx1 w h₀ mg mb lf).Ok) : DenSs (cx1 w h₀ mg mb lf) 3 ws_equal_vars (fdIn (cx1 w h₀ mg mb lf).K 224).scope (bodyIn (cx1 w h₀ mg mb lf).K 224) (ws_equal_sh (ad1 LF)) := by
  conv => enter [4]; whnf
  conv => enter [5]; whnf
  refine @den_cons _ _ _ _ _ _ _ _ (@den_ret _ _ _ _ _ _ _ (@den_cmp _ _ _ _ _ _ _ _ _ _ _ (@den_at _ _ _ _ _ _ _ _ _ (@den_nm _ _ _ _ _ _ _ (mm 0 rfl) rfl) (@at_norm _ _ _ _ _ _ _ O) (fun _ => rfl)) (@den_at _ _ _ _ _ _ _ _ _ (@den_nm _ _ _ _ _ _ _ (mm 1 rfl) rfl) (@at_norm _ _ _ _ _ _ _ O) (fun _ => rfl)) (@fn_eq _ _) rfl)) ?_
  exact @den_nil _ _ _ _
theorem shape_ws_equal : FnShape (cx1 w h₀ mg mb lf) 224 (fdIn (cx1 w h₀ mg mb lf).K 224) (bodyIn (cx1 w h₀ mg mb lf).K 224) ["self", "other"] ws_equal_vars 2 := FnShape.of (by kernel_rfl)
theorem code_ws_equal (O : (cx1 w h₀ mg mb lf).Ok) : CodeOk (cx1 w h₀ mg mb lf) 4 (fun xs => .call (.ref 224) ⟨xs, []⟩) (ws_equal (ad1 LF)) :=
  code_fn O shape_ws_equal (@den_ws_equal _ _ _ _ _ _ O) (Binds.of2 (mk := fun xs => ⟨xs, []⟩) fun a b => by kernel_rfl) rfl
theorem ok_ws_equal (O : (cx1 w h₀ mg mb lf).Ok) : FnOk (cx1 w h₀ mg mb lf) 4 (fun xs => call (.ref 224) xs) (ws_equal (ad1 LF)) := (@code_ws_equal _ _ _ _ _ _ O).fn
theorem kp_ws_equal : Keep (cx1 w h₀ mg mb lf) (.ref 224) := Keep.K (by kernel_rfl)
theorem me_ws_equal (O : (cx1 w h₀ mg mb lf).Ok) : MethAt (cx1 w h₀ mg mb lf) "equal" (.ref 224) (chkI (ad1 LF).WS) := meth_inst O (by kernel_rfl) (by kernel_rfl) (by kernel_rfl) (by show ("equal" : Str) ∉ (lay_WS : List Str); decide)
theorem den_hd_cst (O : (cx1 w h₀ mg mb lf).Ok) : DenSs (cx1 w h₀ mg mb lf) 3 hd_cst_vars (fdIn (cx1 w h₀ mg mb lf).K 83).scope (bodyIn (cx1 w h₀ mg mb lf).K 83) (hd_cst_sh (ad1 LF)) := by
  conv => enter [4]; whnf
  conv => enter [5]; whnf
  refine @den_cons _ _ _ _ _ _ _ _ (@den_if _ _ _ _ _ _ _ _ _ _ _ (@den_cmpT _ _ _ _ _ _ _ _ _ _ _ (@den_call _ _ _ _ O _ _ _ _ _ _ _ (@den_bi _ _ _ _ O _ _ _ rfl nb_type bb_type nn_type rfl) Keep.type (@fn_typ _ _) (@den_argC _ _ _ _ _ _ _ _ (@den_nm _ _ _ _ _ _ _ (mm 1 rfl) rfl) (@den_argNil _ _ _ _) rfl) rfl) (@den_bi _ _ _ _ O _ _ _ rfl nb_str bb_str nn_str rfl) (@fn_is _ _) rfl) ?_ ?_) ?_
  · refine @den_cons _ _ _ _ _ _ _ _ (@den_asg _ _ _ _ _ _ _ _ _ _ (@den_ifE _ _ _ _ _ _ _ _ _ _ _ (@den_valT _ _ _ _ _ _ (@den_nm _ _ _ _ _ _ _ (mm 2 rfl) rfl) (fun _ _ => rfl)) (@den_gl _ _ _ _ O _ _ _ rfl g_name_disallowed_re rfl) (@den_gl _ _ _ _ O _ _ _ rfl g_value_disallowed_re rfl)) (mm 3 rfl) (by intro env h; first | rfl | (obtain ⟨⟩ := env; cases h; rfl))) ?_
    refine @den_cons _ _ _ _ _ _ _ _ (@den_if _ _ _ _ _ _ _ _ _ _ _ (@den_valT _ _ _ _ _ _ (@den_meth _ _ _ _ O _ _ _ _ _ _ _ _ _ _ (@den_nm _ _ _ _ _ _ _ (mm 3 rfl) rfl) (@meth_search _ O _ _ pats) Keep.builtin (@fn_search _ _ O _ _ pats) (@den_argC _ _ _ _ _ _ _ _ (@den_nm _ _ _ _ _ _ _ (mm 1 rfl) rfl) (@den_argNil _ _ _ _) rfl) rfl (fun env _ => ⟨_, rfl⟩)) (fun _ _ => rfl)) ?_ ?_) ?_
    · refine @den_cons _ _ _ _ _ _ _ _ (@den_fail _ _ _ _ _) ?_
      exact @den_nil _ _ _ _
    · exact @den_nil _ _ _ _
    refine @den_cons _ _ _ _ _ _ _ _ (@den_ret _ _ _ _ _ _ _ (@den_nm _ _ _ _ _ _ _ (mm 1 rfl) rfl)) ?_
    exact @den_nil _ _ _ _
  · exact @den_nil _ _ _ _
  refine @den_cons _ _ _ _ _ _ _ _ (@den_fail _ _ _ _ _) ?_
  exact @den_nil _ _ _ _
theorem shape_hd_cst : FnShape (cx1 w h₀ mg mb lf) 83 (fdIn (cx1 w h₀ mg mb lf).K 83) (bodyIn (cx1 w h₀ mg mb lf).K 83) ["self", "value", "name"] hd_cst_vars 4 := FnShape.of (by kernel_rfl)
theorem code_hd_cst (O : (cx1 w h₀ mg mb lf).Ok) : CodeOk (cx1 w h₀ mg mb lf) 4 (fun xs => .call (.ref 83) ⟨xs.dropLast, [("name", xs.getLastD .none)]⟩) (hd_cst (ad1 LF)) :=
  code_fn O shape_hd_cst (@den_hd_cst _ _ _ _ _ _ O) (Binds.of3 (mk := fun xs => ⟨xs.dropLast, [("name", xs.getLastD .none)]⟩) fun a b c => by kernel_rfl) rfl
theorem ok_hd_cst (O : (cx1 w h₀ mg mb lf).Ok) : FnOk (cx1 w h₀ mg mb lf) 4 (kw1 (.ref 83) "name") (hd_cst (ad1 LF)) := (@code_hd_cst _ _ _ _ _ _ O).kw
theorem kp_hd_cst : Keep (cx1 w h₀ mg mb lf) (.ref 83) := Keep.K (by kernel_rfl)
theorem me_hd_cst (O : (cx1 w h₀ mg mb lf).Ok) : MethAt (cx1 w h₀ mg mb lf) "_convert_string_type" (.ref 83) (chkI (ad1 LF).HD) := meth_inst O (by kernel_rfl) (by kernel_rfl) (by kernel_rfl) (by show ("_convert_string_type" : Str) ∉ (lay_HD : List Str); decide)
theorem ra_hd_cst (O : (cx1 w h₀ mg mb lf).Ok) : RaSs (cx1 w h₀ mg mb lf) 4 hd_cst_vars (fdIn (cx1 w h₀ mg mb lf).K 83).scope (bodyIn (cx1 w h₀ mg mb lf).K 83) (cst_ra (ad1 LF)) := by
  conv => enter [4]; whnf
  conv => enter [5]; whnf
  refine ra_here (ra_if (den_cmpT (den_call O (den_bi O rfl nb_type bb_type nn_type rfl) Keep.type fn_typ (den_argC (den_nm (mm 1 rfl) rfl) (den_argNil) rfl) rfl) (den_bi O rfl nb_str bb_str nn_str rfl) fn_is rfl) (ra_next (den_asg (den_ifE (den_valT (den_nm (mm 2 rfl) rfl) (fun _ _ => rfl)) (den_gl O rfl g_name_disallowed_re rfl) (den_gl O rfl g_value_disallowed_re rfl)) (mm 3 rfl) (by intro env h; first | rfl | (obtain ⟨⟩ := env; cases h; rfl))) (ra_here (ra_if (den_hit O patg (den_nm (mm 3 rfl) rfl) (den_nm (mm 1 rfl) rfl) rfl (fun env _ => ⟨_, rfl⟩) Keep.builtin (fun _ _ => rfl)) (ra_here (ra_raise (den_bi O rfl nb_ValueError bb_ValueError nn_ValueError rfl) den_str rfl))))))
theorem code_ra_hd_cst (O : (cx1 w h₀ mg mb lf).Ok) : CodeRa (cx1 w h₀ mg mb lf) 5 (fun xs => .call (.ref 83) ⟨xs.dropLast, [("name", xs.getLastD .none)]⟩) (raC 3 4 (cst_ra (ad1 LF))) :=
  code_ra O shape_hd_cst (ra_hd_cst O) (Binds.of3 (mk := fun xs => ⟨xs.dropLast, [("name", xs.getLastD .none)]⟩) fun a b c => by kernel_rfl)
theorem den_hd_init (O : (cx1 w h₀ mg mb lf).Ok) : DenSs (cx1 w h₀ mg mb lf) 4 hd_init_vars (fdIn (cx1 w h₀ mg mb lf).K 76).scope (bodyIn (cx1 w h₀ mg mb lf).K 76) (hd_init_sh (ad1 LF)) := by
  conv => enter [4]; whnf
  conv => enter [5]; whnf
  refine @den_cons _ _ _ _ _ _ _ _ (@den_asg _ _ _ _ _ _ _ _ _ _ (@den_ifE _ _ _ _ _ _ _ _ _ _ _ (@den_cmpT _ _ _ _ _ _ _ _ _ _ _ (@den_nm _ _ _ _ _ _ _ (mm 1 rfl) rfl) (@den_none _ _ _ _ _ _) (@fn_isNot _ _) rfl) (@den_nm _ _ _ _ _ _ _ (mm 1 rfl) rfl) (@den_mlst _ _ _ _ _ _ _ (@den_argNil _ _ _ _) (Nat.le_of_ble_eq_true rfl))) (mm 1 rfl) (by intro env h; first | rfl | (obtain ⟨⟩ := env; cases h; rfl))) ?_
  refine @den_cons _ _ _ _ _ _ _ _ (@den_if _ _ _ _ _ _ _ _ _ _ _ (@den_cmpT _ _ _ _ _ _ _ _ _ _ _ (@den_call _ _ _ _ O _ _ _ _ _ _ _ (@den_bi _ _ _ _ O _ _ _ rfl nb_type bb_type nn_type rfl) Keep.type (@fn_typ _ _) (@den_argC _ _ _ _ _ _ _ _ (@den_nm _ _ _ _ _ _ _ (mm 1 rfl) rfl) (@den_argNil _ _ _ _) rfl) rfl) (@den_bi _ _ _ _ O _ _ _ rfl nb_list bb_list nn_list rfl) (@fn_isNot _ _) rfl) ?_ ?_) ?_
  · refine @den_cons _ _ _ _ _ _ _ _ (@den_fail _ _ _ _ _) ?_
    exact @den_nil _ _ _ _
  · exact @den_nil _ _ _ _
  refine @den_cons _ _ _ _ _ _ _ _ (@den_asgT _ _ _ _ _ _ _ _ _ (@den_nm _ _ _ _ _ _ _ (mm 1 rfl) rfl) (@den_atA _ _ _ _ O _ _ _ _ _ _ (@den_nm _ _ _ _ _ _ _ (mm 0 rfl) rfl) sa_HD.1 sa_HD.2.1 (sat_headers) sa_HD.2.2.1 sa_HD.2.2.2 rfl nl_HD) rfl (by intro env h; first | rfl | (obtain ⟨⟩ := env; cases h; rfl)) (by intro env h; first | rfl | (obtain ⟨⟩ := env; cases h; rfl))) ?_
  refine @den_cons _ _ _ _ _ _ _ _ (@den_if _ _ _ _ _ _ _ _ _ _ _ (@den_valT _ _ _ _ _ _ (@den_bool _ _ _ _ _ _ _) (fun _ _ => rfl)) ?_ ?_) ?_
  · refine @den_cons _ _ _ _ _ _ _ _ (@den_for _ _ _ _ _ _ _ _ _ _ _ (@den_nm _ _ _ _ _ _ _ (mm 1 rfl) rfl) (@den_tupT _ _ _ _ _ _ _ _ _ (@den_asCons _ _ _ _ _ _ _ _ _ (fun _ _ h => h) (@den_nmA _ _ _ _ _ _ _ (mm 2 rfl)) (@den_asCons _ _ _ _ _ _ _ _ _ (fun _ _ h => h) (@den_nmA _ _ _ _ _ _ _ (mm 3 rfl)) (@den_asNil _ _ _ _ _) rfl) rfl) rfl rfl) ?_ (fun _ _ => rfl)) ?_
    · refine @den_cons _ _ _ _ _ _ _ _ (@den_expr _ _ _ _ _ _ _ (@den_methKw _ _ _ _ O _ _ _ _ _ _ _ _ _ _ _ _ _ _ _ (@den_nm _ _ _ _ _ _ _ (mm 0 rfl) rfl) (@me_hd_cst _ _ _ _ _ _ O) kp_hd_cst (@FnOk.le _ _ _ _ _ (@ok_hd_cst _ _ _ _ _ _ O) (by decide)) (@den_nm _ _ _ _ _ _ _ (mm 2 rfl) rfl) rfl (fun env _ => ⟨_, rfl⟩)) (fun _ => rfl)) ?_
      refine @den_cons _ _ _ _ _ _ _ _ (@den_expr _ _ _ _ _ _ _ (@den_methKw _ _ _ _ O _ _ _ _ _ _ _ _ _ _ _ _ _ _ _ (@den_nm _ _ _ _ _ _ _ (mm 0 rfl) rfl) (@me_hd_cst _ _ _ _ _ _ O) kp_hd_cst (@FnOk.le _ _ _ _ _ (@ok_hd_cst _ _ _ _ _ _ O) (by decide)) (@den_nm _ _ _ _ _ _ _ (mm 3 rfl) rfl) rfl (fun env _ => ⟨_, rfl⟩)) (fun _ => rfl)) ?_
      exact @den_nil _ _ _ _
    exact @den_nil _ _ _ _
  · exact @den_nil _ _ _ _
  exact @den_nil _ _ _ _
theorem shape_hd_init : FnShape (cx1 w h₀ mg mb lf) 76 (fdIn (cx1 w h₀ mg mb lf).K 76) (bodyIn (cx1 w h₀ mg mb lf).K 76) ["self", "headers"] hd_init_vars 4 := FnShape.of (by kernel_rfl)
theorem bi_hd_init (s : Shared) (a : Value) (X : (cx1 w h₀ mg mb lf).K.In s.heap) : BindsTo s (fdIn (cx1 w h₀ mg mb lf).K 76) ⟨[a], []⟩ [("self", a), ("headers", .none)] := by
  conv => enter [2]; whnf
  exact binds_K (T := 69) X rfl rfl rfl rfl rfl
theorem code_hd_init (O : (cx1 w h₀ mg mb lf).Ok) : CodeOk (cx1 w h₀ mg mb lf) 5 (fun xs => .call (.ref 76) ⟨xs, []⟩) (dfF 1 [.none] (hd_init (ad1 LF))) :=
  code_fnD O shape_hd_init (@den_hd_init _ _ _ _ _ _ O) (BindsD.of1 bi_hd_init) rfl rfl (fun _ _ _ => .cons .none .nil)
theorem ok_Headers (O : (cx1 w h₀ mg mb lf).Ok) : FnOk (cx1 w h₀ mg mb lf) 6 (fun xs => call (.ref (ad1 LF).HD) xs) (Headers (ad1 LF)) :=
  (code_cls O (@code_hd_init _ _ _ _ _ _ O) (by kernel_rfl) (by kernel_rfl) (by kernel_rfl)).fn
theorem kp_Headers : Keep (cx1 w h₀ mg mb lf) (.ref (ad1 LF).HD) := Keep.K (by kernel_rfl)
theorem den_hd_delitem (O : (cx1 w h₀ mg mb lf).Ok) : DenSs (cx1 w h₀ mg mb lf) 4 hd_delitem_vars (fdIn (cx1 w h₀ mg mb lf).K 102).scope (bodyIn (cx1 w h₀ mg mb lf).K 102) (hd_delitem_sh (ad1 LF)) := by
  conv => enter [4]; whnf
  conv => enter [5]; whnf
  refine @den_cons _ _ _ _ _ _ _ _ (@den_asg _ _ _ _ _ _ _ _ _ _ (@den_methKw _ _ _ _ O _ _ _ _ _ _ _ _ _ _ _ _ _ _ _ (@den_nm _ _ _ _ _ _ _ (mm 0 rfl) rfl) (@me_hd_cst _ _ _ _ _ _ O) kp_hd_cst (@FnOk.le _ _ _ _ _ (@ok_hd_cst _ _ _ _ _ _ O) (by decide)) (@den_meth _ _ _ _ O _ _ _ _ _ _ _ _ _ _ (@den_nm _ _ _ _ _ _ _ (mm 1 rfl) rfl) (@meth_lower _) Keep.builtin (@fn_lower _ _) (@den_argNil _ _ _ _) rfl (fun env _ => ⟨_, rfl⟩)) rfl (fun env _ => ⟨_, rfl⟩)) (mm 1 rfl) (by intro env h; first | rfl | (obtain ⟨⟩ := env; cases h; rfl))) ?_
  refine @den_cons _ _ _ _ _ _ _ _ (@den_asgT _ _ _ _ _ _ _ _ _ (@den_lcV _ _ _ _ _ _ _ _ _ _ _ _ _ _ _ _ (by decide +kernel) (@den_at _ _ _ _ _ _ _ _ _ (@den_nm _ _ _ _ _ _ _ (mm 0 rfl) rfl) (@at_headers _ _ _ _ _ _ _ O) (fun _ => rfl)) (@den_nmAL _ _ _ _ _ _ _ (mm 0 rfl) rfl) (@den_if1 _ _ _ _ _ _ (@den_cmpT _ _ _ _ _ _ _ _ _ _ _ (@den_meth _ _ _ _ O _ _ _ _ _ _ _ _ _ _ (@den_idx _ _ _ _ _ _ _ _ _ (@den_nm _ _ _ _ _ _ _ (mm 0 rfl) rfl) (@den_int _ _ _ _ _ _ _) (fun _ _ => rfl)) (@meth_lower _) Keep.builtin (@fn_lower _ _) (@den_argNil _ _ _ _) rfl (fun env _ => ⟨_, rfl⟩)) (@den_nm _ _ _ _ _ _ _ (mm 1 rfl) rfl) (@fn_ne _ _) rfl)) (@den_nm _ _ _ _ _ _ _ (mm 0 rfl) rfl) (fun _ _ => rfl)) (@den_slA _ _ _ _ _ _ _ _ (@den_at _ _ _ _ _ _ _ _ _ (@den_nm _ _ _ _ _ _ _ (mm 0 rfl) rfl) (@at_headers _ _ _ _ _ _ _ O) (fun _ => rfl))) rfl (by intro env h; first | rfl | (obtain ⟨⟩ := env; cases h; rfl)) (by intro env h; first | rfl | (obtain ⟨⟩ := env; cases h; rfl))) ?_
  exact @den_nil _ _ _ _
theorem shape_hd_delitem : FnShape (cx1 w h₀ mg mb lf) 102 (fdIn (cx1 w h₀ mg mb lf).K 102) (bodyIn (cx1 w h₀ mg mb lf).K 102) ["self", "name"] hd_delitem_vars 3 := FnShape.of (by kernel_rfl)
theorem code_hd_delitem (O : (cx1 w h₀ mg mb lf).Ok) : CodeOk (cx1 w h₀ mg mb lf) 5 (fun xs => .call (.ref 102) ⟨xs, []⟩) (hd_delitem (ad1 LF)) :=
  code_fn O shape_hd_delitem (@den_hd_delitem _ _ _ _ _ _ O) (Binds.of2 (mk := fun xs => ⟨xs, []⟩) fun a b => by kernel_rfl) rfl
theorem ok_hd_delitem (O : (cx1 w h₀ mg mb lf).Ok) : FnOk (cx1 w h₀ mg mb lf) 5 (fun xs => call (.ref 102) xs) (hd_delitem (ad1 LF)) := (@code_hd_delitem _ _ _ _ _ _ O).fn
theorem den_hd_setitem (O : (cx1 w h₀ mg mb lf).Ok) : DenSs (cx1 w h₀ mg mb lf) 5 hd_setitem_vars (fdIn (cx1 w h₀ mg mb lf).K 97).scope (bodyIn (cx1 w h₀ mg mb lf).K 97) (hd_setitem_sh (ad1 LF)) := by
  conv => enter [4]; whnf
  conv => enter [5]; whnf
  refine @den_cons _ _ _ _ _ _ _ _ (@den_del _ _ _ _ O _ _ _ _ _ _ _ _ _ (@den_nm _ _ _ _ _ _ _ (mm 0 rfl) rfl) (@den_nm _ _ _ _ _ _ _ (mm 1 rfl) rfl) hd_noSeq hd_fdel hd_fdelf (@FnOk.le _ _ _ _ _ (@ok_hd_delitem _ _ _ _ _ _ O) (by decide))) ?_
  refine @den_cons _ _ _ _ _ _ _ _ (@den_expr _ _ _ _ _ _ _ (@den_meth _ _ _ _ O _ _ _ _ _ _ _ _ _ _ (@den_at _ _ _ _ _ _ _ _ _ (@den_nm _ _ _ _ _ _ _ (mm 0 rfl) rfl) (@at_headers _ _ _ _ _ _ _ O) (fun _ => rfl)) (@meth_append _) Keep.builtin (@fn_app _ _) (@den_argC _ _ _ _ _ _ _ _ (@den_tup _ _ _ _ _ _ _ _ (@den_argC _ _ _ _ _ _ _ _ (@den_methKw _ _ _ _ O _ _ _ _ _ _ _ _ _ _ _ _ _ _ _ (@den_nm _ _ _ _ _ _ _ (mm 0 rfl) rfl) (@me_hd_cst _ _ _ _ _ _ O) kp_hd_cst (@FnOk.le _ _ _ _ _ (@ok_hd_cst _ _ _ _ _ _ O) (by decide)) (@den_nm _ _ _ _ _ _ _ (mm 1 rfl) rfl) rfl (fun env _ => ⟨_, rfl⟩)) (@den_argC _ _ _ _ _ _ _ _ (@den_methKw _ _ _ _ O _ _ _ _ _ _ _ _ _ _ _ _ _ _ _ (@den_nm _ _ _ _ _ _ _ (mm 0 rfl) rfl) (@me_hd_cst _ _ _ _ _ _ O) kp_hd_cst (@FnOk.le _ _ _ _ _ (@ok_hd_cst _ _ _ _ _ _ O) (by decide)) (@den_nm _ _ _ _ _ _ _ (mm 2 rfl) rfl) rfl (fun env _ => ⟨_, rfl⟩)) (@den_argNil _ _ _ _) rfl) rfl) (Nat.le_of_ble_eq_true rfl)) (@den_argNil _ _ _ _) rfl) rfl (fun env _ => ⟨_, rfl⟩)) (fun _ => rfl)) ?_
  exact @den_nil _ _ _ _
theorem shape_hd_setitem : FnShape (cx1 w h₀ mg mb lf) 97 (fdIn (cx1 w h₀ mg mb lf).K 97) (bodyIn (cx1 w h₀ mg mb lf).K 97) ["self", "name", "val"] hd_setitem_vars 3 := FnShape.of (by kernel_rfl)
theorem code_hd_setitem (O : (cx1 w h₀ mg mb lf).Ok) : CodeOk (cx1 w h₀ mg mb lf) 6 (fun xs => .call (.ref 97) ⟨xs, []⟩) (hd_setitem (ad1 LF)) :=
  code_fn O shape_hd_setitem (@den_hd_setitem _ _ _ _ _ _ O) (Binds.of3 (mk := fun xs => ⟨xs, []⟩) fun a b c => by kernel_rfl) rfl
theorem ok_hd_setitem (O : (cx1 w h₀ mg mb lf).Ok) : FnOk (cx1 w h₀ mg mb lf) 6 (fun xs => call (.ref 97) xs) (hd_setitem (ad1 LF)) := (@code_hd_setitem _ _ _ _ _ _ O).fn
theorem den_hd_get_all (O : (cx1 w h₀ mg mb lf).Ok) : DenSs (cx1 w h₀ mg mb lf) 4 hd_get_all_vars (fdIn (cx1 w h₀ mg mb lf).K 121).scope (bodyIn (cx1 w h₀ mg mb lf).K 121) (hd_get_all_sh (ad1 LF)) := by
  conv => enter [4]; whnf
  conv => enter [5]; whnf
  refine @den_cons _ _ _ _ _ _ _ _ (@den_asg _ _ _ _ _ _ _ _ _ _ (@den_methKw _ _ _ _ O _ _ _ _ _ _ _ _ _ _ _ _ _ _ _ (@den_nm _ _ _ _ _ _ _ (mm 0 rfl) rfl) (@me_hd_cst _ _ _ _ _ _ O) kp_hd_cst (@FnOk.le _ _ _ _ _ (@ok_hd_cst _ _ _ _ _ _ O) (by decide)) (@den_meth _ _ _ _ O _ _ _ _ _ _ _ _ _ _ (@den_nm _ _ _ _ _ _ _ (mm 1 rfl) rfl) (@meth_lower _) Keep.builtin (@fn_lower _ _) (@den_argNil _ _ _ _) rfl (fun env _ => ⟨_, rfl⟩)) rfl (fun env _ => ⟨_, rfl⟩)) (mm 1 rfl) (by intro env h; first | rfl | (obtain ⟨⟩ := env; cases h; rfl))) ?_
  refine @den_cons _ _ _ _ _ _ _ _ (@den_ret _ _ _ _ _ _ _ (@den_lcV _ _ _ _ _ _ _ _ _ _ _ _ _ _ _ _ (by decide +kernel) (@den_at _ _ _ _ _ _ _ _ _ (@den_nm _ _ _ _ _ _ _ (mm 0 rfl) rfl) (@at_headers _ _ _ _ _ _ _ O) (fun _ => rfl)) (@den_nmAL _ _ _ _ _ _ _ (mm 0 rfl) rfl) (@den_if1 _ _ _ _ _ _ (@den_cmpT _ _ _ _ _ _ _ _ _ _ _ (@den_meth _ _ _ _ O _ _ _ _ _ _ _ _ _ _ (@den_idx _ _ _ _ _ _ _ _ _ (@den_nm _ _ _ _ _ _ _ (mm 0 rfl) rfl) (@den_int _ _ _ _ _ _ _) (fun _ _ => rfl)) (@meth_lower _) Keep.builtin (@fn_lower _ _) (@den_argNil _ _ _ _) rfl (fun env _ => ⟨_, rfl⟩)) (@den_nm _ _ _ _ _ _ _ (mm 1 rfl) rfl) (@fn_eq _ _) rfl)) (@den_idx _ _ _ _ _ _ _ _ _ (@den_nm _ _ _ _ _ _ _ (mm 0 rfl) rfl) (@den_int _ _ _ _ _ _ _) (fun _ _ => rfl)) (fun _ _ => rfl))) ?_
  exact @den_nil _ _ _ _
theorem shape_hd_get_all : FnShape (cx1 w h₀ mg mb lf) 121 (fdIn (cx1 w h₀ mg mb lf).K 121) (bodyIn (cx1 w h₀ mg mb lf).K 121) ["self", "name"] hd_get_all_vars 3 := FnShape.of (by kernel_rfl)
theorem code_hd_get_all (O : (cx1 w h₀ mg mb lf).Ok) : CodeOk (cx1 w h₀ mg mb lf) 5 (fun xs => .call (.ref 121) ⟨xs, []⟩) (hd_get_all (ad1 LF)) :=
  code_fn O shape_hd_get_all (@den_hd_get_all _ _ _ _ _ _ O) (Binds.of2 (mk := fun xs => ⟨xs, []⟩) fun a b => by kernel_rfl) rfl
theorem ok_hd_get_all (O : (cx1 w h₀ mg mb lf).Ok) : FnOk (cx1 w h₀ mg mb lf) 5 (fun xs => call (.ref 121) xs) (hd_get_all (ad1 LF)) := (@code_hd_get_all _ _ _ _ _ _ O).fn
theorem kp_hd_get_all : Keep (cx1 w h₀ mg mb lf) (.ref 121) := Keep.K (by kernel_rfl)
theorem me_hd_get_all (O : (cx1 w h₀ mg mb lf).Ok) : MethAt (cx1 w h₀ mg mb lf) "get_all" (.ref 121) (chkI (ad1 LF).HD) := meth_inst O (by kernel_rfl) (by kernel_rfl) (by kernel_rfl) (by show ("get_all" : Str) ∉ (lay_HD : List Str); decide)
theorem den_hd_get (O : (cx1 w h₀ mg mb lf).Ok) : DenSs (cx1 w h₀ mg mb lf) 4 hd_get_vars (fdIn (cx1 w h₀ mg mb lf).K 129).scope (bodyIn (cx1 w h₀ mg mb lf).K 129) (hd_get_sh (ad1 LF)) := by
  conv => enter [4]; whnf
  conv => enter [5]; whnf
  refine @den_cons _ _ _ _ _ _ _ _ (@den_asg _ _ _ _ _ _ _ _ _ _ (@den_methKw _ _ _ _ O _ _ _ _ _ _ _ _ _ _ _ _ _ _ _ (@den_nm _ _ _ _ _ _ _ (mm 0 rfl) rfl) (@me_hd_cst _ _ _ _ _ _ O) kp_hd_cst (@FnOk.le _ _ _ _ _ (@ok_hd_cst _ _ _ _ _ _ O) (by decide)) (@den_meth _ _ _ _ O _ _ _ _ _ _ _ _ _ _ (@den_nm _ _ _ _ _ _ _ (mm 1 rfl) rfl) (@meth_lower _) Keep.builtin (@fn_lower _ _) (@den_argNil _ _ _ _) rfl (fun env _ => ⟨_, rfl⟩)) rfl (fun env _ => ⟨_, rfl⟩)) (mm 1 rfl) (by intro env h; first | rfl | (obtain ⟨⟩ := env; cases h; rfl))) ?_
  refine @den_cons _ _ _ _ _ _ _ _ (@den_for _ _ _ _ _ _ _ _ _ _ _ (@den_at _ _ _ _ _ _ _ _ _ (@den_nm _ _ _ _ _ _ _ (mm 0 rfl) rfl) (@at_headers _ _ _ _ _ _ _ O) (fun _ => rfl)) (@den_tupT _ _ _ _ _ _ _ _ _ (@den_asCons _ _ _ _ _ _ _ _ _ (fun _ _ h => h) (@den_nmA _ _ _ _ _ _ _ (mm 3 rfl)) (@den_asCons _ _ _ _ _ _ _ _ _ (fun _ _ h => h) (@den_nmA _ _ _ _ _ _ _ (mm 4 rfl)) (@den_asNil _ _ _ _ _) rfl) rfl) rfl rfl) ?_ (fun _ _ => rfl)) ?_
  · refine @den_cons _ _ _ _ _ _ _ _ (@den_if _ _ _ _ _ _ _ _ _ _ _ (@den_cmpT _ _ _ _ _ _ _ _ _ _ _ (@den_meth _ _ _ _ O _ _ _ _ _ _ _ _ _ _ (@den_nm _ _ _ _ _ _ _ (mm 3 rfl) rfl) (@meth_lower _) Keep.builtin (@fn_lower _ _) (@den_argNil _ _ _ _) rfl (fun env _ => ⟨_, rfl⟩)) (@den_nm _ _ _ _ _ _ _ (mm 1 rfl) rfl) (@fn_eq _ _) rfl) ?_ ?_) ?_
    · refine @den_cons _ _ _ _ _ _ _ _ (@den_ret _ _ _ _ _ _ _ (@den_nm _ _ _ _ _ _ _ (mm 4 rfl) rfl)) ?_
      exact @den_nil _ _ _ _
    · exact @den_nil _ _ _ _
    exact @den_nil _ _ _ _
  refine @den_cons _ _ _ _ _ _ _ _ (@den_ret _ _ _ _ _ _ _ (@den_nm _ _ _ _ _ _ _ (mm 2 rfl) rfl)) ?_
  exact @den_nil _ _ _ _
theorem shape_hd_get : FnShape (cx1 w h₀ mg mb lf) 129 (fdIn (cx1 w h₀ mg mb lf).K 129) (bodyIn (cx1 w h₀ mg mb lf).K 129) ["self", "name", "default"] hd_get_vars 5 := FnShape.of (by kernel_rfl)
theorem bi_hd_get (s : Shared) (a b c : Value) (X : (cx1 w h₀ mg mb lf).K.In s.heap) : BindsTo s (fdIn (cx1 w h₀ mg mb lf).K 129) ⟨[a, b, c], []⟩ [("self", a), ("name", b), ("default", c)] := by
  conv => enter [2]; whnf
  exact binds_K (T := 122) X rfl rfl rfl rfl rfl
theorem bi_hd_get1 (s : Shared) (a b : Value) (X : (cx1 w h₀ mg mb lf).K.In s.heap) : BindsTo s (fdIn (cx1 w h₀ mg mb lf).K 129) ⟨[a, b], []⟩ [("self", a), ("name", b), ("default", .none)] := by
  conv => enter [2]; whnf
  exact binds_K (T := 122) X rfl rfl rfl rfl rfl
theorem code_hd_get (O : (cx1 w h₀ mg mb lf).Ok) : CodeOk (cx1 w h₀ mg mb lf) 5 (fun xs => .call (.ref 129) ⟨xs, []⟩) (hd_get (ad1 LF)) :=
  code_fn O shape_hd_get (@den_hd_get _ _ _ _ _ _ O) (Binds.of3d (mk := fun xs => ⟨xs, []⟩) bi_hd_get) rfl
theorem ok_hd_get (O : (cx1 w h₀ mg mb lf).Ok) : FnOk (cx1 w h₀ mg mb lf) 5 (fun xs => call (.ref 129) xs) (hd_get (ad1 LF)) := (@code_hd_get _ _ _ _ _ _ O).fn
theorem code_hd_get1 (O : (cx1 w h₀ mg mb lf).Ok) : CodeOk (cx1 w h₀ mg mb lf) 5 (fun xs => .call (.ref 129) ⟨xs, []⟩) (hd_get1 (ad1 LF)) :=
  code_fnD O shape_hd_get (@den_hd_get _ _ _ _ _ _ O) (BindsD.of2 bi_hd_get1) rfl rfl (fun _ _ _ => .cons .none .nil)
theorem ok_hd_get1 (O : (cx1 w h₀ mg mb lf).Ok) : FnOk (cx1 w h₀ mg mb lf) 5 (fun xs => call (.ref 129) xs) (hd_get1 (ad1 LF)) := (@code_hd_get1 _ _ _ _ _ _ O).fn
theorem kp_hd_get : Keep (cx1 w h₀ mg mb lf) (.ref 129) := Keep.K (by kernel_rfl)
theorem me_hd_get (O : (cx1 w h₀ mg mb lf).Ok) : MethAt (cx1 w h₀ mg mb lf) "get" (.ref 129) (chkI (ad1 LF).HD) := meth_inst O (by kernel_rfl) (by kernel_rfl) (by kernel_rfl) (by show ("get" : Str) ∉ (lay_HD : List Str); decide)
theorem den_hd_values (O : (cx1 w h₀ mg mb lf).Ok) : DenSs (cx1 w h₀ mg mb lf) 3 hd_values_vars (fdIn (cx1 w h₀ mg mb lf).K 139).scope (bodyIn (cx1 w h₀ mg mb lf).K 139) (hd_values_sh (ad1 LF)) := by
  conv => enter [4]; whnf
  conv => enter [5]; whnf
  refine @den_cons _ _ _ _ _ _ _ _ (@den_ret _ _ _ _ _ _ _ (@den_lcV _ _ _ _ _ _ _ _ _ _ _ _ _ _ _ _ (by decide +kernel) (@den_at _ _ _ _ _ _ _ _ _ (@den_nm _ _ _ _ _ _ _ (mm 0 rfl) rfl) (@at_headers _ _ _ _ _ _ _ O) (fun _ => rfl)) (@den_tupT _ _ _ _ _ _ _ _ _ (@den_asCons _ _ _ _ _ _ _ _ _ (fun _ _ h => .inl h) (@den_nmAL _ _ _ _ _ _ _ (mm 0 rfl) rfl) (@den_asCons _ _ _ _ _ _ _ _ _ (fun _ _ h => .inl h) (@den_nmAL _ _ _ _ _ _ _ (mm 1 rfl) rfl) (@den_asNil _ _ _ _ _) rfl) rfl) rfl rfl) (@den_if0 _ _ _ _) (@den_nm _ _ _ _ _ _ _ (mm 1 rfl) rfl) (fun _ _ => rfl))) ?_
  exact @den_nil _ _ _ _
theorem shape_hd_values : FnShape (cx1 w h₀ mg mb lf) 139 (fdIn (cx1 w h₀ mg mb lf).K 139) (bodyIn (cx1 w h₀ mg mb lf).K 139) ["self"] hd_values_vars 3 := FnShape.of (by kernel_rfl)
theorem code_hd_values (O : (cx1 w h₀ mg mb lf).Ok) : CodeOk (cx1 w h₀ mg mb lf) 4 (fun xs => .call (.ref 139) ⟨xs, []⟩) (hd_values (ad1 LF)) :=
  code_fn O shape_hd_values (@den_hd_values _ _ _ _ _ _ O) (Binds.of1 (mk := fun xs => ⟨xs, []⟩) fun a => by kernel_rfl) rfl
theorem ok_hd_values (O : (cx1 w h₀ mg mb lf).Ok) : FnOk (cx1 w h₀ mg mb lf) 4 (fun xs => call (.ref 139) xs) (hd_values (ad1 LF)) := (@code_hd_values _ _ _ _ _ _ O).fn
theorem kp_hd_values : Keep (cx1 w h₀ mg mb lf) (.ref 139) := Keep.K (by kernel_rfl)
theorem me_hd_values (O : (cx1 w h₀ mg mb lf).Ok) : MethAt (cx1 w h₀ mg mb lf) "values" (.ref 139) (chkI (ad1 LF).HD) := meth_inst O (by kernel_rfl) (by kernel_rfl) (by kernel_rfl) (by show ("values" : Str) ∉ (lay_HD : List Str); decide)
theorem den_hd_items (O : (cx1 w h₀ mg mb lf).Ok) : DenSs (cx1 w h₀ mg mb lf) 3 hd_items_vars (fdIn (cx1 w h₀ mg mb lf).K 146).scope (bodyIn (cx1 w h₀ mg mb lf).K 146) (hd_items_sh (ad1 LF)) := by
  conv => enter [4]; whnf
  conv => enter [5]; whnf
  refine @den_cons _ _ _ _ _ _ _ _ (@den_ret _ _ _ _ _ _ _ (@den_copy _ _ _ _ _ _ _ _ (@den_at _ _ _ _ _ _ _ _ _ (@den_nm _ _ _ _ _ _ _ (mm 0 rfl) rfl) (@at_headers _ _ _ _ _ _ _ O) (fun _ => rfl)))) ?_
  exact @den_nil _ _ _ _
theorem shape_hd_items : FnShape (cx1 w h₀ mg mb lf) 146 (fdIn (cx1 w h₀ mg mb lf).K 146) (bodyIn (cx1 w h₀ mg mb lf).K 146) ["self"] hd_items_vars 1 := FnShape.of (by kernel_rfl)
theorem code_hd_items (O : (cx1 w h₀ mg mb lf).Ok) : CodeOk (cx1 w h₀ mg mb lf) 4 (fun xs => .call (.ref 146) ⟨xs, []⟩) (hd_items (ad1 LF)) :=
  code_fn O shape_hd_items (@den_hd_items _ _ _ _ _ _ O) (Binds.of1 (mk := fun xs => ⟨xs, []⟩) fun a => by kernel_rfl) rfl
theorem ok_hd_items (O : (cx1 w h₀ mg mb lf).Ok) : FnOk (cx1 w h₀ mg mb lf) 4 (fun xs => call (.ref 146) xs) (hd_items (ad1 LF)) := (@code_hd_items _ _ _ _ _ _ O).fn
theorem kp_hd_items : Keep (cx1 w h₀ mg mb lf) (.ref 146) := Keep.K (by kernel_rfl)
theorem me_hd_items (O : (cx1 w h₀ mg mb lf).Ok) : MethAt (cx1 w h₀ mg mb lf) "items" (.ref 146) (chkI (ad1 LF).HD) := meth_inst O (by kernel_rfl) (by kernel_rfl) (by kernel_rfl) (by show ("items" : Str) ∉ (lay_HD : List Str); decide)
theorem den_hd_setdefault (O : (cx1 w h₀ mg mb lf).Ok) : DenSs (cx1 w h₀ mg mb lf) 5 hd_setdefault_vars (fdIn (cx1 w h₀ mg mb lf).K 172).scope (bodyIn (cx1 w h₀ mg mb lf).K 172) (hd_setdefault_sh (ad1 LF)) := by
  conv => enter [4]; whnf
  conv => enter [5]; whnf
  refine @den_cons _ _ _ _ _ _ _ _ (@den_asg _ _ _ _ _ _ _ _ _ _ (@den_meth _ _ _ _ O _ _ _ _ _ _ _ _ _ _ (@den_nm _ _ _ _ _ _ _ (mm 0 rfl) rfl) (@me_hd_get _ _ _ _ _ _ O) kp_hd_get (@FnOk.le _ _ _ _ _ (@ok_hd_get1 _ _ _ _ _ _ O) (by decide)) (@den_argC _ _ _ _ _ _ _ _ (@den_nm _ _ _ _ _ _ _ (mm 1 rfl) rfl) (@den_argNil _ _ _ _) rfl) rfl (fun env _ => ⟨_, rfl⟩)) (mm 3 rfl) (by intro env h; first | rfl | (obtain ⟨⟩ := env; cases h; rfl))) ?_
  refine @den_cons _ _ _ _ _ _ _ _ (@den_if _ _ _ _ _ _ _ _ _ _ _ (@den_cmpT _ _ _ _ _ _ _ _ _ _ _ (@den_nm _ _ _ _ _ _ _ (mm 3 rfl) rfl) (@den_none _ _ _ _ _ _) (@fn_is _ _) rfl) ?_ ?_) ?_
  · refine @den_cons _ _ _ _ _ _ _ _ (@den_expr _ _ _ _ _ _ _ (@den_meth _ _ _ _ O _ _ _ _ _ _ _ _ _ _ (@den_at _ _ _ _ _ _ _ _ _ (@den_nm _ _ _ _ _ _ _ (mm 0 rfl) rfl) (@at_headers _ _ _ _ _ _ _ O) (fun _ => rfl)) (@meth_append _) Keep.builtin (@fn_app _ _) (@den_argC _ _ _ _ _ _ _ _ (@den_tup _ _ _ _ _ _ _ _ (@den_argC _ _ _ _ _ _ _ _ (@den_methKw _ _ _ _ O _ _ _ _ _ _ _ _ _ _ _ _ _ _ _ (@den_nm _ _ _ _ _ _ _ (mm 0 rfl) rfl) (@me_hd_cst _ _ _ _ _ _ O) kp_hd_cst (@FnOk.le _ _ _ _ _ (@ok_hd_cst _ _ _ _ _ _ O) (by decide)) (@den_nm _ _ _ _ _ _ _ (mm 1 rfl) rfl) rfl (fun env _ => ⟨_, rfl⟩)) (@den_argC _ _ _ _ _ _ _ _ (@den_methKw _ _ _ _ O _ _ _ _ _ _ _ _ _ _ _ _ _ _ _ (@den_nm _ _ _ _ _ _ _ (mm 0 rfl) rfl) (@me_hd_cst _ _ _ _ _ _ O) kp_hd_cst (@FnOk.le _ _ _ _ _ (@ok_hd_cst _ _ _ _ _ _ O) (by decide)) (@den_nm _ _ _ _ _ _ _ (mm 2 rfl) rfl) rfl (fun env _ => ⟨_, rfl⟩)) (@den_argNil _ _ _ _) rfl) rfl) (Nat.le_of_ble_eq_true rfl)) (@den_argNil _ _ _ _) rfl) rfl (fun env _ => ⟨_, rfl⟩)) (fun _ => rfl)) ?_
    refine @den_cons _ _ _ _ _ _ _ _ (@den_ret _ _ _ _ _ _ _ (@den_nm _ _ _ _ _ _ _ (mm 2 rfl) rfl)) ?_
    exact @den_nil _ _ _ _
  · refine @den_cons _ _ _ _ _ _ _ _ (@den_ret _ _ _ _ _ _ _ (@den_nm _ _ _ _ _ _ _ (mm 3 rfl) rfl)) ?_
    exact @den_nil _ _ _ _
  exact @den_nil _ _ _ _
theorem shape_hd_setdefault : FnShape (cx1 w h₀ mg mb lf) 172 (fdIn (cx1 w h₀ mg mb lf).K 172) (bodyIn (cx1 w h₀ mg mb lf).K 172) ["self", "name", "value"] hd_setdefault_vars 4 := FnShape.of (by kernel_rfl)
theorem code_hd_setdefault (O : (cx1 w h₀ mg mb lf).Ok) : CodeOk (cx1 w h₀ mg mb lf) 6 (fun xs => .call (.ref 172) ⟨xs, []⟩) (hd_setdefault (ad1 LF)) :=
  code_fn O shape_hd_setdefault (@den_hd_setdefault _ _ _ _ _ _ O) (Binds.of3 (mk := fun xs => ⟨xs, []⟩) fun a b c => by kernel_rfl) rfl
theorem ok_hd_setdefault (O : (cx1 w h₀ mg mb lf).Ok) : FnOk (cx1 w h₀ mg mb lf) 6 (fun xs => call (.ref 172) xs) (hd_setdefault (ad1 LF)) := (@code_hd_setdefault _ _ _ _ _ _ O).fn
theorem kp_hd_setdefault : Keep (cx1 w h₀ mg mb lf) (.ref 172) := Keep.K (by kernel_rfl)
theorem me_hd_setdefault (O : (cx1 w h₀ mg mb lf).Ok) : MethAt (cx1 w h₀ mg mb lf) "setdefault" (.ref 172) (chkI (ad1 LF).HD) := meth_inst O (by kernel_rfl) (by kernel_rfl) (by kernel_rfl) (by show ("setdefault" : Str) ∉ (lay_HD : List Str); decide)
theorem den_hd_addh (O : (cx1 w h₀ mg mb lf).Ok) : DenSs (cx1 w h₀ mg mb lf) 4 hd_addh_vars (fdIn (cx1 w h₀ mg mb lf).K 179).scope (bodyIn (cx1 w h₀ mg mb lf).K 179) (hd_addh_sh (ad1 LF)) := by
  conv => enter [4]; whnf
  conv => enter [5]; whnf
  refine @den_cons _ _ _ _ _ _ _ _ (@den_asg _ _ _ _ _ _ _ _ _ _ (@den_mlst _ _ _ _ _ _ _ (@den_argNil _ _ _ _) (Nat.le_of_ble_eq_true rfl)) (mm 4 rfl) (by intro env h; first | rfl | (obtain ⟨⟩ := env; cases h; rfl))) ?_
  refine @den_cons _ _ _ _ _ _ _ _ (@den_if _ _ _ _ _ _ _ _ _ _ _ (@den_cmpT _ _ _ _ _ _ _ _ _ _ _ (@den_nm _ _ _ _ _ _ _ (mm 2 rfl) rfl) (@den_none _ _ _ _ _ _) (@fn_isNot _ _) rfl) ?_ ?_) ?_
  · refine @den_cons _ _ _ _ _ _ _ _ (@den_asg _ _ _ _ _ _ _ _ _ _ (@den_methKw _ _ _ _ O _ _ _ _ _ _ _ _ _ _ _ _ _ _ _ (@den_nm _ _ _ _ _ _ _ (mm 0 rfl) rfl) (@me_hd_cst _ _ _ _ _ _ O) kp_hd_cst (@FnOk.le _ _ _ _ _ (@ok_hd_cst _ _ _ _ _ _ O) (by decide)) (@den_nm _ _ _ _ _ _ _ (mm 2 rfl) rfl) rfl (fun env _ => ⟨_, rfl⟩)) (mm 2 rfl) (by intro env h; first | rfl | (obtain ⟨⟩ := env; cases h; rfl))) ?_
    refine @den_cons _ _ _ _ _ _ _ _ (@den_expr _ _ _ _ _ _ _ (@den_meth _ _ _ _ O _ _ _ _ _ _ _ _ _ _ (@den_nm _ _ _ _ _ _ _ (mm 4 rfl) rfl) (@meth_append _) Keep.builtin (@fn_app _ _) (@den_argC _ _ _ _ _ _ _ _ (@den_nm _ _ _ _ _ _ _ (mm 2 rfl) rfl) (@den_argNil _ _ _ _) rfl) rfl (fun env _ => ⟨_, rfl⟩)) (fun _ => rfl)) ?_
    exact @den_nil _ _ _ _
  · exact @den_nil _ _ _ _
  refine @den_cons _ _ _ _ _ _ _ _ (@den_items _ _ _ _ _ _ _ _ _ _ _ _ (mm 3 rfl) rfl (by intro env h; first | rfl | (obtain ⟨⟩ := env; cases h; rfl)) rfl (fun _ _ => rfl)) ?_
  refine @den_cons _ _ _ _ _ _ _ _ (@den_expr _ _ _ _ _ _ _ (@den_meth _ _ _ _ O _ _ _ _ _ _ _ _ _ _ (@den_at _ _ _ _ _ _ _ _ _ (@den_nm _ _ _ _ _ _ _ (mm 0 rfl) rfl) (@at_headers _ _ _ _ _ _ _ O) (fun _ => rfl)) (@meth_append _) Keep.builtin (@fn_app _ _) (@den_argC _ _ _ _ _ _ _ _ (@den_tup _ _ _ _ _ _ _ _ (@den_argC _ _ _ _ _ _ _ _ (@den_methKw _ _ _ _ O _ _ _ _ _ _ _ _ _ _ _ _ _ _ _ (@den_nm _ _ _ _ _ _ _ (mm 0 rfl) rfl) (@me_hd_cst _ _ _ _ _ _ O) kp_hd_cst (@FnOk.le _ _ _ _ _ (@ok_hd_cst _ _ _ _ _ _ O) (by decide)) (@den_nm _ _ _ _ _ _ _ (mm 1 rfl) rfl) rfl (fun env _ => ⟨_, rfl⟩)) (@den_argC _ _ _ _ _ _ _ _ (@den_meth _ _ _ _ O _ _ _ _ _ _ _ _ _ _ (@den_str _ _ _ _ _ _ _) (@meth_join _) Keep.builtin (@fn_join _ _) (@den_argC _ _ _ _ _ _ _ _ (@den_nm _ _ _ _ _ _ _ (mm 4 rfl) rfl) (@den_argNil _ _ _ _) rfl) rfl (fun env _ => ⟨_, rfl⟩)) (@den_argNil _ _ _ _) rfl) rfl) (Nat.le_of_ble_eq_true rfl)) (@den_argNil _ _ _ _) rfl) rfl (fun env _ => ⟨_, rfl⟩)) (fun _ => rfl)) ?_
  exact @den_nil _ _ _ _
theorem shape_hd_addh : FnShape (cx1 w h₀ mg mb lf) 179 (fdIn (cx1 w h₀ mg mb lf).K 179) (bodyIn (cx1 w h₀ mg mb lf).K 179) ["self", "_name", "_value", "_params"] hd_addh_vars 7 := FnShape.of (by kernel_rfl)
theorem code_hd_addh (O : (cx1 w h₀ mg mb lf).Ok) : CodeOk (cx1 w h₀ mg mb lf) 5 (fun xs => .call (.ref 179) ⟨xs, []⟩) (hd_addh0 (ad1 LF)) :=
  code_fnX O shape_hd_addh (@den_hd_addh _ _ _ _ _ _ O) (Binds.of3x fun a b c => by kernel_rfl) rfl
theorem kp_hd_addh : Keep (cx1 w h₀ mg mb lf) (.ref 179) := Keep.K (by kernel_rfl)
theorem me_hd_addh (O : (cx1 w h₀ mg mb lf).Ok) : MethAt (cx1 w h₀ mg mb lf) "add_header" (.ref 179) (chkI (ad1 LF).HD) := meth_inst O (by kernel_rfl) (by kernel_rfl) (by kernel_rfl) (by show ("add_header" : Str) ∉ (lay_HD : List Str); decide)
theorem ok_hd_addh (O : (cx1 w h₀ mg mb lf).Ok) : FnOk (cx1 w h₀ mg mb lf) 5 (fun xs => call (.ref 179) xs) (hd_addh (ad1 LF)) := (CodeOk.trG (@code_hd_addh _ _ _ _ _ _ O) (ref_hd_addh (ad1 LF) rfl)).fn
theorem ra_hd_addh (O : (cx1 w h₀ mg mb lf).Ok) : RaSs (cx1 w h₀ mg mb lf) 5 hd_addh_vars (fdIn (cx1 w h₀ mg mb lf).K 179).scope (bodyIn (cx1 w h₀ mg mb lf).K 179) (addh_ra (ad1 LF)) := by
  conv => enter [4]; whnf
  conv => enter [5]; whnf
  refine ra_next (den_asg (den_mlst (den_argNil) (Nat.le_of_ble_eq_true rfl)) (mm 4 rfl) (by intro env h; first | rfl | (obtain ⟨⟩ := env; cases h; rfl))) (ra_next (den_if (den_cmpT (den_nm (mm 2 rfl) rfl) (den_none) fn_isNot rfl) (den_cons (den_asg (den_methKw O (den_nm (mm 0 rfl) rfl) (me_hd_cst O) kp_hd_cst ((@ok_hd_cst _ _ _ _ _ _ O).le (by decide)) (den_nm (mm 2 rfl) rfl) rfl (fun env _ => ⟨_, rfl⟩)) (mm 2 rfl) (by intro env h; first | rfl | (obtain ⟨⟩ := env; cases h; rfl))) (den_cons (den_expr (den_meth O (den_nm (mm 4 rfl) rfl) meth_append Keep.builtin fn_app (den_argC (den_nm (mm 2 rfl) rfl) (den_argNil) rfl) rfl (fun env _ => ⟨_, rfl⟩)) (fun _ => rfl)) (den_nil))) (den_nil)) (ra_next (den_items (mm 3 rfl) rfl (by intro env h; first | rfl | (obtain ⟨⟩ := env; cases h; rfl)) rfl (fun _ _ => rfl)) (ra_here (ra_expr (ra_methArg (den_at (den_nm (mm 0 rfl) rfl) (at_headers O) (fun _ => rfl)) meth_append Keep.builtin (ra_tup (ra_methKw O (den_nm (mm 0 rfl) rfl) (me_hd_cst O) kp_hd_cst (@code_ra_hd_cst _ _ _ _ _ _ O) (den_nm (mm 1 rfl) rfl) rfl (fun env _ => ⟨_, rfl⟩)) rfl) rfl (fun env _ => ⟨_, rfl⟩)) (fun _ => rfl)))))
theorem code_ra_hd_addh (O : (cx1 w h₀ mg mb lf).Ok) : CodeRa (cx1 w h₀ mg mb lf) 6 (fun xs => .call (.ref 179) ⟨xs, []⟩) (raD 4 7 (addh_ra (ad1 LF))) :=
  code_raX O shape_hd_addh (ra_hd_addh O) (Binds.of3x fun a b c => by kernel_rfl)
theorem den_rowsF1 (O : (cx1 w h₀ mg mb lf).Ok) : DenSs (cx1 w h₀ mg mb lf) 3 rowsF1_vars (fdIn (cx1 w h₀ mg mb lf).K 259).scope (bodyIn (cx1 w h₀ mg mb lf).K 259) (rowsF1_sh (ad1 LF)) := by
  conv => enter [4]; whnf
  conv => enter [5]; whnf
  refine @den_cons _ _ _ _ _ _ _ _ (@den_asg _ _ _ _ _ _ _ _ _ _ (@den_mlst _ _ _ _ _ _ _ (@den_argNil _ _ _ _) (Nat.le_of_ble_eq_true rfl)) (mm 1 rfl) (by intro env h; first | rfl | (obtain ⟨⟩ := env; cases h; rfl))) ?_
  refine @den_cons _ _ _ _ _ _ _ _ (@den_enum _ _ _ _ O _ _ _ _ _ _ _ _ _ _ _ (@den_bi _ _ _ _ O _ _ _ rfl nb_enumerate bb_enumerate nn_enumerate rfl) (@den_bin _ _ _ _ _ _ _ _ _ _ _ (@den_slice _ _ _ _ _ _ _ _ _ _ (@den_nm _ _ _ _ _ _ _ (mm 0 rfl) rfl) (@den_int _ _ _ _ _ _ _)) (@den_lst _ _ _ _ _ _ _ (@den_argC _ _ _ _ _ _ _ _ (@den_int _ _ _ _ _ _ _) (@den_argC _ _ _ _ _ _ _ _ (@den_int _ _ _ _ _ _ _) (@den_argC _ _ _ _ _ _ _ _ (@den_int _ _ _ _ _ _ _) (@den_argC _ _ _ _ _ _ _ _ (@den_int _ _ _ _ _ _ _) (@den_argC _ _ _ _ _ _ _ _ (@den_int _ _ _ _ _ _ _) (@den_argC _ _ _ _ _ _ _ _ (@den_int _ _ _ _ _ _ _) (@den_argNil _ _ _ _) rfl) rfl) rfl) rfl) rfl) rfl) (Nat.le_of_ble_eq_true rfl)) (@fn_addF _ _)) (@den_tupT _ _ _ _ _ _ _ _ _ (@den_asCons _ _ _ _ _ _ _ _ _ (fun _ _ h => h) (@den_nmA _ _ _ _ _ _ _ (mm 2 rfl)) (@den_asCons _ _ _ _ _ _ _ _ _ (fun _ _ h => h) (@den_nmA _ _ _ _ _ _ _ (mm 3 rfl)) (@den_asNil _ _ _ _ _) rfl) rfl) rfl rfl) ?_ rfl) ?_
  · refine @den_cons _ _ _ _ _ _ _ _ (@den_asg _ _ _ _ _ _ _ _ _ _ (@den_bin _ _ _ _ _ _ _ _ _ _ _ (@den_nm _ _ _ _ _ _ _ (mm 3 rfl) rfl) (@den_int _ _ _ _ _ _ _) (@fn_mod _ _)) (mm 4 rfl) (by intro env h; first | rfl | (obtain ⟨⟩ := env; cases h; rfl))) ?_
    refine @den_cons _ _ _ _ _ _ _ _ (@den_asgT _ _ _ _ _ _ _ _ _ (@den_tup _ _ _ _ _ _ _ _ (@den_argC _ _ _ _ _ _ _ _ (@den_bin _ _ _ _ _ _ _ _ _ _ _ (@den_nm _ _ _ _ _ _ _ (mm 4 rfl) rfl) (@den_int _ _ _ _ _ _ _) (@fn_mod _ _)) (@den_argC _ _ _ _ _ _ _ _ (@den_bin _ _ _ _ _ _ _ _ _ _ _ (@den_bin _ _ _ _ _ _ _ _ _ _ _ (@den_nm _ _ _ _ _ _ _ (mm 4 rfl) rfl) (@den_int _ _ _ _ _ _ _) (@fn_div _ _)) (@den_int _ _ _ _ _ _ _) (@fn_mod _ _)) (@den_argC _ _ _ _ _ _ _ _ (@den_bin _ _ _ _ _ _ _ _ _ _ _ (@den_bin _ _ _ _ _ _ _ _ _ _ _ (@den_nm _ _ _ _ _ _ _ (mm 4 rfl) rfl) (@den_int _ _ _ _ _ _ _) (@fn_div _ _)) (@den_int _ _ _ _ _ _ _) (@fn_mod _ _)) (@den_argC _ _ _ _ _ _ _ _ (@den_bin _ _ _ _ _ _ _ _ _ _ _ (@den_bin _ _ _ _ _ _ _ _ _ _ _ (@den_nm _ _ _ _ _ _ _ (mm 4 rfl) rfl) (@den_int _ _ _ _ _ _ _) (@fn_div _ _)) (@den_int _ _ _ _ _ _ _) (@fn_mod _ _)) (@den_argNil _ _ _ _) rfl) rfl) rfl) rfl) (Nat.le_of_ble_eq_true rfl)) (@den_tupT _ _ _ _ _ _ _ _ _ (@den_asCons _ _ _ _ _ _ _ _ _ (fun _ _ h => h) (@den_nmA _ _ _ _ _ _ _ (mm 5 rfl)) (@den_asCons _ _ _ _ _ _ _ _ _ (fun _ _ h => h) (@den_nmA _ _ _ _ _ _ _ (mm 6 rfl)) (@den_asCons _ _ _ _ _ _ _ _ _ (fun _ _ h => h) (@den_nmA _ _ _ _ _ _ _ (mm 7 rfl)) (@den_asCons _ _ _ _ _ _ _ _ _ (fun _ _ h => h) (@den_nmA _ _ _ _ _ _ _ (mm 8 rfl)) (@den_asNil _ _ _ _ _) rfl) rfl) rfl) rfl) rfl rfl) rfl (by intro env h; first | rfl | (obtain ⟨⟩ := env; cases h; rfl)) (by intro env h; first | rfl | (obtain ⟨⟩ := env; cases h; rfl))) ?_
    refine @den_cons _ _ _ _ _ _ _ _ (@den_swap _ _ _ _ _ _ _ _ _ _ _ ["deed", "word"] (@den_tup _ _ _ _ _ _ _ _ (@den_argC _ _ _ _ _ _ _ _ (@den_bin _ _ _ _ _ _ _ _ _ _ _ (@den_bin _ _ _ _ _ _ _ _ _ _ _ (@den_nm _ _ _ _ _ _ _ (mm 4 rfl) rfl) (@den_int _ _ _ _ _ _ _) (@fn_div _ _)) (@den_int _ _ _ _ _ _ _) (@fn_mod _ _)) (@den_argC _ _ _ _ _ _ _ _ (@den_bin _ _ _ _ _ _ _ _ _ _ _ (@den_nm _ _ _ _ _ _ _ (mm 4 rfl) rfl) (@den_int _ _ _ _ _ _ _) (@fn_div _ _)) (@den_argNil _ _ _ _) rfl) rfl) (Nat.le_of_ble_eq_true rfl)) (by decide) rfl (by intro env h; first | rfl | (obtain ⟨⟩ := env; cases h; rfl)) (by intro env h; first | rfl | (obtain ⟨⟩ := env; cases h; rfl))) ?_
    refine @den_cons _ _ _ _ _ _ _ _ (@den_swap _ _ _ _ _ _ _ _ _ _ _ ["lead", "turned"] (@den_tup _ _ _ _ _ _ _ _ (@den_argC _ _ _ _ _ _ _ _ (@den_bin _ _ _ _ _ _ _ _ _ _ _ (@den_str _ _ _ _ _ _ _) (@den_bin _ _ _ _ _ _ _ _ _ _ _ (@den_nm _ _ _ _ _ _ _ (mm 5 rfl) rfl) (@den_nm _ _ _ _ _ _ _ (mm 6 rfl) rfl) (@fn_addF _ _)) (@fn_mulF _ _)) (@den_argC _ _ _ _ _ _ _ _ (@den_bin _ _ _ _ _ _ _ _ _ _ _ (@den_str _ _ _ _ _ _ _) (@den_bin _ _ _ _ _ _ _ _ _ _ _ (@den_nm _ _ _ _ _ _ _ (mm 5 rfl) rfl) (@den_nm _ _ _ _ _ _ _ (mm 6 rfl) rfl) (@fn_addF _ _)) (@fn_mulF _ _)) (@den_argNil _ _ _ _) rfl) rfl) (Nat.le_of_ble_eq_true rfl)) (by decide) rfl (by intro env h; first | rfl | (obtain ⟨⟩ := env; cases h; rfl)) (by intro env h; first | rfl | (obtain ⟨⟩ := env; cases h; rfl))) ?_
    refine @den_cons _ _ _ _ _ _ _ _ (@den_if _ _ _ _ _ _ _ _ _ _ _ (@den_cmpT _ _ _ _ _ _ _ _ _ _ _ (@den_nm _ _ _ _ _ _ _ (mm 8 rfl) rfl) (@den_int _ _ _ _ _ _ _) (@fn_gt _ _) rfl) ?_ ?_) ?_
    · refine @den_cons _ _ _ _ _ _ _ _ (@den_asg _ _ _ _ _ _ _ _ _ _ (@den_bin _ _ _ _ _ _ _ _ _ _ _ (@den_bin _ _ _ _ _ _ _ _ _ _ _ (@den_bin _ _ _ _ _ _ _ _ _ _ _ (@den_bin _ _ _ _ _ _ _ _ _ _ _ (@den_bin _ _ _ _ _ _ _ _ _ _ _ (@den_str _ _ _ _ _ _ _) (@den_nm _ _ _ _ _ _ _ (mm 5 rfl) rfl) (@fn_mulF _ _)) (@den_str _ _ _ _ _ _ _) (@fn_addF _ _)) (@den_bin _ _ _ _ _ _ _ _ _ _ _ (@den_str _ _ _ _ _ _ _) (@den_nm _ _ _ _ _ _ _ (mm 6 rfl) rfl) (@fn_mulF _ _)) (@fn_addF _ _)) (@den_str _ _ _ _ _ _ _) (@fn_addF _ _)) (@den_bin _ _ _ _ _ _ _ _ _ _ _ (@den_str _ _ _ _ _ _ _) (@den_nm _ _ _ _ _ _ _ (mm 7 rfl) rfl) (@fn_mulF _ _)) (@fn_addF _ _)) (mm 11 rfl) (by intro env h; first | rfl | (obtain ⟨⟩ := env; cases h; rfl))) ?_
      refine @den_cons _ _ _ _ _ _ _ _ (@den_asg _ _ _ _ _ _ _ _ _ _ (@den_bin _ _ _ _ _ _ _ _ _ _ _ (@den_bin _ _ _ _ _ _ _ _ _ _ _ (@den_bin _ _ _ _ _ _ _ _ _ _ _ (@den_bin _ _ _ _ _ _ _ _ _ _ _ (@den_bin _ _ _ _ _ _ _ _ _ _ _ (@den_str _ _ _ _ _ _ _) (@den_nm _ _ _ _ _ _ _ (mm 6 rfl) rfl) (@fn_mulF _ _)) (@den_str _ _ _ _ _ _ _) (@fn_addF _ _)) (@den_bin _ _ _ _ _ _ _ _ _ _ _ (@den_str _ _ _ _ _ _ _) (@den_nm _ _ _ _ _ _ _ (mm 5 rfl) rfl) (@fn_mulF _ _)) (@fn_addF _ _)) (@den_str _ _ _ _ _ _ _) (@fn_addF _ _)) (@den_bin _ _ _ _ _ _ _ _ _ _ _ (@den_str _ _ _ _ _ _ _) (@den_nm _ _ _ _ _ _ _ (mm 7 rfl) rfl) (@fn_mulF _ _)) (@fn_addF _ _)) (mm 12 rfl) (by intro env h; first | rfl | (obtain ⟨⟩ := env; cases h; rfl))) ?_
      exact @den_nil _ _ _ _
    · exact @den_nil _ _ _ _
    refine @den_cons _ _ _ _ _ _ _ _ (@den_expr _ _ _ _ _ _ _ (@den_meth _ _ _ _ O _ _ _ _ _ _ _ _ _ _ (@den_nm _ _ _ _ _ _ _ (mm 1 rfl) rfl) (@meth_append _) Keep.builtin (@fn_app _ _) (@den_argC _ _ _ _ _ _ _ _ (@den_tup _ _ _ _ _ _ _ _ (@den_argC _ _ _ _ _ _ _ _ (@den_nm _ _ _ _ _ _ _ (mm 11 rfl) rfl) (@den_argC _ _ _ _ _ _ _ _ (@den_nm _ _ _ _ _ _ _ (mm 12 rfl) rfl) (@den_argC _ _ _ _ _ _ _ _ (@den_nm _ _ _ _ _ _ _ (mm 9 rfl) rfl) (@den_argC _ _ _ _ _ _ _ _ (@den_nm _ _ _ _ _ _ _ (mm 10 rfl) rfl) (@den_argC _ _ _ _ _ _ _ _ (@den_bin _ _ _ _ _ _ _ _ _ _ _ (@den_bin _ _ _ _ _ _ _ _ _ _ _ (@den_nm _ _ _ _ _ _ _ (mm 11 rfl) rfl) (@den_idx _ _ _ _ _ _ _ _ _ (@den_lst _ _ _ _ _ _ _ (@den_argC _ _ _ _ _ _ _ _ (@den_str _ _ _ _ _ _ _) (@den_argC _ _ _ _ _ _ _ _ (@den_str _ _ _ _ _ _ _) (@den_argC _ _ _ _ _ _ _ _ (@den_str _ _ _ _ _ _ _) (@den_argNil _ _ _ _) rfl) rfl) rfl) (Nat.le_of_ble_eq_true rfl)) (@den_nm _ _ _ _ _ _ _ (mm 10 rfl) rfl) (fun _ _ => rfl)) (@fn_addF _ _)) (@den_call _ _ _ _ O _ _ _ _ _ _ _ (@den_bi _ _ _ _ O _ _ _ rfl nb_str bb_str nn_str rfl) Keep.type (@fn_str _ _) (@den_argC _ _ _ _ _ _ _ _ (@den_nm _ _ _ _ _ _ _ (mm 2 rfl) rfl) (@den_argNil _ _ _ _) rfl) rfl) (@fn_addF _ _)) (@den_argNil _ _ _ _) rfl) rfl) rfl) rfl) rfl) (Nat.le_of_ble_eq_true rfl)) (@den_argNil _ _ _ _) rfl) rfl (fun env _ => ⟨_, rfl⟩)) (fun _ => rfl)) ?_
    exact @den_nil _ _ _ _
  refine @den_cons _ _ _ _ _ _ _ _ (@den_ret _ _ _ _ _ _ _ (@den_nm _ _ _ _ _ _ _ (mm 1 rfl) rfl)) ?_
  exact @den_nil _ _ _ _
theorem shape_rowsF1 : FnShape (cx1 w h₀ mg mb lf) 259 (fdIn (cx1 w h₀ mg mb lf).K 259) (bodyIn (cx1 w h₀ mg mb lf).K 259) ["script"] rowsF1_vars 13 := FnShape.of (by kernel_rfl)
theorem code_rowsF1 (O : (cx1 w h₀ mg mb lf).Ok) : CodeOk (cx1 w h₀ mg mb lf) 4 (fun xs => .call (.ref 259) ⟨xs, []⟩) (rowsF1 (ad1 LF)) :=
  (code_fn O shape_rowsF1 (@den_rowsF1 _ _ _ _ _ _ O) (Binds.of1 (mk := fun xs => ⟨xs, []⟩) fun a => by kernel_rfl) rfl).tr
theorem ok_rowsF1 (O : (cx1 w h₀ mg mb lf).Ok) : FnOk (cx1 w h₀ mg mb lf) 4 (fun xs => call (.ref 259) xs) (rowsF1 (ad1 LF)) := (@code_rowsF1 _ _ _ _ _ _ O).fn
theorem kp_rowsF1 : Keep (cx1 w h₀ mg mb lf) (.ref 259) := Keep.K (by kernel_rfl)
theorem g_law_rows : nsIn (cx1 w h₀ mg mb lf).K mainGlobals "_law_rows" = some (some (.ref 259)) := by kernel_rfl
theorem den_nameF1 (O : (cx1 w h₀ mg mb lf).Ok) : DenSs (cx1 w h₀ mg mb lf) 5 nameF1_vars (fdIn (cx1 w h₀ mg mb lf).K 266).scope (bodyIn (cx1 w h₀ mg mb lf).K 266) (nameF1_sh (ad1 LF)) := by
  conv => enter [4]; whnf
  conv => enter [5]; whnf
  refine @den_cons _ _ _ _ _ _ _ _ (@den_asgT _ _ _ _ _ _ _ _ _ (@den_at _ _ _ _ _ _ _ _ _ (@den_call _ _ _ _ O _ _ _ _ _ _ _ (@den_gl _ _ _ _ O _ _ _ rfl g_Whitespace rfl) kp_Whitespace (@FnOk.le _ _ _ _ _ (@ok_Whitespace _ _ _ _ _ _ O) (by decide)) (@den_argC _ _ _ _ _ _ _ _ (@den_bin _ _ _ _ _ _ _ _ _ _ _ (@den_nm _ _ _ _ _ _ _ (mm 0 rfl) rfl) (@den_nm _ _ _ _ _ _ _ (mm 1 rfl) rfl) (@fn_addF _ _)) (@den_argNil _ _ _ _) rfl) rfl) (@at_norm _ _ _ _ _ _ _ O) (fun _ => rfl)) (@den_tupT _ _ _ _ _ _ _ _ _ (@den_asCons _ _ _ _ _ _ _ _ _ (fun _ _ h => h) (@den_nmA _ _ _ _ _ _ _ (mm 2 rfl)) (@den_asCons _ _ _ _ _ _ _ _ _ (fun _ _ h => h) (@den_nmA _ _ _ _ _ _ _ (mm 3 rfl)) (@den_asNil _ _ _ _ _) rfl) rfl) rfl rfl) rfl (by intro env h; first | rfl | (obtain ⟨⟩ := env; cases h; rfl)) (by intro env h; first | rfl | (obtain ⟨⟩ := env; cases h; rfl))) ?_
  refine @den_cons _ _ _ _ _ _ _ _ (@den_asg _ _ _ _ _ _ _ _ _ _ (@den_str _ _ _ _ _ _ _) (mm 4 rfl) (by intro env h; first | rfl | (obtain ⟨⟩ := env; cases h; rfl))) ?_
  refine @den_cons _ _ _ _ _ _ _ _ (@den_enum _ _ _ _ O _ _ _ _ _ _ _ _ _ _ _ (@den_bi _ _ _ _ O _ _ _ rfl nb_enumerate bb_enumerate nn_enumerate rfl) (@den_nm _ _ _ _ _ _ _ (mm 2 rfl) rfl) (@den_tupT _ _ _ _ _ _ _ _ _ (@den_asCons _ _ _ _ _ _ _ _ _ (fun _ _ h => h) (@den_nmA _ _ _ _ _ _ _ (mm 5 rfl)) (@den_asCons _ _ _ _ _ _ _ _ _ (fun _ _ h => h) (@den_nmA _ _ _ _ _ _ _ (mm 6 rfl)) (@den_asNil _ _ _ _ _) rfl) rfl) rfl rfl) ?_ rfl) ?_
  · refine @den_cons _ _ _ _ _ _ _ _ (@den_asg _ _ _ _ _ _ _ _ _ _ (@den_bin _ _ _ _ _ _ _ _ _ _ _ (@den_nm _ _ _ _ _ _ _ (mm 4 rfl) rfl) (@den_bin _ _ _ _ _ _ _ _ _ _ _ (@den_bin _ _ _ _ _ _ _ _ _ _ _ (@den_bin _ _ _ _ _ _ _ _ _ _ _ (@den_str _ _ _ _ _ _ _) (@den_nm _ _ _ _ _ _ _ (mm 5 rfl) rfl) (@fn_mulF _ _)) (@den_str _ _ _ _ _ _ _) (@fn_addF _ _)) (@den_nm _ _ _ _ _ _ _ (mm 6 rfl) rfl) (@fn_mulF _ _)) (@fn_addF _ _)) (mm 4 rfl) (by intro env h; first | rfl | (obtain ⟨⟩ := env; cases h; rfl))) ?_
    exact @den_nil _ _ _ _
  refine @den_cons _ _ _ _ _ _ _ _ (@den_ret _ _ _ _ _ _ _ (@den_bin _ _ _ _ _ _ _ _ _ _ _ (@den_bin _ _ _ _ _ _ _ _ _ _ _ (@den_nm _ _ _ _ _ _ _ (mm 4 rfl) rfl) (@den_bin _ _ _ _ _ _ _ _ _ _ _ (@den_str _ _ _ _ _ _ _) (@den_nm _ _ _ _ _ _ _ (mm 3 rfl) rfl) (@fn_mulF _ _)) (@fn_addF _ _)) (@den_nm _ _ _ _ _ _ _ (mm 1 rfl) rfl) (@fn_addF _ _))) ?_
  exact @den_nil _ _ _ _
theorem shape_nameF1 : FnShape (cx1 w h₀ mg mb lf) 266 (fdIn (cx1 w h₀ mg mb lf).K 266) (bodyIn (cx1 w h₀ mg mb lf).K 266) ["lead", "word"] nameF1_vars 7 := FnShape.of (by kernel_rfl)
theorem code_nameF1 (O : (cx1 w h₀ mg mb lf).Ok) : CodeOk (cx1 w h₀ mg mb lf) 6 (fun xs => .call (.ref 266) ⟨xs, []⟩) (nameF1 (ad1 LF)) :=
  code_fn O shape_nameF1 (@den_nameF1 _ _ _ _ _ _ O) (Binds.of2 (mk := fun xs => ⟨xs, []⟩) fun a b => by kernel_rfl) rfl
theorem ok_nameF1 (O : (cx1 w h₀ mg mb lf).Ok) : FnOk (cx1 w h₀ mg mb lf) 6 (fun xs => call (.ref 266) xs) (nameF1 (ad1 LF)) := (@code_nameF1 _ _ _ _ _ _ O).fn
theorem kp_nameF1 : Keep (cx1 w h₀ mg mb lf) (.ref 266) := Keep.K (by kernel_rfl)
theorem g_law_name : nsIn (cx1 w h₀ mg mb lf).K mainGlobals "_law_name" = some (some (.ref 266)) := by kernel_rfl
theorem den_columnsF1 (O : (cx1 w h₀ mg mb lf).Ok) : DenSs (cx1 w h₀ mg mb lf) 3 columnsF1_vars (fdIn (cx1 w h₀ mg mb lf).K 278).scope (bodyIn (cx1 w h₀ mg mb lf).K 278) (columnsF1_sh (ad1 LF)) := by
  conv => enter [4]; whnf
  conv => enter [5]; whnf
  refine @den_cons _ _ _ _ _ _ _ _ (@den_asg _ _ _ _ _ _ _ _ _ _ (@den_mlst _ _ _ _ _ _ _ (@den_argNil _ _ _ _) (Nat.le_of_ble_eq_true rfl)) (mm 1 rfl) (by intro env h; first | rfl | (obtain ⟨⟩ := env; cases h; rfl))) ?_
  refine @den_cons _ _ _ _ _ _ _ _ (@den_for _ _ _ _ _ _ _ _ _ _ _ (@den_call _ _ _ _ O _ _ _ _ _ _ _ (@den_bi _ _ _ _ O _ _ _ rfl nb_range bb_range nn_range rfl) Keep.type (@fn_rng _ _) (@den_argC _ _ _ _ _ _ _ _ (@den_int _ _ _ _ _ _ _) (@den_argC _ _ _ _ _ _ _ _ (@den_int _ _ _ _ _ _ _) (@den_argNil _ _ _ _) rfl) rfl) rfl) (@den_nmA _ _ _ _ _ _ _ (mm 2 rfl)) ?_ (fun _ _ => rfl)) ?_
  · refine @den_cons _ _ _ _ _ _ _ _ (@den_asg _ _ _ _ _ _ _ _ _ _ (@den_int _ _ _ _ _ _ _) (mm 3 rfl) (by intro env h; first | rfl | (obtain ⟨⟩ := env; cases h; rfl))) ?_
    refine @den_cons _ _ _ _ _ _ _ _ (@den_for _ _ _ _ _ _ _ _ _ _ _ (@den_nm _ _ _ _ _ _ _ (mm 0 rfl) rfl) (@den_nmA _ _ _ _ _ _ _ (mm 4 rfl)) ?_ (fun _ _ => rfl)) ?_
    · refine @den_cons _ _ _ _ _ _ _ _ (@den_asg _ _ _ _ _ _ _ _ _ _ (@den_ifE _ _ _ _ _ _ _ _ _ _ _ (@den_cmpT _ _ _ _ _ _ _ _ _ _ _ (@den_nm _ _ _ _ _ _ _ (mm 4 rfl) rfl) (@den_str _ _ _ _ _ _ _) (@fn_eq _ _) rfl) (@den_bin _ _ _ _ _ _ _ _ _ _ _ (@den_nm _ _ _ _ _ _ _ (mm 3 rfl) rfl) (@den_int _ _ _ _ _ _ _) (@fn_addF _ _)) (@den_bin _ _ _ _ _ _ _ _ _ _ _ (@den_bin _ _ _ _ _ _ _ _ _ _ _ (@den_bin _ _ _ _ _ _ _ _ _ _ _ (@den_nm _ _ _ _ _ _ _ (mm 3 rfl) rfl) (@den_nm _ _ _ _ _ _ _ (mm 2 rfl) rfl) (@fn_div _ _)) (@den_int _ _ _ _ _ _ _) (@fn_addF _ _)) (@den_nm _ _ _ _ _ _ _ (mm 2 rfl) rfl) (@fn_mulF _ _))) (mm 3 rfl) (by intro env h; first | rfl | (obtain ⟨⟩ := env; cases h; rfl))) ?_
      exact @den_nil _ _ _ _
    refine @den_cons _ _ _ _ _ _ _ _ (@den_expr _ _ _ _ _ _ _ (@den_meth _ _ _ _ O _ _ _ _ _ _ _ _ _ _ (@den_nm _ _ _ _ _ _ _ (mm 1 rfl) rfl) (@meth_append _) Keep.builtin (@fn_app _ _) (@den_argC _ _ _ _ _ _ _ _ (@den_nm _ _ _ _ _ _ _ (mm 3 rfl) rfl) (@den_argNil _ _ _ _) rfl) rfl (fun env _ => ⟨_, rfl⟩)) (fun _ => rfl)) ?_
    exact @den_nil _ _ _ _
  refine @den_cons _ _ _ _ _ _ _ _ (@den_ret _ _ _ _ _ _ _ (@den_nm _ _ _ _ _ _ _ (mm 1 rfl) rfl)) ?_
  exact @den_nil _ _ _ _
theorem shape_columnsF1 : FnShape (cx1 w h₀ mg mb lf) 278 (fdIn (cx1 w h₀ mg mb lf).K 278) (bodyIn (cx1 w h₀ mg mb lf).K 278) ["lead"] columnsF1_vars 5 := FnShape.of (by kernel_rfl)
theorem code_columnsF1 (O : (cx1 w h₀ mg mb lf).Ok) : CodeOk (cx1 w h₀ mg mb lf) 4 (fun xs => .call (.ref 278) ⟨xs, []⟩) (columnsF1 (ad1 LF)) :=
  (code_fn O shape_columnsF1 (@den_columnsF1 _ _ _ _ _ _ O) (Binds.of1 (mk := fun xs => ⟨xs, []⟩) fun a => by kernel_rfl) rfl).tr
theorem ok_columnsF1 (O : (cx1 w h₀ mg mb lf).Ok) : FnOk (cx1 w h₀ mg mb lf) 4 (fun xs => call (.ref 278) xs) (columnsF1 (ad1 LF)) := (@code_columnsF1 _ _ _ _ _ _ O).fn
theorem kp_columnsF1 : Keep (cx1 w h₀ mg mb lf) (.ref 278) := Keep.K (by kernel_rfl)
theorem g_law_columns : nsIn (cx1 w h₀ mg mb lf).K mainGlobals "_law_columns" = some (some (.ref 278)) := by kernel_rfl
theorem den_toldF1 (O : (cx1 w h₀ mg mb lf).Ok) {el : Env} (hlf : lf = some el) (hkind : el.scope.kind ≠ .module) (hel : el.frame = some LF) : DenSs (cx1 w h₀ mg mb lf) 6 toldF1_vars (fdIn (cx1 w h₀ mg mb lf).K 271).scope (bodyIn (cx1 w h₀ mg mb lf).K 271) (toldF1_sh (ad1 LF)) := by
  conv => enter [4]; whnf
  conv => enter [5]; whnf
  refine @den_cons _ _ _ _ _ _ _ _ (@den_asg _ _ _ _ _ _ _ _ _ _ (@den_call _ _ _ _ O _ _ _ _ _ _ _ (@den_gl _ _ _ _ O _ _ _ rfl g_Headers rfl) kp_Headers (@FnOk.le _ _ _ _ _ (@ok_Headers _ _ _ _ _ _ O) (by decide)) (@den_argNil _ _ _ _) rfl) (mm 1 rfl) (by intro env h; first | rfl | (obtain ⟨⟩ := env; cases h; rfl))) ?_
  refine @den_cons _ _ _ _ _ _ _ _ (@den_asg _ _ _ _ _ _ _ _ _ _ (@den_mlst _ _ _ _ _ _ _ (@den_argNil _ _ _ _) (Nat.le_of_ble_eq_true rfl)) (mm 2 rfl) (by intro env h; first | rfl | (obtain ⟨⟩ := env; cases h; rfl))) ?_
  refine @den_cons _ _ _ _ _ _ _ _ (@den_for _ _ _ _ _ _ _ _ _ _ _ (@den_nm _ _ _ _ _ _ _ (mm 0 rfl) rfl) (@den_tupT _ _ _ _ _ _ _ _ _ (@den_asCons _ _ _ _ _ _ _ _ _ (fun _ _ h => h) (@den_nmA _ _ _ _ _ _ _ (mm 3 rfl)) (@den_asCons _ _ _ _ _ _ _ _ _ (fun _ _ h => h) (@den_nmA _ _ _ _ _ _ _ (mm 4 rfl)) (@den_asCons _ _ _ _ _ _ _ _ _ (fun _ _ h => h) (@den_nmA _ _ _ _ _ _ _ (mm 5 rfl)) (@den_asCons _ _ _ _ _ _ _ _ _ (fun _ _ h => h) (@den_nmA _ _ _ _ _ _ _ (mm 6 rfl)) (@den_asCons _ _ _ _ _ _ _ _ _ (fun _ _ h => h) (@den_nmA _ _ _ _ _ _ _ (mm 7 rfl)) (@den_asNil _ _ _ _ _) rfl) rfl) rfl) rfl) rfl) rfl rfl) ?_ (fun _ _ => rfl)) ?_
  · refine @den_cons _ _ _ _ _ _ _ _ (@den_asg _ _ _ _ _ _ _ _ _ _ (@den_bin _ _ _ _ _ _ _ _ _ _ _ (@den_nm _ _ _ _ _ _ _ (mm 3 rfl) rfl) (@den_idx _ _ _ _ _ _ _ _ _ (@den_lst _ _ _ _ _ _ _ (@den_argC _ _ _ _ _ _ _ _ (@den_str _ _ _ _ _ _ _) (@den_argC _ _ _ _ _ _ _ _ (@den_str _ _ _ _ _ _ _) (@den_argC _ _ _ _ _ _ _ _ (@den_str _ _ _ _ _ _ _) (@den_argNil _ _ _ _) rfl) rfl) rfl) (Nat.le_of_ble_eq_true rfl)) (@den_nm _ _ _ _ _ _ _ (mm 6 rfl) rfl) (fun _ _ => rfl)) (@fn_addF _ _)) (mm 8 rfl) (by intro env h; first | rfl | (obtain ⟨⟩ := env; cases h; rfl))) ?_
    refine @den_cons _ _ _ _ _ _ _ _ (@den_asg _ _ _ _ _ _ _ _ _ _ (@den_call _ _ _ _ O _ _ _ _ _ _ _ (@den_gl _ _ _ _ O _ _ _ rfl g_law_name rfl) kp_nameF1 (@FnOk.le _ _ _ _ _ (@ok_nameF1 _ _ _ _ _ _ O) (by decide)) (@den_argC _ _ _ _ _ _ _ _ (@den_nm _ _ _ _ _ _ _ (mm 3 rfl) rfl) (@den_argC _ _ _ _ _ _ _ _ (@den_idx _ _ _ _ _ _ _ _ _ (@den_lst _ _ _ _ _ _ _ (@den_argC _ _ _ _ _ _ _ _ (@den_str _ _ _ _ _ _ _) (@den_argC _ _ _ _ _ _ _ _ (@den_str _ _ _ _ _ _ _) (@den_argC _ _ _ _ _ _ _ _ (@den_str _ _ _ _ _ _ _) (@den_argNil _ _ _ _) rfl) rfl) rfl) (Nat.le_of_ble_eq_true rfl)) (@den_nm _ _ _ _ _ _ _ (mm 6 rfl) rfl) (fun _ _ => rfl)) (@den_argNil _ _ _ _) rfl) rfl) rfl) (mm 9 rfl) (by intro env h; first | rfl | (obtain ⟨⟩ := env; cases h; rfl))) ?_
    refine @den_cons _ _ _ _ _ _ _ _ (@den_asg _ _ _ _ _ _ _ _ _ _ (@den_call _ _ _ _ O _ _ _ _ _ _ _ (@den_gl _ _ _ _ O _ _ _ rfl g_law_name rfl) kp_nameF1 (@FnOk.le _ _ _ _ _ (@ok_nameF1 _ _ _ _ _ _ O) (by decide)) (@den_argC _ _ _ _ _ _ _ _ (@den_nm _ _ _ _ _ _ _ (mm 4 rfl) rfl) (@den_argC _ _ _ _ _ _ _ _ (@den_idx _ _ _ _ _ _ _ _ _ (@den_lst _ _ _ _ _ _ _ (@den_argC _ _ _ _ _ _ _ _ (@den_str _ _ _ _ _ _ _) (@den_argC _ _ _ _ _ _ _ _ (@den_str _ _ _ _ _ _ _) (@den_argC _ _ _ _ _ _ _ _ (@den_str _ _ _ _ _ _ _) (@den_argNil _ _ _ _) rfl) rfl) rfl) (Nat.le_of_ble_eq_true rfl)) (@den_nm _ _ _ _ _ _ _ (mm 6 rfl) rfl) (fun _ _ => rfl)) (@den_argNil _ _ _ _) rfl) rfl) rfl) (mm 10 rfl) (by intro env h; first | rfl | (obtain ⟨⟩ := env; cases h; rfl))) ?_
    refine @den_cons _ _ _ _ _ _ _ _ (@den_asg _ _ _ _ _ _ _ _ _ _ (@den_str _ _ _ _ _ _ _) (mm 11 rfl) (by intro env h; first | rfl | (obtain ⟨⟩ := env; cases h; rfl))) ?_
    refine @den_cons _ _ _ _ _ _ _ _ (@den_if _ _ _ _ _ _ _ _ _ _ _ (@den_cmpT _ _ _ _ _ _ _ _ _ _ _ (@den_nm _ _ _ _ _ _ _ (mm 5 rfl) rfl) (@den_int _ _ _ _ _ _ _) (@fn_eq _ _) rfl) ?_ ?_) ?_
    · refine @den_cons _ _ _ _ _ _ _ _ (@den_expr _ _ _ _ _ _ _ (@den_meth _ _ _ _ O _ _ _ _ _ _ _ _ _ _ (@den_nm _ _ _ _ _ _ _ (mm 1 rfl) rfl) (@me_hd_addh _ _ _ _ _ _ O) kp_hd_addh (@FnOk.le _ _ _ _ _ (@ok_hd_addh _ _ _ _ _ _ O) (by decide)) (@den_argC _ _ _ _ _ _ _ _ (@den_nm _ _ _ _ _ _ _ (mm 9 rfl) rfl) (@den_argC _ _ _ _ _ _ _ _ (@den_nm _ _ _ _ _ _ _ (mm 7 rfl) rfl) (@den_argNil _ _ _ _) rfl) rfl) rfl (fun env _ => ⟨_, rfl⟩)) (fun _ => rfl)) ?_
      exact @den_nil _ _ _ _
    · exact @den_nil _ _ _ _
    refine @den_cons _ _ _ _ _ _ _ _ (@den_if _ _ _ _ _ _ _ _ _ _ _ (@den_cmpT _ _ _ _ _ _ _ _ _ _ _ (@den_nm _ _ _ _ _ _ _ (mm 5 rfl) rfl) (@den_int _ _ _ _ _ _ _) (@fn_eq _ _) rfl) ?_ ?_) ?_
    · refine @den_cons _ _ _ _ _ _ _ _ (@den_asgT _ _ _ _ _ _ _ _ _ (@den_nm _ _ _ _ _ _ _ (mm 7 rfl) rfl) (@den_setM _ _ _ _ O _ _ _ _ _ _ _ _ (@den_nm _ _ _ _ _ _ _ (mm 1 rfl) rfl) (@den_nm _ _ _ _ _ _ _ (mm 9 rfl) rfl) hd_noSeq hd_fset hd_fsetf (@FnOk.le _ _ _ _ _ (@ok_hd_setitem _ _ _ _ _ _ O) (by decide))) rfl (by intro env h; first | rfl | (obtain ⟨⟩ := env; cases h; rfl)) (by intro env h; first | rfl | (obtain ⟨⟩ := env; cases h; rfl))) ?_
      exact @den_nil _ _ _ _
    · exact @den_nil _ _ _ _
    refine @den_cons _ _ _ _ _ _ _ _ (@den_if _ _ _ _ _ _ _ _ _ _ _ (@den_cmpT _ _ _ _ _ _ _ _ _ _ _ (@den_nm _ _ _ _ _ _ _ (mm 5 rfl) rfl) (@den_int _ _ _ _ _ _ _) (@fn_eq _ _) rfl) ?_ ?_) ?_
    · refine @den_cons _ _ _ _ _ _ _ _ (@den_asg _ _ _ _ _ _ _ _ _ _ (@den_meth _ _ _ _ O _ _ _ _ _ _ _ _ _ _ (@den_nm _ _ _ _ _ _ _ (mm 1 rfl) rfl) (@me_hd_setdefault _ _ _ _ _ _ O) kp_hd_setdefault (@FnOk.le _ _ _ _ _ (@ok_hd_setdefault _ _ _ _ _ _ O) (by decide)) (@den_argC _ _ _ _ _ _ _ _ (@den_nm _ _ _ _ _ _ _ (mm 9 rfl) rfl) (@den_argC _ _ _ _ _ _ _ _ (@den_nm _ _ _ _ _ _ _ (mm 7 rfl) rfl) (@den_argNil _ _ _ _) rfl) rfl) rfl (fun env _ => ⟨_, rfl⟩)) (mm 11 rfl) (by intro env h; first | rfl | (obtain ⟨⟩ := env; cases h; rfl))) ?_
      exact @den_nil _ _ _ _
    · exact @den_nil _ _ _ _
    refine @den_cons _ _ _ _ _ _ _ _ (@den_if _ _ _ _ _ _ _ _ _ _ _ (@den_cmpT _ _ _ _ _ _ _ _ _ _ _ (@den_nm _ _ _ _ _ _ _ (mm 5 rfl) rfl) (@den_int _ _ _ _ _ _ _) (@fn_eq _ _) rfl) ?_ ?_) ?_
    · refine @den_cons _ _ _ _ _ _ _ _ (@den_del _ _ _ _ O _ _ _ _ _ _ _ _ _ (@den_nm _ _ _ _ _ _ _ (mm 1 rfl) rfl) (@den_nm _ _ _ _ _ _ _ (mm 9 rfl) rfl) hd_noSeq hd_fdel hd_fdelf (@FnOk.le _ _ _ _ _ (@ok_hd_delitem _ _ _ _ _ _ O) (by decide))) ?_
      exact @den_nil _ _ _ _
    · exact @den_nil _ _ _ _
    refine @den_cons _ _ _ _ _ _ _ _ (@den_if _ _ _ _ _ _ _ _ _ _ _ (@den_cmpT _ _ _ _ _ _ _ _ _ _ _ (@den_nm _ _ _ _ _ _ _ (mm 5 rfl) rfl) (@den_int _ _ _ _ _ _ _) (@fn_eq _ _) rfl) ?_ ?_) ?_
    · refine @den_cons _ _ _ _ _ _ _ _ (@den_try _ _ _ _ _ _ _ _ _ _ _ _ _ _ _ _ _ _ _ _ _ hlf hkind hel rfl (@den_expr _ _ _ _ _ _ _ (@den_meth _ _ _ _ O _ _ _ _ _ _ _ _ _ _ (@den_nm _ _ _ _ _ _ _ (mm 1 rfl) rfl) (@me_hd_addh _ _ _ _ _ _ O) kp_hd_addh (@FnOk.le _ _ _ _ _ (@ok_hd_addh _ _ _ _ _ _ O) (by decide)) (@den_argC _ _ _ _ _ _ _ _ (@den_nm _ _ _ _ _ _ _ (mm 8 rfl) rfl) (@den_argC _ _ _ _ _ _ _ _ (@den_nm _ _ _ _ _ _ _ (mm 7 rfl) rfl) (@den_argNil _ _ _ _) rfl) rfl) rfl (fun env _ => ⟨_, rfl⟩)) (fun _ => rfl)) (@ra_meth _ _ _ _ O _ _ _ _ _ _ _ _ _ _ (@den_nm _ _ _ _ _ _ _ (mm 1 rfl) rfl) (@me_hd_addh _ _ _ _ _ _ O) kp_hd_addh (@code_ra_hd_addh _ _ _ _ _ _ O) (@den_argC _ _ _ _ _ _ _ _ (@den_nm _ _ _ _ _ _ _ (mm 8 rfl) rfl) (@den_argC _ _ _ _ _ _ _ _ (@den_nm _ _ _ _ _ _ _ (mm 7 rfl) rfl) (@den_argNil _ _ _ _) rfl) rfl) rfl (fun env _ => ⟨_, rfl⟩)) (tryBad_ok (ad1 LF) rfl) (fun _ => rfl) (bi_any O rfl nb_ValueError bb_ValueError nn_ValueError rfl) (mm 11 rfl) (by intro env h; first | rfl | (obtain ⟨⟩ := env; cases h; rfl))) ?_
      exact @den_nil _ _ _ _
    · exact @den_nil _ _ _ _
    refine @den_cons _ _ _ _ _ _ _ _ (@den_asg _ _ _ _ _ _ _ _ _ _ (@den_call _ _ _ _ O _ _ _ _ _ _ _ (@den_gl _ _ _ _ O _ _ _ rfl g_Whitespace rfl) kp_Whitespace (@FnOk.le _ _ _ _ _ (@ok_Whitespace _ _ _ _ _ _ O) (by decide)) (@den_argC _ _ _ _ _ _ _ _ (@den_nm _ _ _ _ _ _ _ (mm 8 rfl) rfl) (@den_argNil _ _ _ _) rfl) rfl) (mm 12 rfl) (by intro env h; first | rfl | (obtain ⟨⟩ := env; cases h; rfl))) ?_
    refine @den_cons _ _ _ _ _ _ _ _ (@den_asgLcV _ _ _ _ _ _ _ _ _ _ _ _ _ _ _ _ _ _ _ _ (by decide +kernel) (@den_meth _ _ _ _ O _ _ _ _ _ _ _ _ _ _ (@den_nm _ _ _ _ _ _ _ (mm 1 rfl) rfl) (@me_hd_values _ _ _ _ _ _ O) kp_hd_values (@FnOk.le _ _ _ _ _ (@ok_hd_values _ _ _ _ _ _ O) (by decide)) (@den_argNil _ _ _ _) rfl (fun env _ => ⟨_, rfl⟩)) (@den_nmAL _ _ _ _ _ _ _ (mm 0 rfl) rfl) (@den_if1 _ _ _ _ _ _ (@den_valT _ _ _ _ _ _ (@den_meth _ _ _ _ O _ _ _ _ _ _ _ _ _ _ (@den_nm _ _ _ _ _ _ _ (mm 1 rfl) rfl) (@me_ws_equal _ _ _ _ _ _ O) kp_ws_equal (@FnOk.le _ _ _ _ _ (@ok_ws_equal _ _ _ _ _ _ O) (by decide)) (@den_argC _ _ _ _ _ _ _ _ (@den_call _ _ _ _ O _ _ _ _ _ _ _ (@den_gl _ _ _ _ O _ _ _ rfl g_Whitespace rfl) kp_Whitespace (@FnOk.le _ _ _ _ _ (@ok_Whitespace _ _ _ _ _ _ O) (by decide)) (@den_argC _ _ _ _ _ _ _ _ (@den_nm _ _ _ _ _ _ _ (mm 0 rfl) rfl) (@den_argNil _ _ _ _) rfl) rfl) (@den_argNil _ _ _ _) rfl) rfl (fun env _ => ⟨_, rfl⟩)) (fun _ _ => rfl))) (@den_nm _ _ _ _ _ _ _ (mm 0 rfl) rfl) (fun _ _ => rfl) (mm 13 rfl) (by intro env h; first | rfl | (obtain ⟨⟩ := env; cases h; rfl))) ?_
    refine @den_cons _ _ _ _ _ _ _ _ (@den_expr _ _ _ _ _ _ _ (@den_meth _ _ _ _ O _ _ _ _ _ _ _ _ _ _ (@den_nm _ _ _ _ _ _ _ (mm 2 rfl) rfl) (@meth_append _) Keep.builtin (@fn_app _ _) (@den_argC _ _ _ _ _ _ _ _ (@den_tup _ _ _ _ _ _ _ _ (@den_argC _ _ _ _ _ _ _ _ (@den_nm _ _ _ _ _ _ _ (mm 11 rfl) rfl) (@den_argC _ _ _ _ _ _ _ _ (@den_meth _ _ _ _ O _ _ _ _ _ _ _ _ _ _ (@den_nm _ _ _ _ _ _ _ (mm 1 rfl) rfl) (@me_hd_items _ _ _ _ _ _ O) kp_hd_items (@FnOk.le _ _ _ _ _ (@ok_hd_items _ _ _ _ _ _ O) (by decide)) (@den_argNil _ _ _ _) rfl (fun env _ => ⟨_, rfl⟩)) (@den_argC _ _ _ _ _ _ _ _ (@den_meth _ _ _ _ O _ _ _ _ _ _ _ _ _ _ (@den_nm _ _ _ _ _ _ _ (mm 1 rfl) rfl) (@me_hd_get_all _ _ _ _ _ _ O) kp_hd_get_all (@FnOk.le _ _ _ _ _ (@ok_hd_get_all _ _ _ _ _ _ O) (by decide)) (@den_argC _ _ _ _ _ _ _ _ (@den_nm _ _ _ _ _ _ _ (mm 10 rfl) rfl) (@den_argNil _ _ _ _) rfl) rfl (fun env _ => ⟨_, rfl⟩)) (@den_argC _ _ _ _ _ _ _ _ (@den_meth _ _ _ _ O _ _ _ _ _ _ _ _ _ _ (@den_nm _ _ _ _ _ _ _ (mm 1 rfl) rfl) (@me_hd_get _ _ _ _ _ _ O) kp_hd_get (@FnOk.le _ _ _ _ _ (@ok_hd_get _ _ _ _ _ _ O) (by decide)) (@den_argC _ _ _ _ _ _ _ _ (@den_nm _ _ _ _ _ _ _ (mm 10 rfl) rfl) (@den_argC _ _ _ _ _ _ _ _ (@den_str _ _ _ _ _ _ _) (@den_argNil _ _ _ _) rfl) rfl) rfl (fun env _ => ⟨_, rfl⟩)) (@den_argC _ _ _ _ _ _ _ _ (@den_nm _ _ _ _ _ _ _ (mm 13 rfl) rfl) (@den_argNil _ _ _ _) rfl) rfl) rfl) rfl) rfl) (Nat.le_of_ble_eq_true rfl)) (@den_argNil _ _ _ _) rfl) rfl (fun env _ => ⟨_, rfl⟩)) (fun _ => rfl)) ?_
    exact @den_nil _ _ _ _
  refine @den_cons _ _ _ _ _ _ _ _ (@den_ret _ _ _ _ _ _ _ (@den_nm _ _ _ _ _ _ _ (mm 2 rfl) rfl)) ?_
  exact @den_nil _ _ _ _
theorem shape_toldF1 : FnShape (cx1 w h₀ mg mb lf) 271 (fdIn (cx1 w h₀ mg mb lf).K 271) (bodyIn (cx1 w h₀ mg mb lf).K 271) ["rows"] toldF1_vars 15 := FnShape.of (by kernel_rfl)
theorem code_toldF1 (O : (cx1 w h₀ mg mb lf).Ok) {el : Env} (hlf : lf = some el) (hkind : el.scope.kind ≠ .module) (hel : el.frame = some LF) : CodeOk (cx1 w h₀ mg mb lf) 7 (fun xs => .call (.ref 271) ⟨xs, []⟩) (toldF1 (ad1 LF)) :=
  (code_fn O shape_toldF1 (den_toldF1 O hlf hkind hel) (Binds.of1 (mk := fun xs => ⟨xs, []⟩) fun a => by kernel_rfl) rfl).tr
theorem ok_toldF1 (O : (cx1 w h₀ mg mb lf).Ok) {el : Env} (hlf : lf = some el) (hkind : el.scope.kind ≠ .module) (hel : el.frame = some LF) : FnOk (cx1 w h₀ mg mb lf) 7 (fun xs => call (.ref 271) xs) (toldF1 (ad1 LF)) := (code_toldF1 O hlf hkind hel).fn
theorem kp_toldF1 : Keep (cx1 w h₀ mg mb lf) (.ref 271) := Keep.K (by kernel_rfl)
theorem g_law_told : nsIn (cx1 w h₀ mg mb lf).K mainGlobals "_law_told" = some (some (.ref 271)) := by kernel_rfl
theorem den_dueF1 (O : (cx1 w h₀ mg mb lf).Ok) : DenSs (cx1 w h₀ mg mb lf) 4 dueF1_vars (fdIn (cx1 w h₀ mg mb lf).K 283).scope (bodyIn (cx1 w h₀ mg mb lf).K 283) (dueF1_sh (ad1 LF)) := by
  conv => enter [4]; whnf
  conv => enter [5]; whnf
  refine @den_cons _ _ _ _ _ _ _ _ (@den_asg _ _ _ _ _ _ _ _ _ _ (@den_lst _ _ _ _ _ _ _ (@den_argNil _ _ _ _) (Nat.le_of_ble_eq_true rfl)) (mm 1 rfl) (by intro env h; first | rfl | (obtain ⟨⟩ := env; cases h; rfl))) ?_
  refine @den_cons _ _ _ _ _ _ _ _ (@den_asg _ _ _ _ _ _ _ _ _ _ (@den_mlst _ _ _ _ _ _ _ (@den_argNil _ _ _ _) (Nat.le_of_ble_eq_true rfl)) (mm 2 rfl) (by intro env h; first | rfl | (obtain ⟨⟩ := env; cases h; rfl))) ?_
  refine @den_cons _ _ _ _ _ _ _ _ (@den_for _ _ _ _ _ _ _ _ _ _ _ (@den_nm _ _ _ _ _ _ _ (mm 0 rfl) rfl) (@den_tupT _ _ _ _ _ _ _ _ _ (@den_asCons _ _ _ _ _ _ _ _ _ (fun _ _ h => h) (@den_nmA _ _ _ _ _ _ _ (mm 3 rfl)) (@den_asCons _ _ _ _ _ _ _ _ _ (fun _ _ h => h) (@den_nmA _ _ _ _ _ _ _ (mm 4 rfl)) (@den_asCons _ _ _ _ _ _ _ _ _ (fun _ _ h => h) (@den_nmA _ _ _ _ _ _ _ (mm 5 rfl)) (@den_asCons _ _ _ _ _ _ _ _ _ (fun _ _ h => h) (@den_nmA _ _ _ _ _ _ _ (mm 6 rfl)) (@den_asCons _ _ _ _ _ _ _ _ _ (fun _ _ h => h) (@den_nmA _ _ _ _ _ _ _ (mm 7 rfl)) (@den_asNil _ _ _ _ _) rfl) rfl) rfl) rfl) rfl) rfl rfl) ?_ (fun _ _ => rfl)) ?_
  · refine @den_cons _ _ _ _ _ _ _ _ (@den_asg _ _ _ _ _ _ _ _ _ _ (@den_tup _ _ _ _ _ _ _ _ (@den_argC _ _ _ _ _ _ _ _ (@den_call _ _ _ _ O _ _ _ _ _ _ _ (@den_gl _ _ _ _ O _ _ _ rfl g_law_columns rfl) kp_columnsF1 (@FnOk.le _ _ _ _ _ (@ok_columnsF1 _ _ _ _ _ _ O) (by decide)) (@den_argC _ _ _ _ _ _ _ _ (@den_nm _ _ _ _ _ _ _ (mm 3 rfl) rfl) (@den_argNil _ _ _ _) rfl) rfl) (@den_argC _ _ _ _ _ _ _ _ (@den_bin _ _ _ _ _ _ _ _ _ _ _ (@den_nm _ _ _ _ _ _ _ (mm 6 rfl) rfl) (@den_int _ _ _ _ _ _ _) (@fn_div _ _)) (@den_argNil _ _ _ _) rfl) rfl) (Nat.le_of_ble_eq_true rfl)) (mm 8 rfl) (by intro env h; first | rfl | (obtain ⟨⟩ := env; cases h; rfl))) ?_
    refine @den_cons _ _ _ _ _ _ _ _ (@den_asg _ _ _ _ _ _ _ _ _ _ (@den_meth _ _ _ _ O _ _ _ _ _ _ _ _ _ _ (@den_nm _ _ _ _ _ _ _ (mm 3 rfl) rfl) (@meth_split _) Keep.builtin (@fn_split _ _) (@den_argC _ _ _ _ _ _ _ _ (@den_str _ _ _ _ _ _ _) (@den_argNil _ _ _ _) rfl) rfl (fun env _ => ⟨_, rfl⟩)) (mm 9 rfl) (by intro env h; first | rfl | (obtain ⟨⟩ := env; cases h; rfl))) ?_
    refine @den_cons _ _ _ _ _ _ _ _ (@den_asg _ _ _ _ _ _ _ _ _ _ (@den_bin _ _ _ _ _ _ _ _ _ _ _ (@den_bin _ _ _ _ _ _ _ _ _ _ _ (@den_meth _ _ _ _ O _ _ _ _ _ _ _ _ _ _ (@den_str _ _ _ _ _ _ _) (@meth_join _) Keep.builtin (@fn_join _ _) (@den_argC _ _ _ _ _ _ _ _ (@den_lcV _ _ _ _ _ _ _ _ _ _ _ _ _ _ _ _ (by decide +kernel) (@den_call _ _ _ _ O _ _ _ _ _ _ _ (@den_bi _ _ _ _ O _ _ _ rfl nb_sorted bb_sorted nn_sorted rfl) Keep.builtin (@fn_sorted _ _) (@den_argC _ _ _ _ _ _ _ _ (@den_slice _ _ _ _ _ _ _ _ _ _ (@den_nm _ _ _ _ _ _ _ (mm 9 rfl) rfl) (@den_un _ _ _ _ _ _ _ _ _ (@den_int _ _ _ _ _ _ _) (@fn_neg _ _))) (@den_argNil _ _ _ _) rfl) rfl) (@den_nmAL _ _ _ _ _ _ _ (mm 0 rfl) rfl) (@den_if0 _ _ _ _) (@den_bin _ _ _ _ _ _ _ _ _ _ _ (@den_nm _ _ _ _ _ _ _ (mm 0 rfl) rfl) (@den_str _ _ _ _ _ _ _) (@fn_addF _ _)) (fun _ _ => rfl)) (@den_argNil _ _ _ _) rfl) rfl (fun env _ => ⟨_, rfl⟩)) (@den_idx _ _ _ _ _ _ _ _ _ (@den_nm _ _ _ _ _ _ _ (mm 9 rfl) rfl) (@den_un _ _ _ _ _ _ _ _ _ (@den_int _ _ _ _ _ _ _) (@fn_neg _ _)) (fun _ _ => rfl)) (@fn_addF _ _)) (@den_idx _ _ _ _ _ _ _ _ _ (@den_lst _ _ _ _ _ _ _ (@den_argC _ _ _ _ _ _ _ _ (@den_str _ _ _ _ _ _ _) (@den_argC _ _ _ _ _ _ _ _ (@den_str _ _ _ _ _ _ _) (@den_argC _ _ _ _ _ _ _ _ (@den_str _ _ _ _ _ _ _) (@den_argNil _ _ _ _) rfl) rfl) rfl) (Nat.le_of_ble_eq_true rfl)) (@den_nm _ _ _ _ _ _ _ (mm 6 rfl) rfl) (fun _ _ => rfl)) (@fn_addF _ _)) (mm 10 rfl) (by intro env h; first | rfl | (obtain ⟨⟩ := env; cases h; rfl))) ?_
    refine @den_cons _ _ _ _ _ _ _ _ (@den_asgLcV _ _ _ _ _ _ _ _ _ _ _ _ _ _ _ _ _ _ _ _ (by decide +kernel) (@den_nm _ _ _ _ _ _ _ (mm 1 rfl) rfl) (@den_tupT _ _ _ _ _ _ _ _ _ (@den_asCons _ _ _ _ _ _ _ _ _ (fun _ _ h => .inl h) (@den_nmAL _ _ _ _ _ _ _ (mm 0 rfl) rfl) (@den_asCons _ _ _ _ _ _ _ _ _ (fun _ _ h => .inl h) (@den_nmAL _ _ _ _ _ _ _ (mm 1 rfl) rfl) (@den_asCons _ _ _ _ _ _ _ _ _ (fun _ _ h => .inl h) (@den_nmAL _ _ _ _ _ _ _ (mm 2 rfl) rfl) (@den_asNil _ _ _ _ _) rfl) rfl) rfl) rfl rfl) (@den_if1 _ _ _ _ _ _ (@den_cmpT _ _ _ _ _ _ _ _ _ _ _ (@den_nm _ _ _ _ _ _ _ (mm 0 rfl) rfl) (@den_nm _ _ _ _ _ _ _ (mm 3 rfl) rfl) (@fn_eq _ _) rfl)) (@den_nm _ _ _ _ _ _ _ (mm 2 rfl) rfl) (fun _ _ => rfl) (mm 11 rfl) (by intro env h; first | rfl | (obtain ⟨⟩ := env; cases h; rfl))) ?_
    refine @den_cons _ _ _ _ _ _ _ _ (@den_asg _ _ _ _ _ _ _ _ _ _ (@den_str _ _ _ _ _ _ _) (mm 12 rfl) (by intro env h; first | rfl | (obtain ⟨⟩ := env; cases h; rfl))) ?_
    refine @den_cons _ _ _ _ _ _ _ _ (@den_if _ _ _ _ _ _ _ _ _ _ _ (@den_cmpT _ _ _ _ _ _ _ _ _ _ _ (@den_nm _ _ _ _ _ _ _ (mm 5 rfl) rfl) (@den_int _ _ _ _ _ _ _) (@fn_eq _ _) rfl) ?_ ?_) ?_
    · refine @den_cons _ _ _ _ _ _ _ _ (@den_asg _ _ _ _ _ _ _ _ _ _ (@den_ifE _ _ _ _ _ _ _ _ _ _ _ (@den_cmpT _ _ _ _ _ _ _ _ _ _ _ (@den_nm _ _ _ _ _ _ _ (mm 11 rfl) rfl) (@den_lst _ _ _ _ _ _ _ (@den_argNil _ _ _ _) (Nat.le_of_ble_eq_true rfl)) (@fn_ne _ _) rfl) (@den_idx _ _ _ _ _ _ _ _ _ (@den_nm _ _ _ _ _ _ _ (mm 11 rfl) rfl) (@den_int _ _ _ _ _ _ _) (fun _ _ => rfl)) (@den_nm _ _ _ _ _ _ _ (mm 7 rfl) rfl)) (mm 12 rfl) (by intro env h; first | rfl | (obtain ⟨⟩ := env; cases h; rfl))) ?_
      exact @den_nil _ _ _ _
    · exact @den_nil _ _ _ _
    refine @den_cons _ _ _ _ _ _ _ _ (@den_if _ _ _ _ _ _ _ _ _ _ _ (@den_boolT _ _ _ _ _ _ _ _ (@den_allCons _ _ _ _ _ _ _ _ _ (@den_cmpT _ _ _ _ _ _ _ _ _ _ _ (@den_nm _ _ _ _ _ _ _ (mm 5 rfl) rfl) (@den_int _ _ _ _ _ _ _) (@fn_eq _ _) rfl) (@den_allCons _ _ _ _ _ _ _ _ _ (@den_cmpT _ _ _ _ _ _ _ _ _ _ _ (@den_str _ _ _ _ _ _ _) (@den_nm _ _ _ _ _ _ _ (mm 3 rfl) rfl) (@fn_in _ _) rfl) (@den_allNil _ _ _ _ _)))) ?_ ?_) ?_
    · refine @den_cons _ _ _ _ _ _ _ _ (@den_asg _ _ _ _ _ _ _ _ _ _ (@den_str _ _ _ _ _ _ _) (mm 12 rfl) (by intro env h; first | rfl | (obtain ⟨⟩ := env; cases h; rfl))) ?_
      exact @den_nil _ _ _ _
    · exact @den_nil _ _ _ _
    refine @den_cons _ _ _ _ _ _ _ _ (@den_if _ _ _ _ _ _ _ _ _ _ _ (@den_boolT _ _ _ _ _ _ _ _ (@den_allCons _ _ _ _ _ _ _ _ _ (@den_cmpT _ _ _ _ _ _ _ _ _ _ _ (@den_nm _ _ _ _ _ _ _ (mm 5 rfl) rfl) (@den_int _ _ _ _ _ _ _) (@fn_eq _ _) rfl) (@den_allCons _ _ _ _ _ _ _ _ _ (@den_cmpT _ _ _ _ _ _ _ _ _ _ _ (@den_nm _ _ _ _ _ _ _ (mm 5 rfl) rfl) (@den_int _ _ _ _ _ _ _) (@fn_eq _ _) rfl) (@den_allNil _ _ _ _ _)))) ?_ ?_) ?_
    · refine @den_cons _ _ _ _ _ _ _ _ (@den_asgLcV _ _ _ _ _ _ _ _ _ _ _ _ _ _ _ _ _ _ _ _ (by decide +kernel) (@den_nm _ _ _ _ _ _ _ (mm 1 rfl) rfl) (@den_nmAL _ _ _ _ _ _ _ (mm 0 rfl) rfl) (@den_if1 _ _ _ _ _ _ (@den_cmpT _ _ _ _ _ _ _ _ _ _ _ (@den_idx _ _ _ _ _ _ _ _ _ (@den_nm _ _ _ _ _ _ _ (mm 0 rfl) rfl) (@den_int _ _ _ _ _ _ _) (fun _ _ => rfl)) (@den_nm _ _ _ _ _ _ _ (mm 1 rfl) rfl) (@fn_ne _ _) rfl)) (@den_nm _ _ _ _ _ _ _ (mm 0 rfl) rfl) (fun _ _ => rfl) (mm 1 rfl) (by intro env h; first | rfl | (obtain ⟨⟩ := env; cases h; rfl))) ?_
      exact @den_nil _ _ _ _
    · exact @den_nil _ _ _ _
    refine @den_cons _ _ _ _ _ _ _ _ (@den_if _ _ _ _ _ _ _ _ _ _ _ (@den_boolT _ _ _ _ _ _ _ _ (@den_allCons _ _ _ _ _ _ _ _ _ (@den_cmpT _ _ _ _ _ _ _ _ _ _ _ (@den_nm _ _ _ _ _ _ _ (mm 5 rfl) rfl) (@den_int _ _ _ _ _ _ _) (@fn_lt _ _) rfl) (@den_allCons _ _ _ _ _ _ _ _ _ (@den_boolT _ _ _ _ _ _ _ _ (@den_allCons _ _ _ _ _ _ _ _ _ (@den_cmpT _ _ _ _ _ _ _ _ _ _ _ (@den_nm _ _ _ _ _ _ _ (mm 5 rfl) rfl) (@den_int _ _ _ _ _ _ _) (@fn_eq _ _) rfl) (@den_allCons _ _ _ _ _ _ _ _ _ (@den_cmpT _ _ _ _ _ _ _ _ _ _ _ (@den_nm _ _ _ _ _ _ _ (mm 11 rfl) rfl) (@den_lst _ _ _ _ _ _ _ (@den_argNil _ _ _ _) (Nat.le_of_ble_eq_true rfl)) (@fn_eq _ _) rfl) (@den_allNil _ _ _ _ _)))) (@den_allCons _ _ _ _ _ _ _ _ _ (@den_boolT _ _ _ _ _ _ _ _ (@den_allCons _ _ _ _ _ _ _ _ _ (@den_cmpT _ _ _ _ _ _ _ _ _ _ _ (@den_nm _ _ _ _ _ _ _ (mm 5 rfl) rfl) (@den_int _ _ _ _ _ _ _) (@fn_eq _ _) rfl) (@den_allCons _ _ _ _ _ _ _ _ _ (@den_cmpT _ _ _ _ _ _ _ _ _ _ _ (@den_str _ _ _ _ _ _ _) (@den_nm _ _ _ _ _ _ _ (mm 3 rfl) rfl) (@fn_notIn _ _) rfl) (@den_allNil _ _ _ _ _)))) (@den_allNil _ _ _ _ _))))) ?_ ?_) ?_
    · refine @den_cons _ _ _ _ _ _ _ _ (@den_asg _ _ _ _ _ _ _ _ _ _ (@den_bin _ _ _ _ _ _ _ _ _ _ _ (@den_nm _ _ _ _ _ _ _ (mm 1 rfl) rfl) (@den_lst _ _ _ _ _ _ _ (@den_argC _ _ _ _ _ _ _ _ (@den_tup _ _ _ _ _ _ _ _ (@den_argC _ _ _ _ _ _ _ _ (@den_nm _ _ _ _ _ _ _ (mm 8 rfl) rfl) (@den_argC _ _ _ _ _ _ _ _ (@den_nm _ _ _ _ _ _ _ (mm 10 rfl) rfl) (@den_argC _ _ _ _ _ _ _ _ (@den_nm _ _ _ _ _ _ _ (mm 7 rfl) rfl) (@den_argNil _ _ _ _) rfl) rfl) rfl) (Nat.le_of_ble_eq_true rfl)) (@den_argNil _ _ _ _) rfl) (Nat.le_of_ble_eq_true rfl)) (@fn_addF _ _)) (mm 1 rfl) (by intro env h; first | rfl | (obtain ⟨⟩ := env; cases h; rfl))) ?_
      exact @den_nil _ _ _ _
    · exact @den_nil _ _ _ _
    refine @den_cons _ _ _ _ _ _ _ _ (@den_asgLcV _ _ _ _ _ _ _ _ _ _ _ _ _ _ _ _ _ _ _ _ (by decide +kernel) (@den_nm _ _ _ _ _ _ _ (mm 1 rfl) rfl) (@den_tupT _ _ _ _ _ _ _ _ _ (@den_asCons _ _ _ _ _ _ _ _ _ (fun _ _ h => .inl h) (@den_nmAL _ _ _ _ _ _ _ (mm 0 rfl) rfl) (@den_asCons _ _ _ _ _ _ _ _ _ (fun _ _ h => .inl h) (@den_nmAL _ _ _ _ _ _ _ (mm 1 rfl) rfl) (@den_asCons _ _ _ _ _ _ _ _ _ (fun _ _ h => .inl h) (@den_nmAL _ _ _ _ _ _ _ (mm 2 rfl) rfl) (@den_asNil _ _ _ _ _) rfl) rfl) rfl) rfl rfl) (@den_if1 _ _ _ _ _ _ (@den_cmpT _ _ _ _ _ _ _ _ _ _ _ (@den_nm _ _ _ _ _ _ _ (mm 0 rfl) rfl) (@den_nm _ _ _ _ _ _ _ (mm 3 rfl) rfl) (@fn_eq _ _) rfl)) (@den_nm _ _ _ _ _ _ _ (mm 2 rfl) rfl) (fun _ _ => rfl) (mm 13 rfl) (by intro env h; first | rfl | (obtain ⟨⟩ := env; cases h; rfl))) ?_
    refine @den_cons _ _ _ _ _ _ _ _ (@den_asgLcV _ _ _ _ _ _ _ _ _ _ _ _ _ _ _ _ _ _ _ _ (by decide +kernel) (@den_nm _ _ _ _ _ _ _ (mm 1 rfl) rfl) (@den_tupT _ _ _ _ _ _ _ _ _ (@den_asCons _ _ _ _ _ _ _ _ _ (fun _ _ h => .inl h) (@den_nmAL _ _ _ _ _ _ _ (mm 0 rfl) rfl) (@den_asCons _ _ _ _ _ _ _ _ _ (fun _ _ h => .inl h) (@den_nmAL _ _ _ _ _ _ _ (mm 1 rfl) rfl) (@den_asCons _ _ _ _ _ _ _ _ _ (fun _ _ h => .inl h) (@den_nmAL _ _ _ _ _ _ _ (mm 2 rfl) rfl) (@den_asNil _ _ _ _ _) rfl) rfl) rfl) rfl rfl) (@den_if1 _ _ _ _ _ _ (@den_cmpT _ _ _ _ _ _ _ _ _ _ _ (@den_idx _ _ _ _ _ _ _ _ _ (@den_nm _ _ _ _ _ _ _ (mm 0 rfl) rfl) (@den_int _ _ _ _ _ _ _) (fun _ _ => rfl)) (@den_idx _ _ _ _ _ _ _ _ _ (@den_nm _ _ _ _ _ _ _ (mm 3 rfl) rfl) (@den_int _ _ _ _ _ _ _) (fun _ _ => rfl)) (@fn_eq _ _) rfl)) (@den_nm _ _ _ _ _ _ _ (mm 2 rfl) rfl) (fun _ _ => rfl) (mm 14 rfl) (by intro env h; first | rfl | (obtain ⟨⟩ := env; cases h; rfl))) ?_
    refine @den_cons _ _ _ _ _ _ _ _ (@den_asgLcV _ _ _ _ _ _ _ _ _ _ _ _ _ _ _ _ _ _ _ _ (by decide +kernel) (@den_nm _ _ _ _ _ _ _ (mm 1 rfl) rfl) (@den_tupT _ _ _ _ _ _ _ _ _ (@den_asCons _ _ _ _ _ _ _ _ _ (fun _ _ h => .inl h) (@den_nmAL _ _ _ _ _ _ _ (mm 0 rfl) rfl) (@den_asCons _ _ _ _ _ _ _ _ _ (fun _ _ h => .inl h) (@den_nmAL _ _ _ _ _ _ _ (mm 1 rfl) rfl) (@den_asCons _ _ _ _ _ _ _ _ _ (fun _ _ h => .inl h) (@den_nmAL _ _ _ _ _ _ _ (mm 2 rfl) rfl) (@den_asNil _ _ _ _ _) rfl) rfl) rfl) rfl rfl) (@den_if0 _ _ _ _) (@den_tup _ _ _ _ _ _ _ _ (@den_argC _ _ _ _ _ _ _ _ (@den_nm _ _ _ _ _ _ _ (mm 1 rfl) rfl) (@den_argC _ _ _ _ _ _ _ _ (@den_nm _ _ _ _ _ _ _ (mm 2 rfl) rfl) (@den_argNil _ _ _ _) rfl) rfl) (Nat.le_of_ble_eq_true rfl)) (fun _ _ => rfl) (mm 15 rfl) (by intro env h; first | rfl | (obtain ⟨⟩ := env; cases h; rfl))) ?_
    refine @den_cons _ _ _ _ _ _ _ _ (@den_expr _ _ _ _ _ _ _ (@den_meth _ _ _ _ O _ _ _ _ _ _ _ _ _ _ (@den_nm _ _ _ _ _ _ _ (mm 2 rfl) rfl) (@meth_append _) Keep.builtin (@fn_app _ _) (@den_argC _ _ _ _ _ _ _ _ (@den_tup _ _ _ _ _ _ _ _ (@den_argC _ _ _ _ _ _ _ _ (@den_nm _ _ _ _ _ _ _ (mm 12 rfl) rfl) (@den_argC _ _ _ _ _ _ _ _ (@den_nm _ _ _ _ _ _ _ (mm 15 rfl) rfl) (@den_argC _ _ _ _ _ _ _ _ (@den_nm _ _ _ _ _ _ _ (mm 13 rfl) rfl) (@den_argC _ _ _ _ _ _ _ _ (@den_ifE _ _ _ _ _ _ _ _ _ _ _ (@den_cmpT _ _ _ _ _ _ _ _ _ _ _ (@den_nm _ _ _ _ _ _ _ (mm 13 rfl) rfl) (@den_lst _ _ _ _ _ _ _ (@den_argNil _ _ _ _) (Nat.le_of_ble_eq_true rfl)) (@fn_ne _ _) rfl) (@den_idx _ _ _ _ _ _ _ _ _ (@den_nm _ _ _ _ _ _ _ (mm 13 rfl) rfl) (@den_int _ _ _ _ _ _ _) (fun _ _ => rfl)) (@den_str _ _ _ _ _ _ _)) (@den_argC _ _ _ _ _ _ _ _ (@den_nm _ _ _ _ _ _ _ (mm 14 rfl) rfl) (@den_argNil _ _ _ _) rfl) rfl) rfl) rfl) rfl) (Nat.le_of_ble_eq_true rfl)) (@den_argNil _ _ _ _) rfl) rfl (fun env _ => ⟨_, rfl⟩)) (fun _ => rfl)) ?_
    exact @den_nil _ _ _ _
  refine @den_cons _ _ _ _ _ _ _ _ (@den_ret _ _ _ _ _ _ _ (@den_nm _ _ _ _ _ _ _ (mm 2 rfl) rfl)) ?_
  exact @den_nil _ _ _ _
theorem shape_dueF1 : FnShape (cx1 w h₀ mg mb lf) 283 (fdIn (cx1 w h₀ mg mb lf).K 283) (bodyIn (cx1 w h₀ mg mb lf).K 283) ["rows"] dueF1_vars 30 := FnShape.of (by kernel_rfl)
theorem code_dueF1 (O : (cx1 w h₀ mg mb lf).Ok) : CodeOk (cx1 w h₀ mg mb lf) 5 (fun xs => .call (.ref 283) ⟨xs, []⟩) (dueF1 (ad1 LF)) :=
  (code_fn O shape_dueF1 (@den_dueF1 _ _ _ _ _ _ O) (Binds.of1 (mk := fun xs => ⟨xs, []⟩) fun a => by kernel_rfl) rfl).tr
theorem ok_dueF1 (O : (cx1 w h₀ mg mb lf).Ok) : FnOk (cx1 w h₀ mg mb lf) 5 (fun xs => call (.ref 283) xs) (dueF1 (ad1 LF)) := (@code_dueF1 _ _ _ _ _ _ O).fn
theorem kp_dueF1 : Keep (cx1 w h₀ mg mb lf) (.ref 283) := Keep.K (by kernel_rfl)
theorem g_law_due : nsIn (cx1 w h₀ mg mb lf).K mainGlobals "_law_due" = some (some (.ref 283)) := by kernel_rfl
theorem shape_lawF1 : FnShape (cx1 w h₀ mg mb lf) 290 (fdIn (cx1 w h₀ mg mb lf).K 290) (bodyIn (cx1 w h₀ mg mb lf).K 290) ["script"] lawF1_vars 2 := FnShape.of (by kernel_rfl)
end
end Mine
namespace Mine
open PySem PySem.Spec PySem.Calls PyProof.Rows PySem.W
section
variable {w : World} {h₀ : Heap} {mg mb : Str → Option Value}
theorem g_law : nsIn (cx1 w h₀ mg mb none).K mainGlobals "law" = some (some (.ref 290)) := by kernel_rfl
theorem lawB (O : (cx1 w h₀ mg mb none).Ok) (LF : Addr) : LawB (cx1 w h₀ mg mb none) lawF1_vars (fdIn (cx1 w h₀ mg mb none).K 290).scope (callE (rowsF1 (ad1 LF)) [nmE 0]) (callE (dueF1 (ad1 LF)) [nmE 1]) 271 (bodyIn (cx1 w h₀ mg mb none).K 290) := by
  conv => enter [3]; whnf
  conv => enter [7]; whnf
  exact .mk (@den_asg _ _ _ _ _ _ _ _ _ _ (@den_call _ _ _ _ O _ _ _ _ _ _ _ (@den_gl _ _ _ _ O _ _ _ rfl g_law_rows rfl) kp_rowsF1 (@FnOk.le _ _ _ _ _ (@ok_rowsF1 _ _ _ _ _ _ O) (by decide)) (@den_argC _ _ _ _ _ _ _ _ (@den_nm _ _ _ _ _ _ _ (mm 0 rfl) rfl) (@den_argNil _ _ _ _) rfl) rfl) (mm 1 rfl) (by intro env h; first | rfl | (obtain ⟨⟩ := env; cases h; rfl)))
    (@den_gl _ _ _ _ O _ _ _ rfl g_law_told rfl) (@den_nm _ _ _ _ _ _ _ (mm 1 rfl) rfl) rfl
    (@den_call _ _ _ _ O _ _ _ _ _ _ _ (@den_gl _ _ _ _ O _ _ _ rfl g_law_due rfl) kp_dueF1 (@FnOk.le _ _ _ _ _ (@ok_dueF1 _ _ _ _ _ _ O) (by decide)) (@den_argC _ _ _ _ _ _ _ _ (@den_nm _ _ _ _ _ _ _ (mm 1 rfl) rfl) (@den_argNil _ _ _ _) rfl) rfl) rfl
theorem law_call (O : (cx1 w h₀ mg mb none).Ok) {s : Shared} {F : Addr → Prop} {sv rv v v' : V} {x : Value} {Q E : Value → Shared → Prop} (H : HInv lay1 F h₀ [] [] s.heap) (r : VR lay1 F [] s.heap sv x)
    (e0 : ∀ LF, rowsF1 (ad1 LF) [sv] [] = some (rv, [])) (e1 : ∀ LF, toldF1 (ad1 LF) [rv] [.frm LF ["script", "rows"] [sv, rv]] = some (v, [.frm LF ["script", "rows"] [sv, rv]])) (ev : V.lowB 0 v = true) (e2 : ∀ LF, dueF1 (ad1 LF) [rv] [] = some (v', [])) (e3 : eqF false [v, v'] [] = some (.bool true, []))
    (q : ∀ s', HInv lay1 F h₀ [] [] s'.heap → Adv [] [] s [] [] s' NoW → Q (.bool true) s') : wpAny (model (cx1 w h₀ mg mb none).prog w) callerA (call (.ref 290) [x]) Q E s := by
  have S := @shape_lawF1 w h₀ mg mb none
  have hA8 : AOk (cx1 w h₀ mg mb none) 8 callerA := ⟨fun el e => (by cases e), rfl, by decide +kernel, by decide +kernel, rfl⟩
  obtain ⟨oc, od, osl, look⟩ := S.look
  refine wpAny_call (codeAny_call_function hA8.room ((O.atK H) _ _ look) rfl S.co S.gen S.stmts (codeRec_of (O.atK H) S.code) ?_)
  have B : Binds (cx1 w h₀ mg mb none).K (fdIn (cx1 w h₀ mg mb none).K 290) (fun xs => ⟨xs, []⟩) ["script"] false := Binds.of1 (mk := fun xs => ⟨xs, []⟩) fun a => by kernel_rfl
  refine B _ _ _ _ _ [x] (O.atK H) rfl ?_
  simp only [Bool.false_eq_true, if_false]
  refine code_enter O S H (.cons r .nil) rfl fun env h' tk eS eF eC notOwn hk H' I' => codeAny_func ?_
  have hkind : env.scope.kind ≠ .module := by rw [I'.kind]; decide
  have hcl : ∀ y, env.cells.lookup y = none := fun y => by
    rw [eC]
    have : cellsFrom (s.heap.objs.size + 1) (fdIn (cx1 w h₀ mg mb none).K 290).scope.names [] = [] := by kernel_rfl
    rw [this]; rfl
  have O' : (cx1 w h₀ mg mb (some env)).Ok := ⟨O.kin, O.g, O.b, O.builtins, O.nolimit⟩
  refine law_body O (told := fun LF => toldF1 (ad1 LF)) (lawB O env.locals) (s := { s with heap := h', toks := tk }) (v := v) (v' := v') (rv := rv) (sv := sv) ⟨eS, fun el e => (by cases e)⟩ (hA8.deeper env) (Around.frames_deeper rfl) hcl kp_toldF1 H' I' (@ok_toldF1 w h₀ mg mb (some env) env.locals O' env rfl hkind eF) (by decide)
    (by simp only [callE, argsE, nmE]; exact e0 _) (fun L => e1 L) ev (by simp only [callE, argsE, nmE]; exact e2 _) e3 fun s' H₁ A₁ => ?_
  refine q s' (H₁.lessF fun a f => .inl f) ⟨A₁.tl.elim fun tl z => ⟨[], rfl, by simp⟩, fun _ _ x => x, fun b o e nl _ => A₁.keep b o (hk b o e) (fun z => by obtain ⟨n, z, _⟩ := z; simp at z) (notOwn b o e), fun b o e => A₁.there b o (hk b o e), A₁.gens, A₁.drawn, A₁.os⟩
end
end Mine
namespace Mine
open PySem PySem.Spec PySem.Calls PyProof.Rows PySem.W
noncomputable def lw (x : Str) : Str := Txt.lower x
noncomputable def tb (es : List (Str × Str)) : List V := es.map fun p => .tup [.str p.1, .str p.2]
structure NmOk (x : Str) : Prop where
  g : goodS badN x = true
  gl : goodS badN (lw x) = true
  z : Nat.ble (lw x).length smax = true
theorem low_run {x : Str} (h : NmOk x) (σ : Hp) : lowF [.str x] σ = some (.str (lw x), σ) := by
  have h2 := h.z
  unfold lw at *
  simp only [lowF, h2, if_true]
theorem set_same {σ : Hp} {m : Nat} {o : SO} (h : σ[m]? = some o) : σ.set m o = σ := by
  obtain ⟨hl, e⟩ := List.getElem?_eq_some_iff.mp h
  rw [← e, List.set_getElem_self]
theorem idx_zero (x y : V) (σ : Hp) : idxF [.tup [x, y], .int 0] σ = some (x, σ) := by simp [idxF, okI, ixOf]
theorem idx_one (x y : V) (σ : Hp) : idxF [.tup [x, y], .int 1] σ = some (y, σ) := by simp [idxF, okI, ixOf]
theorem cat_good (a : Ad) (self : V) {x : Str} (h : goodS badN x = true) (σ : Hp) : hd_cst a [self, .str x, .bool true] σ = some (.str x, σ) := cst_run a self x true σ (by simp) (by simpa using h)
theorem del_cmp {x : Str} (s0 : Option V) : ∀ (es : List (Str × Str)) (t : Option V) (τ : Hp), (∀ p ∈ es, NmOk p.1) →
    cmpL (nmA 2) (cmT (op2 (eqF true) (methE chkStr lowF (op2 idxF (nmE 2) (kE (.int 0))) []) (nmE 1))) (nmE 2) (tb es) [s0, some (.str (lw x)), t] τ = some (tb (es.filter fun p => !(lw p.1 == lw x)), τ) := by
  intro es
  induction es with
  | nil => intro t τ _; rfl
  | cons p es ih =>
    intro t τ hk
    have hp := hk p (by simp)
    have ih := ih (some (.tup [.str p.1, .str p.2])) τ fun j hj => hk j (by simp [hj])
    cases e : (lw p.1 == lw x)
    · simp [tb, cmpL, idx_zero, low_run hp, e] at ih ⊢
      rw [ih]
    · simp [tb, cmpL, idx_zero, low_run hp, e] at ih ⊢
      exact ih
theorem tb_len (es : List (Str × Str)) : (tb es).length = es.length := by simp [tb]
theorem del_run (a : Ad) {σ : Hp} {self : V} {m : Nat} {es : List (Str × Str)} {x : Str} (h : hdrs a σ self = some (m, tb es)) (hk : ∀ p ∈ es, NmOk p.1) (hx : NmOk x) (hn : es.length ≤ 1000) :
    hd_delitem a [self, .str x] σ = some (.none, σ.set m (.lst (tb (es.filter fun p => !(lw p.1 == lw x))))) := by
  obtain ⟨g1, g2, g3⟩ := hdrs_atF h
  have hc := cat_good a self hx.gl σ
  have hcm := del_cmp (x := x) (some self) es none (σ.set m .dead) hk
  have l2 : (es.filter fun p => !(lw p.1 == lw x)).length ≤ es.length := List.length_filter_le _ _
  have b2 : Nat.ble ((tb es).length + (tb (es.filter fun p => !(lw p.1 == lw x))).length) lmax = true := ble_lmax _ (by rw [tb_len, tb_len]; omega)
  have sm : (σ.set m .dead).set m (.lst (tb es)) = σ := by rw [List.set_set, set_same g3]
  unfold hd_delitem fnF
  rw [if_pos (by rfl)]
  simp only [hd_delitem_sh]
  show (match seqS _ _ [some self, some (.str x), none] σ with | some (.ret v, _, σ') => some (v, σ') | some (.next, _, σ') => some (V.none, σ') | _ => none) = _
  rw [seq_go (loc₁ := [some self, some (.str (lw x)), none]) (σ₁ := σ) (by simp [g2, low_run hx, hc]) rfl]
  have hcv : cmpV hd_delitem_vars0 [2] (nmA 2) (cmT (op2 (eqF true) (methE chkStr lowF (op2 idxF (nmE 2) (kE (.int 0))) []) (nmE 1))) (nmE 2) (op1 (atF a.HD 0) (nmE 0)) [some self, some (.str (lw x)), none] σ = some (.lst (tb (es.filter fun p => !(lw p.1 == lw x))), σ) := by
    have := cmp_go2 (is := [2]) (tgt := nmA 2) (test := cmT (op2 (eqF true) (methE chkStr lowF (op2 idxF (nmE 2) (kE (.int 0))) []) (nmE 1))) (elt := nmE 2) (fi := op1 (atF a.HD 0) (nmE 0)) (loc := [some self, some (.str (lw x)), none]) (σ := σ) (σ₁ := σ) (v := .ref m) (ws := tb es) (b := some m) (by simp [g1]) rfl (by simp only [srcOf, g3]) (by rw [tb_len]; omega) hcm
    rw [show cmpV hd_delitem_vars0 [2] (nmA 2) (cmT (op2 (eqF true) (methE chkStr lowF (op2 idxF (nmE 2) (kE (.int 0))) []) (nmE 1))) (nmE 2) (op1 (atF a.HD 0) (nmE 0)) = cmpE [2] (nmA 2) (cmT (op2 (eqF true) (methE chkStr lowF (op2 idxF (nmE 2) (kE (.int 0))) []) (nmE 1))) (nmE 2) (op1 (atF a.HD 0) (nmE 0)) from rfl, this]
    simp only [giveBack, sm]
  rw [seq_go (loc₁ := [some self, some (.str (lw x)), none]) (σ₁ := σ.set m (.lst (tb (es.filter fun p => !(lw p.1 == lw x))))) (by rw [asgT_e, hcv]; simp [stSl, g1, g3, b2]) rfl]
  rfl
theorem hdrs_set {a : Ad} {σ : Hp} {self : V} {m : Nat} {items ws : List V} (h : hdrs a σ self = some (m, items)) (hne : ∀ C n, self = .inst C n → n ≠ m) : hdrs a (σ.set m (.lst ws)) self = some (m, ws) := by
  have hm := lt_of_get (hdrs_atF h).2.2
  unfold hdrs at h ⊢
  split at h
  · rename_i C m' e
    split at h
    · rename_i hC
      split at h
      · rename_i its e2
        cases h
        have e' : attrs? (σ.set m (.lst ws)) self = some (C, [.ref m]) := by
          unfold attrs? at e ⊢
          split at e
          · exact e
          · rename_i C1 n1
            rw [List.getElem?_set_ne (fun z => hne C1 n1 rfl z.symm)]
            exact e
          · cases e
        simp [e', hC, hm]
      · cases h
    · cases h
  · cases h
theorem tb_app (es : List (Str × Str)) (x y : Str) : tb es ++ [.tup [.str x, .str y]] = tb (es ++ [(x, y)]) := by simp [tb]
theorem app_line (a : Ad) (hpv : Nat.beq a.pV a.pN = false) {σ : Hp} {self : V} {m : Nat} {es : List (Str × Str)} {x y : Str} (h : hdrs a σ self = some (m, tb es)) (hx : goodS badN x = true) (hy : goodS badV y = true) (hn : es.length ≤ 1000) (r : List (Option V)) :
    exprS (methE chkRef appF (op1 (atF a.HD 0) (nmE 0)) [tupE [methKwE (chkI a.HD) (hd_cst a) (nmE 0) [nmE 1] true, methKwE (chkI a.HD) (hd_cst a) (nmE 0) [nmE 2] false]]) (some self :: some (.str x) :: some (.str y) :: r) σ
      = some (.next, some self :: some (.str x) :: some (.str y) :: r, σ.set m (.lst (tb (es ++ [(x, y)])))) := by
  obtain ⟨g1, g2, g3⟩ := hdrs_atF h
  have hc := cat_good a self hx σ
  have hc2 := cst_run a self y false σ (fun _ => hpv) (by simpa using hy)
  have b : (tb es).length ≤ lmax := by rw [tb_len]; unfold lmax; omega
  simp [g1, g2, g3, hc, hc2, b, tb_app]
theorem set_run (a : Ad) (hpv : Nat.beq a.pV a.pN = false) {σ : Hp} {self : V} {m : Nat} {es : List (Str × Str)} {x y : Str} (h : hdrs a σ self = some (m, tb es)) (hne : ∀ C n, self = .inst C n → n ≠ m) (hk : ∀ p ∈ es, NmOk p.1) (hx : NmOk x) (hy : goodS badV y = true) (hn : es.length ≤ 1000) :
    hd_setitem a [self, .str x, .str y] σ = some (.none, σ.set m (.lst (tb ((es.filter fun p => !(lw p.1 == lw x)) ++ [(x, y)])))) := by
  have hd := del_run a h hk hx hn
  obtain ⟨g1, g2, g3⟩ := hdrs_atF h
  have h1 := hdrs_set (ws := tb (es.filter fun p => !(lw p.1 == lw x))) h hne
  have ha := app_line a hpv (y := y) h1 hx.g hy (Nat.le_trans (List.length_filter_le _ _) hn) []
  unfold hd_setitem fnF
  rw [if_pos (by rfl)]
  simp only [hd_setitem_sh]
  show (match seqS _ _ [some self, some (.str x), some (.str y)] σ with | some (.ret v, _, σ') => some (v, σ') | some (.next, _, σ') => some (V.none, σ') | _ => none) = _
  rw [seq_go (loc₁ := [some self, some (.str x), some (.str y)]) (σ₁ := σ.set m (.lst (tb (es.filter fun p => !(lw p.1 == lw x))))) (by simp only [delS, nmE_e]; simp [g2, hd]) (seq_go ha rfl)]
  simp
theorem get_loop (a : Ad) {x : Str} (s0 s2 : Option V) : ∀ (es : List (Str × Str)) (t3 t4 : Option V) (τ : Hp), (∀ p ∈ es, NmOk p.1) → ∃ t3' t4',
    forL (tupT [nmA 3, nmA 4]) (hd_get_b0 a) (tb es) [s0, some (.str (lw x)), s2, t3, t4] τ = some (match es.find? fun p => lw p.1 == lw x with | some p => .ret (.str p.2) | none => .next, [s0, some (.str (lw x)), s2, t3', t4'], τ) := by
  intro es
  induction es with
  | nil => intro t3 t4 τ _; exact ⟨t3, t4, rfl⟩
  | cons p es ih =>
    intro t3 t4 τ hk
    have hp := hk p (by simp)
    obtain ⟨u3, u4, ih⟩ := ih (some (.str p.1)) (some (.str p.2)) τ fun j hj => hk j (by simp [hj])
    cases e : (lw p.1 == lw x)
    · refine ⟨u3, u4, ?_⟩
      simp [tb, hd_get_b0] at ih
      simp [tb, forL, hd_get_b0, low_run hp, e, ih]
    · refine ⟨some (.str p.1), some (.str p.2), ?_⟩
      simp [tb, forL, hd_get_b0, low_run hp, e]
theorem get_run (a : Ad) {σ : Hp} {self dv : V} {m : Nat} {es : List (Str × Str)} {x : Str} (h : hdrs a σ self = some (m, tb es)) (hk : ∀ p ∈ es, NmOk p.1) (hx : NmOk x) :
    hd_get a [self, .str x, dv] σ = some (match es.find? fun p => lw p.1 == lw x with | some p => .str p.2 | none => dv, σ) := by
  obtain ⟨g1, g2, g3⟩ := hdrs_atF h
  have hc := cat_good a self hx.gl σ
  obtain ⟨u3, u4, e⟩ := get_loop a (x := x) (some self) (some dv) es none none (σ.set m .dead) hk
  have sm : (σ.set m .dead).set m (.lst (tb es)) = σ := by rw [List.set_set, set_same g3]
  unfold hd_get fnF
  rw [if_pos (by rfl)]
  simp only [hd_get_sh]
  show (match seqS _ _ [some self, some (.str x), some dv, none, none] σ with | some (.ret v, _, σ') => some (v, σ') | some (.next, _, σ') => some (V.none, σ') | _ => none) = _
  rw [seq_go (loc₁ := [some self, some (.str (lw x)), some dv, none, none]) (σ₁ := σ) (by simp [g2, low_run hx, hc]) rfl]
  have hf := forS_go (tgt := tupT [nmA 3, nmA 4]) (fb := hd_get_b0 a) (fi := op1 (atF a.HD 0) (nmE 0)) (loc := [some self, some (.str (lw x)), some dv, none, none]) (σ := σ) (σ₁ := σ) (v := .ref m) (ws := tb es) (b := some m) (by simp [g1]) (by simp only [srcOf, g3]) e
  rw [seqS_e, hf]
  simp only [giveBack, sm]
  cases hq : es.find? fun p => lw p.1 == lw x <;> simp
theorem get1_run (a : Ad) {σ : Hp} {self : V} {m : Nat} {es : List (Str × Str)} {x : Str} (h : hdrs a σ self = some (m, tb es)) (hk : ∀ p ∈ es, NmOk p.1) (hx : NmOk x) :
    hd_get1 a [self, .str x] σ = some (match es.find? fun p => lw p.1 == lw x with | some p => .str p.2 | none => .none, σ) := by
  unfold hd_get1 dfF
  rw [if_pos (by rfl)]
  exact get_run a h hk hx
theorem sdef_run (a : Ad) (hpv : Nat.beq a.pV a.pN = false) {σ : Hp} {self : V} {m : Nat} {es : List (Str × Str)} {x y : Str} (h : hdrs a σ self = some (m, tb es)) (hk : ∀ p ∈ es, NmOk p.1) (hx : NmOk x) (hy : goodS badV y = true) (hn : es.length ≤ 1000) :
    hd_setdefault a [self, .str x, .str y] σ = some (match es.find? fun p => lw p.1 == lw x with | some p => (.str p.2, σ) | none => (.str y, σ.set m (.lst (tb (es ++ [(x, y)]))))) := by
  obtain ⟨g1, g2, g3⟩ := hdrs_atF h
  have hg := get1_run a h hk hx
  unfold hd_setdefault fnF
  rw [if_pos (by rfl)]
  simp only [hd_setdefault_sh]
  show (match seqS _ _ [some self, some (.str x), some (.str y), none] σ with | some (.ret v, _, σ') => some (v, σ') | some (.next, _, σ') => some (V.none, σ') | _ => none) = _
  rw [seq_go (loc₁ := [some self, some (.str x), some (.str y), some (match es.find? fun p => lw p.1 == lw x with | some p => .str p.2 | none => .none)]) (σ₁ := σ) (by simp [g2, hg]) rfl]
  cases hq : es.find? fun p => lw p.1 == lw x with
  | some p => simp
  | none =>
    have ha := app_line a hpv (y := y) h hx.g hy hn [some .none]
    simp [-exprS_e, ha]
theorem addh_go (a : Ad) {σ : Hp} {self : V} {m : Nat} {es : List (Str × Str)} {x y : Str} (h : hdrs a σ self = some (m, tb es)) (hx : goodS badN x = true) (hy : goodS badV y = true) (hl : y.length ≤ 1000) (hn : es.length ≤ 1000) :
    hd_addh a [self, .str x, .str y] σ = some (.none, σ.set m (.lst (tb (es ++ [(x, y)])))) := by
  have b : Nat.ble (tb es).length lmax = true := ble_lmax _ (by rw [tb_len]; omega)
  have b2 : Nat.ble y.length 1000 = true := ble_of hl
  simp only [hd_addh, h, hx, hy, b2, Bool.and_self, if_true, addTo, b, tb_app]
theorem vals_cmp : ∀ (es : List (Str × Str)) (l0 t1 t2 : Option V) (τ : Hp),
    cmpL (tupT [nmA 1, nmA 2]) ttT (nmE 2) (tb es) [l0, t1, t2] τ = some (es.map fun p => .str p.2, τ) := by
  intro es
  induction es with
  | nil => intro l0 t1 t2 τ; rfl
  | cons p es ih =>
    intro l0 t1 t2 τ
    have ih := ih l0 (some (.str p.1)) (some (.str p.2)) τ
    simp [tb] at ih
    simp [tb, cmpL, ih]
theorem vals_run (a : Ad) {σ : Hp} {self : V} {m : Nat} {es : List (Str × Str)} (h : hdrs a σ self = some (m, tb es)) (hn : es.length ≤ 1000) : hd_values a [self] σ = some (.lst (es.map fun p => .str p.2), σ) := by
  obtain ⟨g1, g2, g3⟩ := hdrs_atF h
  have sm : (σ.set m .dead).set m (.lst (tb es)) = σ := by rw [List.set_set, set_same g3]
  have b1 : (tb es).length ≤ 1000000 := by rw [tb_len]; omega
  have hc := vals_cmp es (some self) none none (σ.set m .dead)
  simp [hd_values, fnF, hd_values_sh, locOf, cmpV, cmpE, g1, V.notS, V.isS, srcOf, g3, b1, clr, lend, giveBack, hc, sm]
theorem items_run (a : Ad) {σ : Hp} {self : V} {m : Nat} {es : List (Str × Str)} (h : hdrs a σ self = some (m, tb es)) (hn : es.length ≤ 1000) : hd_items a [self] σ = some (.lst (tb es), σ) := by
  obtain ⟨g1, g2, g3⟩ := hdrs_atF h
  have b : (tb es).length ≤ lmax := by rw [tb_len]; unfold lmax; omega
  simp [hd_items, fnF, hd_items_sh, locOf, g1, cpyF, lstOf, g3, b]
theorem all_cmp {x : Str} (s0 : Option V) : ∀ (es : List (Str × Str)) (t : Option V) (τ : Hp), (∀ p ∈ es, NmOk p.1) →
    cmpL (nmA 2) (cmT (op2 (eqF false) (methE chkStr lowF (op2 idxF (nmE 2) (kE (.int 0))) []) (nmE 1))) (op2 idxF (nmE 2) (kE (.int 1))) (tb es) [s0, some (.str (lw x)), t] τ = some ((es.filter fun p => lw p.1 == lw x).map fun p => .str p.2, τ) := by
  intro es
  induction es with
  | nil => intro t τ _; rfl
  | cons p es ih =>
    intro t τ hk
    have hp := hk p (by simp)
    have ih := ih (some (.tup [.str p.1, .str p.2])) τ fun j hj => hk j (by simp [hj])
    cases e : (lw p.1 == lw x)
    · simp [tb, cmpL, idx_zero, idx_one, low_run hp, e] at ih ⊢
      exact ih
    · simp [tb, cmpL, idx_zero, idx_one, low_run hp, e] at ih ⊢
      rw [ih]
theorem all_run (a : Ad) {σ : Hp} {self : V} {m : Nat} {es : List (Str × Str)} {x : Str} (h : hdrs a σ self = some (m, tb es)) (hk : ∀ p ∈ es, NmOk p.1) (hx : NmOk x) (hn : es.length ≤ 1000) :
    hd_get_all a [self, .str x] σ = some (.lst ((es.filter fun p => lw p.1 == lw x).map fun p => .str p.2), σ) := by
  obtain ⟨g1, g2, g3⟩ := hdrs_atF h
  have hc := cat_good a self hx.gl σ
  have hcm := all_cmp (x := x) (some self) es none (σ.set m .dead) hk
  have sm : (σ.set m .dead).set m (.lst (tb es)) = σ := by rw [List.set_set, set_same g3]
  unfold hd_get_all fnF
  rw [if_pos (by rfl)]
  simp only [hd_get_all_sh]
  show (match seqS _ _ [some self, some (.str x), none] σ with | some (.ret v, _, σ') => some (v, σ') | some (.next, _, σ') => some (V.none, σ') | _ => none) = _
  rw [seq_go (loc₁ := [some self, some (.str (lw x)), none]) (σ₁ := σ) (by simp [g2, low_run hx, hc]) rfl]
  have := cmp_go2 (is := [2]) (tgt := nmA 2) (test := cmT (op2 (eqF false) (methE chkStr lowF (op2 idxF (nmE 2) (kE (.int 0))) []) (nmE 1))) (elt := op2 idxF (nmE 2) (kE (.int 1))) (fi := op1 (atF a.HD 0) (nmE 0)) (loc := [some self, some (.str (lw x)), none]) (σ := σ) (σ₁ := σ) (v := .ref m) (ws := tb es) (b := some m) (by simp [g1]) rfl (by simp only [srcOf, g3]) (by rw [tb_len]; omega) hcm
  rw [seqS_e, retS_e, show cmpV hd_get_all_vars0 [2] (nmA 2) (cmT (op2 (eqF false) (methE chkStr lowF (op2 idxF (nmE 2) (kE (.int 0))) []) (nmE 1))) (op2 idxF (nmE 2) (kE (.int 1))) (op1 (atF a.HD 0) (nmE 0)) = cmpE [2] (nmA 2) (cmT (op2 (eqF false) (methE chkStr lowF (op2 idxF (nmE 2) (kE (.int 0))) []) (nmE 1))) (op2 idxF (nmE 2) (kE (.int 1))) (op1 (atF a.HD 0) (nmE 0)) from rfl, this]
  simp only [giveBack, sm]
end Mine
namespace Mine
open PySem PySem.Spec PySem.Calls PyProof.Rows PySem.W
noncomputable def nrm (x : Str) : List Int × Nat := ((scan0 x).cnt, (scan0 x).b)
theorem depth_ints : ∀ l : List Int, PyData.depthAll (l.map .int) = 0 := by
  intro l
  induction l with
  | nil => rfl
  | cons i l ih => simp [PyData.depthAll, PyData.depth, ih]
theorem datas_ints : ∀ l : List Int, V.datas (l.map .int) = some (l.map .int) := by
  intro l
  induction l with
  | nil => rfl
  | cons i l ih => simp [V.datas, V.data, ih]
theorem eqvAll_ints : ∀ l m : List Int, PyData.eqvAll (l.map .int) (m.map .int) = decide (l = m) := by
  intro l
  induction l with
  | nil => intro m; cases m <;> simp [PyData.eqvAll]
  | cons i l ih =>
    intro m
    cases m with
    | nil => simp [PyData.eqvAll]
    | cons j m => simp [PyData.eqvAll, ih, PyData.eqv]; by_cases h : i = j <;> simp [h]
theorem wat_norm (a : Ad) (x : Str) (σ : Hp) : atF a.WS 3 [wsV a x (scan0 x)] σ = some (.tup [.tup ((nrm x).1.map .int), .int (nrm x).2], σ) := by simp [atF, attrs?, wsV, wsL, V.notG, nrm]
theorem chk_ws (a : Ad) (x : Str) (σ : Hp) : chkI a.WS σ (wsV a x (scan0 x)) = true := by simp [chkI, attrs?, wsV]
theorem equal_run (a : Ad) (x y : Str) (σ : Hp) : ws_equal a [wsV a x (scan0 x), wsV a y (scan0 y)] σ = some (.bool (decide (nrm x = nrm y)), σ) := by
  have : eqF false [.tup [.tup ((nrm x).1.map .int), .int (nrm x).2], .tup [.tup ((nrm y).1.map .int), .int (nrm y).2]] σ = some (.bool (decide (nrm x = nrm y)), σ) := by
    generalize nrm x = f
    generalize nrm y = g
    obtain ⟨f, i⟩ := f
    obtain ⟨g, j⟩ := g
    simp [eqF, V.data, V.datas, datas_ints, PyData.eqv, PyData.eqvAll, eqvAll_ints, PyData.depth, PyData.depthAll, depth_ints]
    by_cases h : f = g <;> by_cases h2 : i = j <;> simp [h, h2] <;> omega
  simp [ws_equal, fnF, ws_equal_sh, locOf, wat_norm, this]
noncomputable def mulO (s : Str) (n : Int) : Option Str := if Nat.ble s.length 1000 && decide (-1000 < n) && decide (n < 1000) then some (Txt.mul s n) else none
noncomputable def addO (a b : Str) : Option Str := if Nat.ble (a.length + b.length) smax then some (a ++ b) else none
theorem mul_of {s x : Str} {n : Int} (h : mulO s n = some x) (σ : Hp) : mulF [.str s, .int n] σ = some (.str x, σ) := by
  show mulS [.str s, .int n] σ = _
  unfold mulO at h
  split at h
  · rename_i hc; cases h; simp only [mulS, hc, if_true]
  · cases h
theorem add_of {a b x : Str} (h : addO a b = some x) (σ : Hp) : addF [.str a, .str b] σ = some (.str x, σ) := by
  unfold addO at h
  rw [addF_str]
  split at h
  · rename_i hc; cases h; rw [if_pos hc]
  · cases h
noncomputable def nmL : List Int → Nat → Str → Option Str
  | [], _, acc => some acc
  | c :: r, i, acc => (mulO " " i).bind fun s => (addO s "_").bind fun t => (mulO t c).bind fun u => (addO acc u).bind fun z => nmL r (i + 1) z
theorem nmL_cons {c : Int} {r : List Int} {i : Nat} {acc z : Str} (h : nmL (c :: r) i acc = some z) : ∃ s t u y, mulO " " i = some s ∧ addO s "_" = some t ∧ mulO t c = some u ∧ addO acc u = some y ∧ nmL r (i + 1) y = some z := by
  rw [nmL] at h
  obtain ⟨s, e1, h⟩ := Option.bind_eq_some_iff.mp h
  obtain ⟨t, e2, h⟩ := Option.bind_eq_some_iff.mp h
  obtain ⟨u, e3, h⟩ := Option.bind_eq_some_iff.mp h
  obtain ⟨y, e4, h⟩ := Option.bind_eq_some_iff.mp h
  exact ⟨s, t, u, y, e1, e2, e3, e4, h⟩
theorem nm_loop (a : Ad) (l0 l1 l2 l3 : Option V) (σ : Hp) : ∀ (cnt : List Int) (i : Nat) (acc z : Str) (t5 t6 : Option V), nmL cnt i acc = some z → ∃ t5' t6',
    forL (tupT [nmA 5, nmA 6]) (nameF1_b0 a) (enumL i (cnt.map .int)) [l0, l1, l2, l3, some (.str acc), t5, t6] σ = some (.next, [l0, l1, l2, l3, some (.str z), t5', t6'], σ) := by
  intro cnt
  induction cnt with
  | nil => intro i acc z t5 t6 h; cases h; exact ⟨t5, t6, rfl⟩
  | cons c r ih =>
    intro i acc z t5 t6 h
    obtain ⟨s, t, u, y, e1, e2, e3, e4, h⟩ := nmL_cons h
    obtain ⟨t5', t6', e⟩ := ih (i + 1) y z (some (.int i)) (some (.int c)) h
    refine ⟨t5', t6', ?_⟩
    have hb : nameF1_b0 a [l0, l1, l2, l3, some (.str acc), some (.int i), some (.int c)] σ = some (.next, [l0, l1, l2, l3, some (.str y), some (.int i), some (.int c)], σ) := by
      unfold nameF1_b0
      refine seq_go (loc₁ := [l0, l1, l2, l3, some (.str y), some (.int i), some (.int c)]) (σ₁ := σ) ?_ rfl
      simp only [asgS_e, op2_e, nmE_e, kE_e, List.getElem?_cons_succ, List.getElem?_cons_zero, mul_of e1, add_of e2, mul_of e3, add_of e4]
      rfl
    have ht : tupT [nmA 5, nmA 6] (.tup [.int i, .int c]) [l0, l1, l2, l3, some (.str acc), t5, t6] σ = some ([l0, l1, l2, l3, some (.str acc), some (.int i), some (.int c)], σ) := rfl
    exact for_step ht hb e
noncomputable def nmO (l w : Str) : Option Str := (addO l w).bind fun x => if ascS x then (nmL (nrm x).1 0 "").bind fun n => (mulO " " (nrm x).2).bind fun t => (addO n t).bind fun u => addO u w else none
theorem nmO_some {l w z : Str} (h : nmO l w = some z) : ∃ x n t u, addO l w = some x ∧ ascS x = true ∧ nmL (nrm x).1 0 "" = some n ∧ mulO " " (nrm x).2 = some t ∧ addO n t = some u ∧ addO u w = some z := by
  obtain ⟨x, e0, h⟩ := Option.bind_eq_some_iff.mp h
  by_cases ha : ascS x = true
  · rw [if_pos ha] at h
    obtain ⟨n, e1, h⟩ := Option.bind_eq_some_iff.mp h
    obtain ⟨t, e2, h⟩ := Option.bind_eq_some_iff.mp h
    obtain ⟨u, e3, h⟩ := Option.bind_eq_some_iff.mp h
    exact ⟨x, n, t, u, e0, ha, e1, e2, e3, h⟩
  · rw [if_neg ha] at h; cases h
theorem name_run (a : Ad) {l w z : Str} (h : nmO l w = some z) (σ : Hp) : nameF1 a [.str l, .str w] σ = some (.str z, σ) := by
  obtain ⟨x, n, t, u, e0, ha, e1, e2, e3, h⟩ := nmO_some h
  obtain ⟨t5, t6, e⟩ := nm_loop a (some (.str l)) (some (.str w)) (some (.tup ((nrm x).1.map .int))) (some (.int (nrm x).2)) σ (nrm x).1 0 "" n none none e1
  have hw : Whitespace a [.str x] σ = some (wsV a x (scan0 x), σ) := by simp only [Whitespace, ha, if_true]
  unfold nameF1 fnF
  rw [if_pos (by rfl)]
  simp only [nameF1_sh]
  show (match seqS _ _ [some (.str l), some (.str w), none, none, none, none, none] σ with | some (.ret v, _, σ') => some (v, σ') | some (.next, _, σ') => some (V.none, σ') | _ => none) = _
  rw [seq_go (loc₁ := [some (.str l), some (.str w), some (.tup ((nrm x).1.map .int)), some (.int (nrm x).2), none, none, none]) (σ₁ := σ) (by
    simp only [asgT_e, op1_e, callE_e, argsE_cons, argsE_nil, op2_e, nmE_e, List.getElem?_cons_succ, List.getElem?_cons_zero, add_of e0, hw, wat_norm]; rfl) rfl]
  rw [seq_go (loc₁ := [some (.str l), some (.str w), some (.tup ((nrm x).1.map .int)), some (.int (nrm x).2), some (.str ""), none, none]) (σ₁ := σ) rfl rfl]
  rw [seq_go (loc₁ := [some (.str l), some (.str w), some (.tup ((nrm x).1.map .int)), some (.int (nrm x).2), some (.str n), t5, t6]) (σ₁ := σ) (by simp only [enumS, nmE_e, List.getElem?_cons_succ, List.getElem?_cons_zero, seqOf, e]) rfl]
  simp only [seqS_e, retS_e, op2_e, nmE_e, kE_e, List.getElem?_cons_succ, List.getElem?_cons_zero, mul_of e2, add_of e3, add_of h]
noncomputable def colL (s : Int) : List Nat → Int → Option Int
  | [], c => some c
  | ch :: r, c => if ch = 32 then colL s r (c + 1) else if okI (c.fdiv s + 1) then colL s r ((c.fdiv s + 1) * s) else none
theorem col_loop (a : Ad) (l0 l1 : Option V) {s : Int} (hs : okI s = true) (h0 : (s != 0) = true) (σ : Hp) : ∀ (cs : List Nat) (c z : Int) (t : Option V), colL s cs c = some z → ∃ t',
    forL (nmA 4) (columnsF1_b0 a) (cs.map fun ch => .str ⟨#[ch]⟩) [l0, l1, some (.int s), some (.int c), t] σ = some (.next, [l0, l1, some (.int s), some (.int z), t'], σ) := by
  intro cs
  induction cs with
  | nil => intro c z t h; cases h; exact ⟨t, rfl⟩
  | cons ch r ih =>
    intro c z t h
    unfold colL at h
    split at h
    · rename_i hc
      subst hc
      obtain ⟨t', e⟩ := ih (c + 1) z (some (.str ⟨#[32]⟩)) h
      refine ⟨t', for_step (loc₁ := [l0, l1, some (.int s), some (.int c), some (.str ⟨#[32]⟩)]) rfl ?_ e⟩
      unfold columnsF1_b0
      exact seq_go (loc₁ := [l0, l1, some (.int s), some (.int (c + 1)), some (.str ⟨#[32]⟩)]) (σ₁ := σ) (by simp [eq_sign, str_blank]) rfl
    · rename_i hc
      split at h
      · rename_i ho
        obtain ⟨t', e⟩ := ih _ z (some (.str ⟨#[ch]⟩)) h
        have hd : divI c s = some (.int (c.fdiv s)) := by unfold divI; rw [hs, h0]; rfl
        have hm : mulF [.int (c.fdiv s + 1), .int s] σ = some (.int ((c.fdiv s + 1) * s), σ) := by
          show int2 mulI [.int (c.fdiv s + 1), .int s] σ = _
          rw [int2_e, mulI, if_pos ho]
        refine ⟨t', for_step (loc₁ := [l0, l1, some (.int s), some (.int c), some (.str ⟨#[ch]⟩)]) rfl ?_ e⟩
        unfold columnsF1_b0
        exact seq_go (loc₁ := [l0, l1, some (.int s), some (.int ((c.fdiv s + 1) * s)), some (.str ⟨#[ch]⟩)]) (σ₁ := σ) (by simp [eq_sign, str_blank, hc, hd, hm]) rfl
      · cases h
end Mine
namespace Mine
open PySem PySem.Spec PySem.Calls PyProof.Rows PySem.W
noncomputable def ms (n : Nat) : Str := Txt.mul (Str.ofString " ") (n : Int)
noncomputable def W3 (w : Nat) : Str := match w with | 0 => "Via" | 1 => "vIA" | _ => "Age"
noncomputable def V3 (w : Nat) : Str := match w with | 0 => "vIA" | 1 => "Via" | _ => "aGE"
structure R where
  o : Nat
  t : Nat
  l : Nat
  f : Nat
  w : Nat
noncomputable def R.ok (r : R) : Prop := r.o < 3 ∧ r.t < 3 ∧ r.l < 2 ∧ r.f < 3 ∧ r.w < 3
noncomputable def ldT (o t l : Nat) : Str := (((ms o ++ "\t") ++ ms t) ++ "\t") ++ ms l
noncomputable def R.ld (r : R) : Str := if r.f = 0 then ms (r.o + r.t) else ldT r.o r.t r.l
noncomputable def R.tu (r : R) : Str := if r.f = 0 then ms (r.o + r.t) else ldT r.t r.o r.l
noncomputable def R.ln (r : R) : Str := r.ld ++ W3 r.w
noncomputable def pl (p : Nat) : Str := Str.ofString (toString (p : Int))
noncomputable def R.vl (r : R) (p : Nat) : Str := r.ln ++ pl p
noncomputable def R.co (r : R) : List Int := [1, 2, 3, 4, 5].map fun s => (colL s r.ld.cps.toList 0).getD 0
noncomputable def R.lc (r : R) : Nat := if r.f = 0 then r.o + r.t else 5 + (min r.o r.t * 3 + max r.o r.t) * 2 + r.l
noncomputable def R.cl (r : R) : Nat := r.lc * 2 + r.w / 2
noncomputable def repL (c : Nat) : R := if c < 5 then ⟨min c 2, c - min c 2, 0, 0, 0⟩ else ⟨(c - 5) / 2 / 3, (c - 5) / 2 % 3, (c - 5) % 2, 1, 0⟩
noncomputable def pre (c : Nat) : Str := (nmO (repL c).ld "").getD ""
noncomputable def wd (i : Nat) : Str := match i with | 0 => "Via" | 1 => "vIA" | 2 => "Age" | _ => "aGE"
noncomputable def wi (w : Nat) : Nat := match w with | 0 => 1 | 1 => 0 | _ => 3
noncomputable def nmC (c i : Nat) : Str := pre c ++ wd i
noncomputable def lwC (k : Nat) : Str := pre (k / 2) ++ (if k % 2 = 0 then "via" else "age" : Str)
noncomputable def R.nm (r : R) : Str := nmC r.lc r.w
noncomputable def R.ot (r : R) : Str := nmC r.lc (wi r.w)
noncomputable def forR (p : R → Bool) : Bool := (List.range 3).all fun o => (List.range 3).all fun t => (List.range 2).all fun l => (List.range 3).all fun f => (List.range 3).all fun w => p ⟨o, t, l, f, w⟩
theorem forR_of {p : R → Bool} (h : forR p = true) {r : R} (hr : r.ok) : p r = true := by
  obtain ⟨o, t, l, f, w⟩ := r
  obtain ⟨h1, h2, h3, h4, h5⟩ := hr
  have a1 := List.all_eq_true.mp h o (List.mem_range.mpr h1)
  have a2 := List.all_eq_true.mp a1 t (List.mem_range.mpr h2)
  have a3 := List.all_eq_true.mp a2 l (List.mem_range.mpr h3)
  have a4 := List.all_eq_true.mp a3 f (List.mem_range.mpr h4)
  exact List.all_eq_true.mp a4 w (List.mem_range.mpr h5)
noncomputable def lcs : List Nat := [0, 1, 2, 3, 4, 5, 6, 7, 8, 9, 10, 13, 14, 15, 16, 21, 22]
noncomputable def chkA (r : R) : Bool := nmO r.ld (W3 r.w) == some r.nm && nmO r.tu (V3 r.w) == some r.ot
noncomputable def chkB (r : R) : Bool := if r.f = 0 then r.nm == r.ln && goodS badN r.ln && !hitN r.ln else hitN r.ln
noncomputable def chkC (r : R) : Bool := lcs.contains r.lc && decide ((repL r.lc).co = r.co) && decide (nrm (repL r.lc).ln = nrm r.ln) && [1, 2, 3, 4, 5].all fun s => (colL s r.ld.cps.toList 0).isSome
noncomputable def chkD : Bool := lcs.all fun c => lcs.all fun d => c == d || (decide ((repL c).co ≠ (repL d).co) && decide (nrm (repL c).ln ≠ nrm (repL d).ln))
noncomputable def chkE : Bool := (lcs.flatMap fun c => [2 * c, 2 * c + 1]).all fun k => (lcs.flatMap fun c => [2 * c, 2 * c + 1]).all fun j => k == j || !(lwC k == lwC j)
noncomputable def chkF : Bool := lcs.all fun c => (List.range 4).all fun i => lw (nmC c i) == lwC (2 * c + i / 2) && goodS badN (nmC c i) && goodS badN (lwC (2 * c + i / 2)) && Nat.ble (lwC (2 * c + i / 2)).length smax
noncomputable def smallS (x : Str) : Bool := x.cps.toList.all (fun c => !badV c && decide (c < 128)) && Nat.ble x.length 100
noncomputable def chkI1 (r : R) : Bool := smallS r.ln && r.ln.cps.toList.any (fun c => decide (c ≠ 32) && decide (c ≠ 9))
noncomputable def chkJ : Bool := (List.range 14).all fun p => smallS (pl p)
theorem okA : forR chkA = true := by decide +kernel
theorem okB : forR chkB = true := by decide +kernel
theorem okC : forR chkC = true := by decide +kernel
theorem okD : chkD = true := by decide +kernel
theorem okE : chkE = true := by decide +kernel
theorem okF : chkF = true := by decide +kernel
theorem okI1 : forR chkI1 = true := by decide +kernel
theorem okJ : chkJ = true := by decide +kernel
end Mine
namespace Mine
open PySem PySem.Spec PySem.Calls PyProof.Rows PySem.W
theorem scan_stop : ∀ (cs ds : List Nat) (s : Sc), cs.any (fun c => decide (c ≠ 32) && decide (c ≠ 9)) = true → scan (cs ++ ds) s = scan cs s := by
  intro cs
  induction cs with
  | nil => intro ds s h; simp at h
  | cons c cs ih =>
    intro ds s h
    simp only [List.cons_append, scan]
    by_cases h1 : c = 32
    · rw [if_pos h1, if_pos h1]
      refine ih ds _ ?_
      rw [List.any_cons] at h
      simpa [h1] using h
    · rw [if_neg h1, if_neg h1]
      by_cases h2 : c = 9
      · rw [if_pos h2, if_pos h2]
        refine ih ds _ ?_
        rw [List.any_cons] at h
        simpa [h2] using h
      · rw [if_neg h2, if_neg h2]
theorem app_cps (x y : Str) : (x ++ y).cps = x.cps ++ y.cps := rfl
structure VlOk (x : Str) : Prop where
  g : goodS badV x = true
  l : x.length ≤ 1000
  a : ascS x = true
  s : PySem.PyData.strOk x = true
theorem small_app {x y : Str} (hx : smallS x = true) (hy : smallS y = true) : VlOk (x ++ y) := by
  unfold smallS at hx hy
  obtain ⟨a1, a2⟩ := Bool.and_eq_true_iff.mp hx
  obtain ⟨b1, b2⟩ := Bool.and_eq_true_iff.mp hy
  have a2 := Nat.le_of_ble_eq_true a2
  have b2 := Nat.le_of_ble_eq_true b2
  have hl : (x ++ y).length = x.length + y.length := by show (x ++ y).cps.size = _; rw [app_cps, Array.size_append]; rfl
  have hc : ∀ c ∈ (x ++ y).cps.toList, badV c = false ∧ c < 128 := by
    intro c hc
    rw [app_cps, Array.toList_append, List.mem_append] at hc
    rcases hc with hc | hc
    · have := List.all_eq_true.mp a1 c hc; simpa using this
    · have := List.all_eq_true.mp b1 c hc; simpa using this
  refine ⟨?_, by omega, ?_, ?_⟩
  · unfold goodS
    rw [Bool.and_eq_true_iff]
    exact ⟨List.all_eq_true.mpr fun c h => by rw [(hc c h).1]; rfl, ble_of (by rw [hl]; unfold smax; omega)⟩
  · unfold ascS
    rw [Bool.and_eq_true_iff]
    refine ⟨?_, ble_of (by omega)⟩
    rw [← Array.all_toList]
    exact List.all_eq_true.mpr fun c h => decide_eq_true (hc c h).2
  · unfold PySem.PyData.strOk
    rw [← Array.all_toList]
    exact List.all_eq_true.mpr fun c h => decide_eq_true (by have := (hc c h).2; omega)
section
variable {r q : R}
theorem vl_ok (hr : r.ok) {p : Nat} (hp : p < 14) : VlOk (r.vl p) := by
  have h1 := (Bool.and_eq_true_iff.mp (forR_of okI1 hr)).1
  have h2 := List.all_eq_true.mp okJ p (List.mem_range.mpr hp)
  exact small_app h1 h2
theorem ln_ok (hr : r.ok) : VlOk r.ln := by
  have h1 := (Bool.and_eq_true_iff.mp (forR_of okI1 hr)).1
  have := small_app (y := "") h1 (by decide +kernel)
  have e : r.ln ++ ("" : Str) = r.ln := by
    show (⟨r.ln.cps ++ #[]⟩ : Str) = r.ln
    rw [Array.append_empty]
  rwa [e] at this
theorem vl_nrm (hr : r.ok) (p : Nat) : nrm (r.vl p) = nrm r.ln := by
  have h1 := (Bool.and_eq_true_iff.mp (forR_of okI1 hr)).2
  unfold nrm scan0 R.vl
  rw [app_cps, Array.toList_append, scan_stop _ _ _ h1]
theorem nm_eq (hr : r.ok) : nmO r.ld (W3 r.w) = some r.nm ∧ nmO r.tu (V3 r.w) = some r.ot := by
  have := forR_of okA hr
  unfold chkA at this
  rw [Bool.and_eq_true_iff] at this
  exact ⟨eq_of_beq this.1, eq_of_beq this.2⟩
theorem lc_mem (hr : r.ok) : r.lc ∈ lcs := by
  have := forR_of okC hr
  unfold chkC at this
  simp only [Bool.and_eq_true] at this
  exact List.contains_iff_mem.mp this.1.1.1
theorem nmC_ok {c i : Nat} (hc : c ∈ lcs) (hi : i < 4) : NmOk (nmC c i) ∧ lw (nmC c i) = lwC (2 * c + i / 2) := by
  have := List.all_eq_true.mp (List.all_eq_true.mp okF c hc) i (List.mem_range.mpr hi)
  simp only [Bool.and_eq_true] at this
  obtain ⟨⟨⟨h1, h2⟩, h3⟩, h4⟩ := this
  have h1 := eq_of_beq h1
  exact ⟨⟨h2, by rw [h1]; exact h3, by rw [h1]; exact h4⟩, h1⟩
theorem nm_ok (hr : r.ok) : NmOk r.nm ∧ lw r.nm = lwC r.cl := by
  have := nmC_ok (lc_mem hr) (show r.w < 4 by have := hr.2.2.2.2; omega)
  unfold R.nm R.cl
  rw [Nat.mul_comm]; exact this
theorem ot_ok (hr : r.ok) : NmOk r.ot ∧ lw r.ot = lwC r.cl := by
  have hw : r.w < 3 := hr.2.2.2.2
  have h4 : wi r.w < 4 ∧ wi r.w / 2 = r.w / 2 := by
    have : r.w = 0 ∨ r.w = 1 ∨ r.w = 2 := by omega
    rcases this with e | e | e <;> rw [e] <;> decide
  have := nmC_ok (lc_mem hr) h4.1
  unfold R.ot R.cl
  rw [Nat.mul_comm, ← h4.2]; exact this
theorem cl_mem (hr : r.ok) : r.cl ∈ lcs.flatMap fun c => [2 * c, 2 * c + 1] := by
  have hw : r.w < 3 := hr.2.2.2.2
  refine List.mem_flatMap.mpr ⟨r.lc, lc_mem hr, ?_⟩
  unfold R.cl
  have : r.w / 2 = 0 ∨ r.w / 2 = 1 := by omega
  rcases this with e | e <;> rw [e] <;> simp <;> omega
theorem lw_cl (hr : r.ok) (hq : q.ok) : (lwC q.cl == lwC r.cl) = (q.cl == r.cl) := by
  by_cases h : q.cl = r.cl
  · rw [h]; simp
  · have := List.all_eq_true.mp (List.all_eq_true.mp okE q.cl (cl_mem hq)) r.cl (cl_mem hr)
    have h' : (q.cl == r.cl) = false := beq_eq_false_iff_ne.mpr h
    rw [h', Bool.false_or, Bool.not_eq_true'] at this
    rw [this, h']
theorem nm_cl (hr : r.ok) (hq : q.ok) : (lw q.nm == lw r.nm) = (q.cl == r.cl) := by rw [(nm_ok hq).2, (nm_ok hr).2, lw_cl hr hq]
theorem ot_cl (hr : r.ok) (hq : q.ok) : (lw q.nm == lw r.ot) = (q.cl == r.cl) := by rw [(nm_ok hq).2, (ot_ok hr).2, lw_cl hr hq]
theorem rep_lc (hr : r.ok) : (repL r.lc).co = r.co ∧ nrm (repL r.lc).ln = nrm r.ln ∧ ∀ s ∈ [1, 2, 3, 4, 5], (colL s r.ld.cps.toList 0).isSome = true := by
  have := forR_of okC hr
  unfold chkC at this
  simp only [Bool.and_eq_true] at this
  obtain ⟨⟨⟨_, h2⟩, h3⟩, h4⟩ := this
  exact ⟨of_decide_eq_true h2, of_decide_eq_true h3, fun s hs => List.all_eq_true.mp h4 s hs⟩
theorem co_lc (hr : r.ok) (hq : q.ok) : decide (q.co = r.co) = (q.lc == r.lc) ∧ decide (nrm q.ln = nrm r.ln) = (q.lc == r.lc) := by
  obtain ⟨a1, a2, _⟩ := rep_lc hr
  obtain ⟨b1, b2, _⟩ := rep_lc hq
  by_cases h : q.lc = r.lc
  · rw [h, a1] at b1
    rw [h, a2] at b2
    simp [h, b1, b2]
  · have := List.all_eq_true.mp (List.all_eq_true.mp okD q.lc (lc_mem hq)) r.lc (lc_mem hr)
    have h' : (q.lc == r.lc) = false := beq_eq_false_iff_ne.mpr h
    rw [h', Bool.false_or, Bool.and_eq_true_iff, a1, b1, a2, b2] at this
    rw [h']
    exact ⟨decide_eq_false (of_decide_eq_true this.1), decide_eq_false (of_decide_eq_true this.2)⟩
theorem key_cl (hr : r.ok) (hq : q.ok) : (decide (q.co = r.co) && decide (q.w / 2 = r.w / 2)) = (q.cl == r.cl) := by
  rw [(co_lc hr hq).1]
  have h1 : q.w < 3 := hq.2.2.2.2
  have h2 : r.w < 3 := hr.2.2.2.2
  have : (q.cl = r.cl) ↔ (q.lc = r.lc ∧ q.w / 2 = r.w / 2) := by unfold R.cl; omega
  rw [Bool.eq_iff_iff]
  simp [this]
theorem line_f (hr : r.ok) : (r.f = 0 → r.nm = r.ln ∧ goodS badN r.ln = true ∧ hitN r.ln = false) ∧ (r.f ≠ 0 → hitN r.ln = true) := by
  have := forR_of okB hr
  unfold chkB at this
  constructor
  · intro h
    rw [if_pos h, Bool.and_eq_true_iff, Bool.and_eq_true_iff] at this
    exact ⟨eq_of_beq this.1.1, this.1.2, by simpa using this.2⟩
  · intro h
    rwa [if_neg h] at this
end
end Mine
namespace Mine
open PySem PySem.Spec PySem.Calls PyProof.Rows PySem.W
theorem cmpL_abs {α : Type} {tgt : SA} {test : ST} {elt : SE} {σ : Hp} {v f : α → V} {p : α → Bool} {L : Loc → Prop} : ∀ (vs : List α) (l : Loc), L l →
    (∀ l x, L l → x ∈ vs → ∃ l', tgt (v x) l σ = some (l', σ) ∧ L l' ∧ test l' σ = some (p x, σ) ∧ (p x = true → elt l' σ = some (f x, σ))) → cmpL tgt test elt (vs.map v) l σ = some ((vs.filter p).map f, σ) := by
  intro vs
  induction vs with
  | nil => intro l _ _; rfl
  | cons x vs ih =>
    intro l hl h
    obtain ⟨l', e1, hl', e2, e3⟩ := h l x hl (by simp)
    have ih := ih l' hl' fun l y hl hy => h l y hl (by simp [hy])
    cases hp : p x with
    | true =>
      rw [hp] at e2
      simp only [List.map_cons, cmpL, e1, e2, e3 hp, ih, List.filter_cons, hp, if_true]
    | false =>
      rw [hp] at e2
      simp only [List.map_cons, cmpL, e1, e2, ih, List.filter_cons, hp, Bool.false_eq_true, if_false]
noncomputable abbrev En := R × Nat
noncomputable def En.ok (e : En) : Prop := e.1.ok ∧ e.2 < 14
noncomputable def En.vl (e : En) : Str := e.1.vl e.2
noncomputable def tbl (es : List En) : List (Str × Str) := es.map fun e => (e.1.nm, e.1.vl e.2)
noncomputable def sm (r : R) (e : En) : Bool := e.1.cl == r.cl
noncomputable def lv (r : R) (e : En) : Bool := e.1.lc == r.lc
noncomputable def step (d : Nat) (e : En) (es : List En) : List En := match d with
  | 0 => es ++ [e]
  | 1 => es.filter (fun x => !sm e.1 x) ++ [e]
  | 2 => (match es.find? (sm e.1) with | some _ => es | none => es ++ [e])
  | 3 => es.filter (fun x => !sm e.1 x)
  | _ => if e.1.f = 0 then es ++ [e] else es
noncomputable def ans (d : Nat) (e : En) (es : List En) : Str := match d with
  | 2 => (match es.find? (sm e.1) with | some x => x.1.vl x.2 | none => e.1.vl e.2)
  | 4 => if e.1.f = 0 then "done" else "refused"
  | _ => "done"
noncomputable def vls (es : List En) : List V := es.map fun e => .str (e.1.vl e.2)
noncomputable def item (d : Nat) (e : En) (es : List En) : V := .tup [.str (ans d e es), .lst (tb (tbl (step d e es))), .lst (vls ((step d e es).filter (sm e.1))), .str (match (step d e es).find? (sm e.1) with | some x => x.1.vl x.2 | none => "none"), .lst (vls ((step d e es).filter (lv e.1)))]
theorem step_ok {d : Nat} {e : En} {es : List En} (he : e.ok) (h : ∀ x ∈ es, x.ok) : ∀ x ∈ step d e es, x.ok := by
  have ha : ∀ x ∈ es ++ [e], x.ok := fun x hx => by
    rcases List.mem_append.mp hx with hx | hx
    · exact h x hx
    · rw [List.mem_singleton.mp hx]; exact he
  have hf : ∀ x ∈ es.filter (fun x => !sm e.1 x), x.ok := fun x hx => h x (List.mem_filter.mp hx).1
  unfold step
  split
  · exact ha
  · intro x hx
    rcases List.mem_append.mp hx with hx | hx
    · exact hf x hx
    · rw [List.mem_singleton.mp hx]; exact he
  · split
    · exact h
    · exact ha
  · exact hf
  · split
    · exact ha
    · exact h
theorem step_len (d : Nat) (e : En) (es : List En) : (step d e es).length ≤ es.length + 1 := by
  have := List.length_filter_le (fun x => !sm e.1 x) es
  unfold step
  split
  · simp
  · simp; omega
  · split <;> simp
  · omega
  · split <;> simp
theorem tbl_ok {es : List En} (h : ∀ x ∈ es, x.ok) : ∀ p ∈ tbl es, NmOk p.1 := by
  intro p hp
  obtain ⟨e, he, rfl⟩ := List.mem_map.mp hp
  exact (nm_ok (h e he).1).1
theorem tbl_app (es : List En) (e : En) : tbl (es ++ [e]) = tbl es ++ [(e.1.nm, e.1.vl e.2)] := by simp [tbl]
theorem tbl_len (es : List En) : (tbl es).length = es.length := by simp [tbl]
theorem tbl_filterN {es : List En} {y : Str} {r : R} (b : Bool) (hy : ∀ q : R, q.ok → (lw q.nm == lw y) = (q.cl == r.cl)) (h : ∀ x ∈ es, x.ok) : (tbl es).filter (fun p => b != (lw p.1 == lw y)) = tbl (es.filter fun x => b != sm r x) := by
  induction es with
  | nil => rfl
  | cons e es ih =>
    have ih := ih fun x hx => h x (by simp [hx])
    have e1 := hy e.1 (h e (by simp)).1
    unfold tbl at ih ⊢
    rw [List.map_cons, List.filter_cons, List.filter_cons, ih]
    have : (b != (lw e.1.nm == lw y)) = (b != sm r e) := by unfold sm; rw [e1]
    simp only [this]
    split <;> rfl
theorem tbl_find {es : List En} {y : Str} {r : R} (hy : ∀ q : R, q.ok → (lw q.nm == lw y) = (q.cl == r.cl)) (h : ∀ x ∈ es, x.ok) : (tbl es).find? (fun p => lw p.1 == lw y) = (es.find? (sm r)).map fun e => (e.1.nm, e.1.vl e.2) := by
  induction es with
  | nil => rfl
  | cons e es ih =>
    have ih := ih fun x hx => h x (by simp [hx])
    have e1 := hy e.1 (h e (by simp)).1
    unfold tbl at ih ⊢
    rw [List.map_cons, List.find?_cons, List.find?_cons, ih]
    have : (lw e.1.nm == lw y) = sm r e := by unfold sm; rw [e1]
    simp only [this]
    split <;> rfl
theorem w3_idx (a : Ad) {w : Nat} (hw : w < 3) (loc : Loc) (σ : Hp) {i : Nat} (hi : loc[i]? = some (some (.int w))) : op2 idxF (lstE [kE (.str "Via"), kE (.str "vIA"), kE (.str "Age")]) (nmE i) loc σ = some (.str (W3 w), σ) := by
  have : w = 0 ∨ w = 1 ∨ w = 2 := by omega
  rcases this with rfl | rfl | rfl <;> simp [hi, idxF, okI, ixOf, lstOf, W3]
theorem v3_idx (a : Ad) {w : Nat} (hw : w < 3) (loc : Loc) (σ : Hp) {i : Nat} (hi : loc[i]? = some (some (.int w))) : op2 idxF (lstE [kE (.str "vIA"), kE (.str "Via"), kE (.str "aGE")]) (nmE i) loc σ = some (.str (V3 w), σ) := by
  have : w = 0 ∨ w = 1 ∨ w = 2 := by omega
  rcases this with rfl | rfl | rfl <;> simp [hi, idxF, okI, ixOf, lstOf, V3]
theorem ifD (st : SS) {d k : Nat} (loc : Loc) (σ : Hp) (hi : loc[5]? = some (some (.int d))) : ifS (cmT (op2 (eqF false) (nmE 5) (kE (.int k)))) (seqS st nilS) nilS loc σ = if d = k then seqS st nilS loc σ else some (.next, loc, σ) := by
  simp only [ifS_e, cmT_e, op2_e, nmE_e, kE_e, hi, eqF_int, trV_b, nilS_e]
  by_cases h : d = k
  · subst h; simp
  · have : ((d : Int) == (k : Int)) = false := beq_eq_false_iff_ne.mpr (by omega)
    simp [this, h]
theorem ln_add {r : R} (hr : r.ok) : addO r.ld (W3 r.w) = some r.ln := by
  obtain ⟨x, n, t, u, e0, _⟩ := nmO_some (nm_eq hr).1
  have : x = r.ld ++ W3 r.w := by
    unfold addO at e0
    split at e0
    · cases e0; rfl
    · cases e0
  rw [e0, this]; rfl
theorem ops_run (a : Ad) (hpv : Nat.beq a.pV a.pN = false) {σ : Hp} {self td : V} {m : Nat} {es : List En} {r : R} {d p : Nat} (h : hdrs a σ self = some (m, tb (tbl es))) (hne : ∀ C n, self = .inst C n → n ≠ m) (hes : ∀ x ∈ es, x.ok) (hr : r.ok) (hp : p < 14) (hd : d < 5) (hn : es.length ≤ 100)
    (hf : ∃ ns vs, σ[0]? = some (.frm a.LF ns vs)) (l0 t12 t13 t14 : Option V) (rest : SS) :
    seqS (ifS (cmT (op2 (eqF false) (nmE 5) (kE (.int 0)))) (seqS (exprS (methE (chkI a.HD) (hd_addh a) (nmE 1) [nmE 9, nmE 7])) (nilS)) (nilS))
    (seqS (ifS (cmT (op2 (eqF false) (nmE 5) (kE (.int 1)))) (seqS (asgT (stM a.HD (hd_setitem a) (nmE 1) (nmE 9)) (nmE 7)) (nilS)) (nilS))
    (seqS (ifS (cmT (op2 (eqF false) (nmE 5) (kE (.int 2)))) (seqS (asgS 11 (methE (chkI a.HD) (hd_setdefault a) (nmE 1) [nmE 9, nmE 7])) (nilS)) (nilS))
    (seqS (ifS (cmT (op2 (eqF false) (nmE 5) (kE (.int 3)))) (seqS (delS a.HD (hd_delitem a) (nmE 1) (nmE 9)) (nilS)) (nilS))
    (seqS (ifS (cmT (op2 (eqF false) (nmE 5) (kE (.int 4)))) (seqS (tryS a.LF (tryBad a) (exprS (methE (chkI a.HD) (hd_addh a) (nmE 1) [nmE 8, nmE 7])) (asgS 11 (kE (.str "refused")))) (nilS)) (nilS)) rest)))) [l0, some self, some td, some (.str r.ld), some (.str r.tu), some (.int d), some (.int r.w), some (.str (r.vl p)), some (.str r.ln), some (.str r.nm), some (.str r.ot), some (.str ("done" : Str)), t12, t13, t14] σ
      = rest [l0, some self, some td, some (.str r.ld), some (.str r.tu), some (.int d), some (.int r.w), some (.str (r.vl p)), some (.str r.ln), some (.str r.nm), some (.str r.ot), some (.str (ans d (r, p) es)), t12, t13, t14] (σ.set m (.lst (tb (tbl (step d (r, p) es))))) := by
  obtain ⟨g1, g2, g3⟩ := hdrs_atF h
  have hno := (nm_ok hr).1
  have hvo := vl_ok hr hp
  have hok := tbl_ok hes
  have hl : (tbl es).length ≤ 1000 := by rw [tbl_len]; omega
  have same : σ.set m (.lst (tb (tbl es))) = σ := set_same g3
  have hq : ∀ q : R, q.ok → (lw q.nm == lw r.nm) = (q.cl == r.cl) := fun q hq => nm_cl hr hq
  have fN : (tbl es).filter (fun p => !(lw p.1 == lw r.nm)) = tbl (es.filter fun x => !sm r x) := by
    have := tbl_filterN (r := r) true hq hes
    simpa using this
  have no : ∀ (k : Nat) (st : SS) (loc : Loc) (τ : Hp), loc[5]? = some (some (.int d)) → d ≠ k → ifS (cmT (op2 (eqF false) (nmE 5) (kE (.int k)))) (seqS st nilS) nilS loc τ = some (.next, loc, τ) := fun k st loc τ hi hk => by rw [ifD st loc τ hi, if_neg hk]
  have yes : ∀ (k : Nat) (st : SS) (loc loc' : Loc) (τ τ' : Hp), loc[5]? = some (some (.int d)) → d = k → st loc τ = some (.next, loc', τ') → ifS (cmT (op2 (eqF false) (nmE 5) (kE (.int k)))) (seqS st nilS) nilS loc τ = some (.next, loc', τ') := fun k st loc loc' τ τ' hi hk hs => by rw [ifD st loc τ hi, if_pos hk]; exact seq_go hs rfl
  have hdc : d = 0 ∨ d = 1 ∨ d = 2 ∨ d = 3 ∨ d = 4 := by omega
  rcases hdc with rfl | rfl | rfl | rfl | rfl
  · refine seq_go (loc₁ := [l0, some self, some td, some (.str r.ld), some (.str r.tu), some (.int (0 : Nat)), some (.int r.w), some (.str (r.vl p)), some (.str r.ln), some (.str r.nm), some (.str r.ot), some (.str (ans 0 (r, p) es)), t12, t13, t14]) (σ₁ := (σ.set m (.lst (tb (tbl (step 0 (r, p) es)))))) (yes 0 _ _ _ _ _ rfl rfl (by
        have hg := addh_go a h hno.g hvo.g hvo.l hl
        rw [← tbl_app es (r, p)] at hg
        simp only [exprS_e, methE_e, argsE_cons, argsE_nil, nmE_e, List.getElem?_cons_succ, List.getElem?_cons_zero, g2, if_true, List.cons_append, List.nil_append, hg]
        rfl)) ?_
    refine seq_go (loc₁ := [l0, some self, some td, some (.str r.ld), some (.str r.tu), some (.int (0 : Nat)), some (.int r.w), some (.str (r.vl p)), some (.str r.ln), some (.str r.nm), some (.str r.ot), some (.str (ans 0 (r, p) es)), t12, t13, t14]) (σ₁ := (σ.set m (.lst (tb (tbl (step 0 (r, p) es)))))) (no 1 _ _ _ rfl (by decide)) ?_
    refine seq_go (loc₁ := [l0, some self, some td, some (.str r.ld), some (.str r.tu), some (.int (0 : Nat)), some (.int r.w), some (.str (r.vl p)), some (.str r.ln), some (.str r.nm), some (.str r.ot), some (.str (ans 0 (r, p) es)), t12, t13, t14]) (σ₁ := (σ.set m (.lst (tb (tbl (step 0 (r, p) es)))))) (no 2 _ _ _ rfl (by decide)) ?_
    refine seq_go (loc₁ := [l0, some self, some td, some (.str r.ld), some (.str r.tu), some (.int (0 : Nat)), some (.int r.w), some (.str (r.vl p)), some (.str r.ln), some (.str r.nm), some (.str r.ot), some (.str (ans 0 (r, p) es)), t12, t13, t14]) (σ₁ := (σ.set m (.lst (tb (tbl (step 0 (r, p) es)))))) (no 3 _ _ _ rfl (by decide)) ?_
    refine seq_go (loc₁ := [l0, some self, some td, some (.str r.ld), some (.str r.tu), some (.int (0 : Nat)), some (.int r.w), some (.str (r.vl p)), some (.str r.ln), some (.str r.nm), some (.str r.ot), some (.str (ans 0 (r, p) es)), t12, t13, t14]) (σ₁ := (σ.set m (.lst (tb (tbl (step 0 (r, p) es)))))) (no 4 _ _ _ rfl (by decide)) ?_
    rfl
  · refine seq_go (loc₁ := [l0, some self, some td, some (.str r.ld), some (.str r.tu), some (.int (1 : Nat)), some (.int r.w), some (.str (r.vl p)), some (.str r.ln), some (.str r.nm), some (.str r.ot), some (.str ("done" : Str)), t12, t13, t14]) (σ₁ := σ) (no 0 _ _ _ rfl (by decide)) ?_
    refine seq_go (loc₁ := [l0, some self, some td, some (.str r.ld), some (.str r.tu), some (.int (1 : Nat)), some (.int r.w), some (.str (r.vl p)), some (.str r.ln), some (.str r.nm), some (.str r.ot), some (.str (ans 1 (r, p) es)), t12, t13, t14]) (σ₁ := (σ.set m (.lst (tb (tbl (step 1 (r, p) es)))))) (yes 1 _ _ _ _ _ rfl rfl (by
        have hg := set_run a hpv h hne hok hno hvo.g hl
        rw [fN, ← tbl_app _ (r, p)] at hg
        simp only [asgT_e, stM, nmE_e, List.getElem?_cons_succ, List.getElem?_cons_zero, g2, if_true, hg]
        rfl)) ?_
    refine seq_go (loc₁ := [l0, some self, some td, some (.str r.ld), some (.str r.tu), some (.int (1 : Nat)), some (.int r.w), some (.str (r.vl p)), some (.str r.ln), some (.str r.nm), some (.str r.ot), some (.str (ans 1 (r, p) es)), t12, t13, t14]) (σ₁ := (σ.set m (.lst (tb (tbl (step 1 (r, p) es)))))) (no 2 _ _ _ rfl (by decide)) ?_
    refine seq_go (loc₁ := [l0, some self, some td, some (.str r.ld), some (.str r.tu), some (.int (1 : Nat)), some (.int r.w), some (.str (r.vl p)), some (.str r.ln), some (.str r.nm), some (.str r.ot), some (.str (ans 1 (r, p) es)), t12, t13, t14]) (σ₁ := (σ.set m (.lst (tb (tbl (step 1 (r, p) es)))))) (no 3 _ _ _ rfl (by decide)) ?_
    refine seq_go (loc₁ := [l0, some self, some td, some (.str r.ld), some (.str r.tu), some (.int (1 : Nat)), some (.int r.w), some (.str (r.vl p)), some (.str r.ln), some (.str r.nm), some (.str r.ot), some (.str (ans 1 (r, p) es)), t12, t13, t14]) (σ₁ := (σ.set m (.lst (tb (tbl (step 1 (r, p) es)))))) (no 4 _ _ _ rfl (by decide)) ?_
    rfl
  · refine seq_go (loc₁ := [l0, some self, some td, some (.str r.ld), some (.str r.tu), some (.int (2 : Nat)), some (.int r.w), some (.str (r.vl p)), some (.str r.ln), some (.str r.nm), some (.str r.ot), some (.str ("done" : Str)), t12, t13, t14]) (σ₁ := σ) (no 0 _ _ _ rfl (by decide)) ?_
    refine seq_go (loc₁ := [l0, some self, some td, some (.str r.ld), some (.str r.tu), some (.int (2 : Nat)), some (.int r.w), some (.str (r.vl p)), some (.str r.ln), some (.str r.nm), some (.str r.ot), some (.str ("done" : Str)), t12, t13, t14]) (σ₁ := σ) (no 1 _ _ _ rfl (by decide)) ?_
    refine seq_go (loc₁ := [l0, some self, some td, some (.str r.ld), some (.str r.tu), some (.int (2 : Nat)), some (.int r.w), some (.str (r.vl p)), some (.str r.ln), some (.str r.nm), some (.str r.ot), some (.str (ans 2 (r, p) es)), t12, t13, t14]) (σ₁ := (σ.set m (.lst (tb (tbl (step 2 (r, p) es)))))) (yes 2 _ _ _ _ _ rfl rfl (by
        have hg := sdef_run a hpv h hok hno hvo.g hl
        rw [tbl_find hq hes] at hg
        simp only [asgS_e, methE_e, argsE_cons, argsE_nil, nmE_e, List.getElem?_cons_succ, List.getElem?_cons_zero, g2, if_true, List.cons_append, List.nil_append, hg]
        cases hfi : es.find? (sm r) with
        | some e =>
          have s1 : step 2 (r, p) es = es := by simp only [step, hfi]
          have s2 : ans 2 (r, p) es = e.1.vl e.2 := by simp only [ans, hfi]
          rw [s1, s2, same]; rfl
        | none =>
          have s1 : step 2 (r, p) es = es ++ [(r, p)] := by simp only [step, hfi]
          have s2 : ans 2 (r, p) es = r.vl p := by simp only [ans, hfi]
          rw [s1, s2, tbl_app]; rfl)) ?_
    refine seq_go (loc₁ := [l0, some self, some td, some (.str r.ld), some (.str r.tu), some (.int (2 : Nat)), some (.int r.w), some (.str (r.vl p)), some (.str r.ln), some (.str r.nm), some (.str r.ot), some (.str (ans 2 (r, p) es)), t12, t13, t14]) (σ₁ := (σ.set m (.lst (tb (tbl (step 2 (r, p) es)))))) (no 3 _ _ _ rfl (by decide)) ?_
    refine seq_go (loc₁ := [l0, some self, some td, some (.str r.ld), some (.str r.tu), some (.int (2 : Nat)), some (.int r.w), some (.str (r.vl p)), some (.str r.ln), some (.str r.nm), some (.str r.ot), some (.str (ans 2 (r, p) es)), t12, t13, t14]) (σ₁ := (σ.set m (.lst (tb (tbl (step 2 (r, p) es)))))) (no 4 _ _ _ rfl (by decide)) ?_
    rfl
  · refine seq_go (loc₁ := [l0, some self, some td, some (.str r.ld), some (.str r.tu), some (.int (3 : Nat)), some (.int r.w), some (.str (r.vl p)), some (.str r.ln), some (.str r.nm), some (.str r.ot), some (.str ("done" : Str)), t12, t13, t14]) (σ₁ := σ) (no 0 _ _ _ rfl (by decide)) ?_
    refine seq_go (loc₁ := [l0, some self, some td, some (.str r.ld), some (.str r.tu), some (.int (3 : Nat)), some (.int r.w), some (.str (r.vl p)), some (.str r.ln), some (.str r.nm), some (.str r.ot), some (.str ("done" : Str)), t12, t13, t14]) (σ₁ := σ) (no 1 _ _ _ rfl (by decide)) ?_
    refine seq_go (loc₁ := [l0, some self, some td, some (.str r.ld), some (.str r.tu), some (.int (3 : Nat)), some (.int r.w), some (.str (r.vl p)), some (.str r.ln), some (.str r.nm), some (.str r.ot), some (.str ("done" : Str)), t12, t13, t14]) (σ₁ := σ) (no 2 _ _ _ rfl (by decide)) ?_
    refine seq_go (loc₁ := [l0, some self, some td, some (.str r.ld), some (.str r.tu), some (.int (3 : Nat)), some (.int r.w), some (.str (r.vl p)), some (.str r.ln), some (.str r.nm), some (.str r.ot), some (.str (ans 3 (r, p) es)), t12, t13, t14]) (σ₁ := (σ.set m (.lst (tb (tbl (step 3 (r, p) es)))))) (yes 3 _ _ _ _ _ rfl rfl (by
        have hg := del_run a h hok hno hl
        rw [fN] at hg
        simp only [delS, nmE_e, List.getElem?_cons_succ, List.getElem?_cons_zero, g2, if_true, hg]
        rfl)) ?_
    refine seq_go (loc₁ := [l0, some self, some td, some (.str r.ld), some (.str r.tu), some (.int (3 : Nat)), some (.int r.w), some (.str (r.vl p)), some (.str r.ln), some (.str r.nm), some (.str r.ot), some (.str (ans 3 (r, p) es)), t12, t13, t14]) (σ₁ := (σ.set m (.lst (tb (tbl (step 3 (r, p) es)))))) (no 4 _ _ _ rfl (by decide)) ?_
    rfl
  · refine seq_go (loc₁ := [l0, some self, some td, some (.str r.ld), some (.str r.tu), some (.int (4 : Nat)), some (.int r.w), some (.str (r.vl p)), some (.str r.ln), some (.str r.nm), some (.str r.ot), some (.str ("done" : Str)), t12, t13, t14]) (σ₁ := σ) (no 0 _ _ _ rfl (by decide)) ?_
    refine seq_go (loc₁ := [l0, some self, some td, some (.str r.ld), some (.str r.tu), some (.int (4 : Nat)), some (.int r.w), some (.str (r.vl p)), some (.str r.ln), some (.str r.nm), some (.str r.ot), some (.str ("done" : Str)), t12, t13, t14]) (σ₁ := σ) (no 1 _ _ _ rfl (by decide)) ?_
    refine seq_go (loc₁ := [l0, some self, some td, some (.str r.ld), some (.str r.tu), some (.int (4 : Nat)), some (.int r.w), some (.str (r.vl p)), some (.str r.ln), some (.str r.nm), some (.str r.ot), some (.str ("done" : Str)), t12, t13, t14]) (σ₁ := σ) (no 2 _ _ _ rfl (by decide)) ?_
    refine seq_go (loc₁ := [l0, some self, some td, some (.str r.ld), some (.str r.tu), some (.int (4 : Nat)), some (.int r.w), some (.str (r.vl p)), some (.str r.ln), some (.str r.nm), some (.str r.ot), some (.str ("done" : Str)), t12, t13, t14]) (σ₁ := σ) (no 3 _ _ _ rfl (by decide)) ?_
    refine seq_go (loc₁ := [l0, some self, some td, some (.str r.ld), some (.str r.tu), some (.int (4 : Nat)), some (.int r.w), some (.str (r.vl p)), some (.str r.ln), some (.str r.nm), some (.str r.ot), some (.str (ans 4 (r, p) es)), t12, t13, t14]) (σ₁ := (σ.set m (.lst (tb (tbl (step 4 (r, p) es)))))) (yes 4 _ _ _ _ _ rfl rfl (by
        obtain ⟨ns, vs, hf⟩ := hf
        have hb : Nat.beq a.LF a.LF = true := Nat.beq_refl _
        obtain ⟨lf1, lf2⟩ := line_f hr
        simp only [tryS, hf, hb, if_true]
        by_cases hz : r.f = 0
        · obtain ⟨hl1, hl2, hh⟩ := lf1 hz
          have hnb : tryBad a [l0, some self, some td, some (.str r.ld), some (.str r.tu), some (.int (4 : Nat)), some (.int r.w), some (.str (r.vl p)), some (.str r.ln), some (.str r.nm), some (.str r.ot), some (.str ("done" : Str)), t12, t13, t14] σ = false := by
            simp only [tryBad, List.getElem?_cons_succ, List.getElem?_cons_zero, hh, Bool.and_false, Bool.false_and]
          have hg := addh_go a h hl2 hvo.g hvo.l hl
          rw [← hl1, ← tbl_app es (r, p)] at hg
          have s1 : step 4 (r, p) es = es ++ [(r, p)] := by simp only [step, hz, if_true]
          have s2 : ans 4 (r, p) es = "done" := by simp only [ans, hz, if_true]
          rw [hnb, s1, s2, ← hl1]
          simp only [Bool.false_eq_true, if_false, exprS_e, methE_e, argsE_cons, argsE_nil, nmE_e, List.getElem?_cons_succ, List.getElem?_cons_zero, g2, if_true, List.cons_append, List.nil_append, hg]
        · have hb2 : tryBad a [l0, some self, some td, some (.str r.ld), some (.str r.tu), some (.int (4 : Nat)), some (.int r.w), some (.str (r.vl p)), some (.str r.ln), some (.str r.nm), some (.str r.ot), some (.str ("done" : Str)), t12, t13, t14] σ = true := by
            have hi : isFrm σ[0]? = true := by rw [hf]; rfl
            simp only [tryBad, List.getElem?_cons_succ, List.getElem?_cons_zero, hi, h, Option.isSome_some, lf2 hz, hvo.g, Bool.and_self]
          have s1 : step 4 (r, p) es = es := by simp only [step, hz, if_false]
          have s2 : ans 4 (r, p) es = "refused" := by simp only [ans, hz, if_false]
          rw [hb2, s1, s2, same]
          rfl)) ?_
    rfl
end Mine
namespace Mine
open PySem PySem.Spec PySem.Calls PyProof.Rows PySem.W
theorem ws_go (a : Ad) {x : Str} (h : ascS x = true) (σ : Hp) : Whitespace a [.str x] σ = some (wsV a x (scan0 x), σ) := by simp only [Whitespace, h, if_true]
theorem lev_cmp (a : Ad) {r : R} (hr : r.ok) {es : List En} (hes : ∀ x ∈ es, x.ok) (loc : Loc) (σ : Hp) (hl : loc.length = 15) (h12 : loc[12]? = some (some (wsV a r.ln (scan0 r.ln)))) :
    cmpL (nmA 14) (cmT (methE (chkI a.WS) (ws_equal a) (nmE 12) [callE (Whitespace a) [nmE 14]])) (nmE 14) (vls es) (clr [14] loc) σ = some (vls (es.filter (lv r)), σ) := by
  refine cmpL_abs (L := fun l => ∃ x, l = loc.set 14 x) (v := fun e : En => .str (e.1.vl e.2)) (f := fun e : En => .str (e.1.vl e.2)) es (clr [14] loc) ⟨none, rfl⟩ ?_
  rintro l e ⟨x, rfl⟩ he
  have heo := hes e he
  have hv := vl_ok heo.1 heo.2
  refine ⟨loc.set 14 (some (.str (e.1.vl e.2))), by simp [hl], ⟨_, rfl⟩, ?_, fun _ => ?_⟩
  · have h12' : (loc.set 14 (some (.str (e.1.vl e.2))))[12]? = some (some (wsV a r.ln (scan0 r.ln))) := by rw [List.getElem?_set_ne (by decide)]; exact h12
    have h14 : (loc.set 14 (some (.str (e.1.vl e.2))))[14]? = some (some (.str (e.1.vl e.2))) := by rw [List.getElem?_set_self (by omega)]
    have hlv : decide (nrm r.ln = nrm (e.1.vl e.2)) = lv r e := by
      rw [vl_nrm heo.1, (co_lc heo.1 hr).2]
      unfold lv
      rw [Bool.eq_iff_iff]; simp; exact eq_comm
    simp only [cmT_e, methE_e, nmE_e, h12', chk_ws, if_true, argsE_cons, argsE_nil, callE_e, h14, ws_go a hv.a, List.cons_append, List.nil_append, equal_run, trV_b, hlv]
  · have h14 : (loc.set 14 (some (.str (e.1.vl e.2))))[14]? = some (some (.str (e.1.vl e.2))) := by rw [List.getElem?_set_self (by omega)]
    simp only [nmE_e, h14]
theorem told_step (a : Ad) (hpv : Nat.beq a.pV a.pN = false) {σ : Hp} {self : V} {m n3 : Nat} {es : List En} {r : R} {d p : Nat} {told : List V} (h : hdrs a σ self = some (m, tb (tbl es))) (hne : ∀ C n, self = .inst C n → n ≠ m) (hes : ∀ x ∈ es, x.ok) (hr : r.ok) (hp : p < 14) (hd : d < 5) (hn : es.length ≤ 100)
    (hf : ∃ ns vs, σ[0]? = some (.frm a.LF ns vs)) (h3 : σ[n3]? = some (.lst told)) (hm3 : m ≠ n3) (hto : told.length ≤ 1000) (l0 t8 t9 t10 t11 t12 t13 t14 : Option V) : ∃ t8' t9' t10' t11' t12' t13',
    toldF1_b0 a [l0, some self, some (.ref n3), some (.str r.ld), some (.str r.tu), some (.int d), some (.int r.w), some (.str (r.vl p)), t8, t9, t10, t11, t12, t13, t14] σ = some (.next, [l0, some self, some (.ref n3), some (.str r.ld), some (.str r.tu), some (.int d), some (.int r.w), some (.str (r.vl p)), t8', t9', t10', t11', t12', t13', t14], (σ.set m (.lst (tb (tbl (step d (r, p) es))))).set n3 (.lst (told ++ [item d (r, p) es]))) := by
  have hes2 : ∀ x ∈ step d (r, p) es, x.ok := step_ok ⟨hr, hp⟩ hes
  have hn2 : (step d (r, p) es).length ≤ 101 := Nat.le_trans (step_len d (r, p) es) (by omega)
  have hh := hdrs_set (ws := tb (tbl (step d (r, p) es))) h hne
  have h3' : (σ.set m (.lst (tb (tbl (step d (r, p) es)))))[n3]? = some (.lst told) := by rw [List.getElem?_set_ne hm3, h3]
  refine ⟨some (.str r.ln), some (.str r.nm), some (.str r.ot), some (.str (ans d (r, p) es)), some (wsV a r.ln (scan0 r.ln)), some (.lst (vls ((step d (r, p) es).filter (lv r)))), ?_⟩
  unfold toldF1_b0
  have hw : r.w < 3 := hr.2.2.2.2
  refine seq_go (loc₁ := [l0, some self, some (.ref n3), some (.str r.ld), some (.str r.tu), some (.int d), some (.int r.w), some (.str (r.vl p)), some (.str r.ln), t9, t10, t11, t12, t13, t14]) (σ₁ := σ) (by
    rw [asgS_e, op2_e, nmE_e]
    simp only [List.getElem?_cons_succ, List.getElem?_cons_zero, w3_idx a hw [l0, some self, some (.ref n3), some (.str r.ld), some (.str r.tu), some (.int d), some (.int r.w), some (.str (r.vl p)), t8, t9, t10, t11, t12, t13, t14] σ (i := 6) rfl, add_of (ln_add hr)]
    rfl) ?_
  refine seq_go (loc₁ := [l0, some self, some (.ref n3), some (.str r.ld), some (.str r.tu), some (.int d), some (.int r.w), some (.str (r.vl p)), some (.str r.ln), some (.str r.nm), t10, t11, t12, t13, t14]) (σ₁ := σ) (by
    rw [asgS_e, callE_e]
    simp only [argsE_cons, argsE_nil, nmE_e, List.getElem?_cons_succ, List.getElem?_cons_zero, w3_idx a hw [l0, some self, some (.ref n3), some (.str r.ld), some (.str r.tu), some (.int d), some (.int r.w), some (.str (r.vl p)), some (.str r.ln), t9, t10, t11, t12, t13, t14] σ (i := 6) rfl, name_run a (nm_eq hr).1]
    rfl) ?_
  refine seq_go (loc₁ := [l0, some self, some (.ref n3), some (.str r.ld), some (.str r.tu), some (.int d), some (.int r.w), some (.str (r.vl p)), some (.str r.ln), some (.str r.nm), some (.str r.ot), t11, t12, t13, t14]) (σ₁ := σ) (by
    rw [asgS_e, callE_e]
    simp only [argsE_cons, argsE_nil, nmE_e, List.getElem?_cons_succ, List.getElem?_cons_zero, v3_idx a hw [l0, some self, some (.ref n3), some (.str r.ld), some (.str r.tu), some (.int d), some (.int r.w), some (.str (r.vl p)), some (.str r.ln), some (.str r.nm), t10, t11, t12, t13, t14] σ (i := 6) rfl, name_run a (nm_eq hr).2]
    rfl) ?_
  refine seq_go (loc₁ := [l0, some self, some (.ref n3), some (.str r.ld), some (.str r.tu), some (.int d), some (.int r.w), some (.str (r.vl p)), some (.str r.ln), some (.str r.nm), some (.str r.ot), some (.str ("done" : Str)), t12, t13, t14]) (σ₁ := σ) rfl ?_
  rw [ops_run a hpv h hne hes hr hp hd hn hf]
  generalize hτ : σ.set m (.lst (tb (tbl (step d (r, p) es)))) = τ at hh h3'
  refine seq_go (loc₁ := [l0, some self, some (.ref n3), some (.str r.ld), some (.str r.tu), some (.int d), some (.int r.w), some (.str (r.vl p)), some (.str r.ln), some (.str r.nm), some (.str r.ot), some (.str (ans d (r, p) es)), some (wsV a r.ln (scan0 r.ln)), t13, t14]) (σ₁ := τ) (by
    simp only [asgS_e, callE_e, argsE_cons, argsE_nil, nmE_e, List.getElem?_cons_succ, List.getElem?_cons_zero, ws_go a (ln_ok hr).a]
    rfl) ?_
  have hch := (hdrs_atF hh).2.1
  have hvals := vals_run a hh (by rw [tbl_len]; omega)
  have hvm : (tbl (step d (r, p) es)).map (fun q => V.str q.2) = vls (step d (r, p) es) := by simp [tbl, vls]
  rw [hvm] at hvals
  refine seq_go (loc₁ := [l0, some self, some (.ref n3), some (.str r.ld), some (.str r.tu), some (.int d), some (.int r.w), some (.str (r.vl p)), some (.str r.ln), some (.str r.nm), some (.str r.ot), some (.str (ans d (r, p) es)), some (wsV a r.ln (scan0 r.ln)), some (.lst (vls ((step d (r, p) es).filter (lv r)))), t14]) (σ₁ := τ) (by
    have : cmpV toldF1_vars0 [14] (nmA 14) (cmT (methE (chkI a.WS) (ws_equal a) (nmE 12) [callE (Whitespace a) [nmE 14]])) (nmE 14) (methE (chkI a.HD) (hd_values a) (nmE 1) []) [l0, some self, some (.ref n3), some (.str r.ld), some (.str r.tu), some (.int d), some (.int r.w), some (.str (r.vl p)), some (.str r.ln), some (.str r.nm), some (.str r.ot), some (.str (ans d (r, p) es)), some (wsV a r.ln (scan0 r.ln)), t13, t14] τ = some (.lst (vls ((step d (r, p) es).filter (lv r))), τ) := by
      refine cmp_go2 (v := .lst (vls (step d (r, p) es))) (σ₁ := τ) ?_ rfl rfl (by simp [vls]; omega) (lev_cmp a hr hes2 _ τ rfl rfl)
      simp only [methE_e, argsE_nil, nmE_e, List.getElem?_cons_succ, List.getElem?_cons_zero, hch, if_true, List.cons_append, List.nil_append, List.append_nil, hvals]
    rw [asgS_e, this]; rfl) ?_
  have hit := items_run a hh (by rw [tbl_len]; omega)
  have hoo := (ot_ok hr).1
  have hqo : ∀ q : R, q.ok → (lw q.nm == lw r.ot) = (q.cl == r.cl) := fun q hq => ot_cl hr hq
  have hall := all_run a hh (tbl_ok hes2) hoo (by rw [tbl_len]; omega)
  have hget := get_run a (dv := .str "none") hh (tbl_ok hes2) hoo
  have fY : (tbl (step d (r, p) es)).filter (fun q => lw q.1 == lw r.ot) = tbl ((step d (r, p) es).filter (sm r)) := by
    have := tbl_filterN (r := r) false hqo hes2
    simpa using this
  rw [fY] at hall
  rw [tbl_find hqo hes2] at hget
  have hall2 : (tbl ((step d (r, p) es).filter (sm r))).map (fun q => V.str q.2) = vls ((step d (r, p) es).filter (sm r)) := by simp [tbl, vls]
  rw [hall2] at hall
  have hget3 : hd_get a [self, .str r.ot, .str "none"] τ = some (V.str (match (step d (r, p) es).find? (sm r) with | some x => x.1.vl x.2 | none => "none"), τ) := by
    rw [hget]
    cases (step d (r, p) es).find? (sm r) <;> rfl
  have hbl : Nat.ble told.length lmax = true := ble_lmax _ (by omega)
  refine seq_go (loc₁ := [l0, some self, some (.ref n3), some (.str r.ld), some (.str r.tu), some (.int d), some (.int r.w), some (.str (r.vl p)), some (.str r.ln), some (.str r.nm), some (.str r.ot), some (.str (ans d (r, p) es)), some (wsV a r.ln (scan0 r.ln)), some (.lst (vls ((step d (r, p) es).filter (lv r)))), t14]) (σ₁ := τ.set n3 (.lst (told ++ [item d (r, p) es]))) (by
    simp only [exprS_e, methE_e, argsE_cons, argsE_nil, nmE_e, tupE_e, kE_e, List.getElem?_cons_succ, List.getElem?_cons_zero, hch, if_true, List.cons_append, List.nil_append, hit, hall, hget3, chkRef_e, h3', appF_e, hbl]
    rfl) rfl
end Mine
namespace Mine
open PySem PySem.Spec PySem.Calls PyProof.Rows PySem.W
noncomputable def R.runs (r : R) : List Str := if r.f = 0 then [ms (r.o + r.t)] else [ms r.o, ms r.t, ms r.l]
noncomputable def R.head (r : R) : List Str := if r.f = 0 then [] else [ms r.o, ms r.t]
noncomputable def R.last (r : R) : Str := if r.f = 0 then ms (r.o + r.t) else ms r.l
noncomputable def R.srt (r : R) : List Str := (sort2 r.head).getD []
noncomputable def us (s : Str) : Str := s ++ ("_" : Str)
noncomputable def chkK1 (r : R) : Bool := match splF [.str r.ld, .str "\t"] [] with | some (.lst vs, _) => decide (strsOf vs = some r.runs) | _ => false
noncomputable def chkK2 (r : R) : Bool := decide (sort2 r.head = some r.srt) && r.srt.all (fun s => decide (addO s "_" = some (us s)))
noncomputable def chkK3 (r : R) : Bool := match joiF [.str "", .lst ((r.srt.map us).map .str)] [] with | some (.str x, _) => (match addO x r.last with | some u => decide (addO u (W3 r.w) = some r.nm) | none => false) | _ => false
noncomputable def chkK4 (r : R) : Bool := Txt.contains r.ld "\t" == !(r.f == 0)
theorem okK1 : forR chkK1 = true := by decide +kernel
theorem okK2 : forR chkK2 = true := by decide +kernel
theorem okK3 : forR chkK3 = true := by decide +kernel
theorem okK4 : forR chkK4 = true := by decide +kernel
theorem strsOf_map : ∀ {vs : List V} {ss : List Str}, strsOf vs = some ss → vs = ss.map .str
  | [], ss, h => by cases h; rfl
  | v :: vs, ss, h => by
    cases v <;> simp only [strsOf] at h <;> try cases h
    cases e : strsOf vs with
    | none => rw [e] at h; cases h
    | some t => rw [e] at h; cases h; rw [strsOf_map e]; rfl
theorem strsOf_of (ss : List Str) : strsOf (ss.map V.str) = some ss := by
  induction ss with
  | nil => rfl
  | cons s ss ih => simp [strsOf, ih]
theorem spl_run {r : R} (hr : r.ok) (σ : Hp) : splF [.str r.ld, .str "\t"] σ = some (.lst (r.runs.map .str), σ) := by
  have := forR_of okK1 hr
  unfold chkK1 at this
  split at this
  · rename_i vs τ e
    have hv := strsOf_map (of_decide_eq_true this)
    unfold splF at e ⊢
    dsimp only at e ⊢
    split at e
    · rename_i hc
      simp only [Option.some.injEq, Prod.mk.injEq, V.lst.injEq] at e
      rw [if_pos hc, e.1, hv]
    · cases e
  · cases this
theorem name_expr (a : Ad) {r : R} (hr : r.ok) (loc : Loc) (σ : Hp) (h9 : loc[9]? = some (some (.lst (r.runs.map .str)))) (h6 : loc[6]? = some (some (.int r.w))) (hl : loc.length = 30) :
    op2 addF (op2 addF (methE chkStr joiF (kE (.str "")) [cmpV dueF1_vars0 [16] (nmA 16) (ttT) (op2 addF (nmE 16) (kE (.str "_"))) (callE sorF [op2 slcF (nmE 9) (op1 negF (kE (.int 1)))])]) (op2 idxF (nmE 9) (op1 negF (kE (.int 1))))) (op2 idxF (lstE [kE (.str "Via"), kE (.str "vIA"), kE (.str "Age")]) (nmE 6)) loc σ = some (.str r.nm, σ) := by
  have hw : r.w < 3 := hr.2.2.2.2
  have k2 := forR_of okK2 hr
  unfold chkK2 at k2
  rw [Bool.and_eq_true_iff] at k2
  obtain ⟨k2, k3⟩ := k2
  have k2 := of_decide_eq_true k2
  have hslc : op2 slcF (nmE 9) (op1 negF (kE (.int 1))) loc σ = some (.lst (r.head.map .str), σ) := by
    simp only [op2_e, nmE_e, h9, op1_e, kE_e, negF]
    unfold R.runs R.head
    split <;> rfl
  have hidx : op2 idxF (nmE 9) (op1 negF (kE (.int 1))) loc σ = some (.str r.last, σ) := by
    simp only [op2_e, nmE_e, h9, op1_e, kE_e, negF]
    unfold R.runs R.last
    split <;> rfl
  have hsor : callE sorF [op2 slcF (nmE 9) (op1 negF (kE (.int 1)))] loc σ = some (.lst (r.srt.map .str), σ) := by
    rw [callE_e]
    simp only [argsE_cons, argsE_nil, hslc, sorF, lstOf, strsOf_of, k2]
  have hcmp : cmpV dueF1_vars0 [16] (nmA 16) (ttT) (op2 addF (nmE 16) (kE (.str "_"))) (callE sorF [op2 slcF (nmE 9) (op1 negF (kE (.int 1)))]) loc σ = some (.lst ((r.srt.map us).map .str), σ) := by
    have hs : r.srt.length ≤ 2 := by
      unfold R.srt sort2 R.head
      by_cases hz : r.f = 0
      · simp [hz]
      · rw [if_neg hz]; simp only; split <;> (try split) <;> simp
    refine cmp_go2 (v := .lst (r.srt.map .str)) (σ₁ := σ) hsor rfl rfl (by simp; omega) ?_
    have := cmpL_abs (tgt := nmA 16) (test := ttT) (elt := op2 addF (nmE 16) (kE (.str "_"))) (σ := σ) (L := fun l => ∃ x, l = loc.set 16 x) (v := fun s : Str => V.str s) (f := fun s : Str => V.str (us s)) (p := fun _ => true) r.srt (clr [16] loc) ⟨none, rfl⟩ (by
      rintro l s ⟨x, rfl⟩ hs'
      have h16 : (loc.set 16 (some (V.str s)))[16]? = some (some (.str s)) := by rw [List.getElem?_set_self (by omega)]
      have ha := of_decide_eq_true (List.all_eq_true.mp k3 s hs')
      exact ⟨loc.set 16 (some (.str s)), by simp [hl], ⟨_, rfl⟩, rfl, fun _ => by simp only [op2_e, nmE_e, h16, kE_e, add_of ha]⟩)
    have e1 : (r.srt.filter fun _ => true).map (fun s => V.str (us s)) = (r.srt.map us).map V.str := by rw [List.filter_eq_self.mpr (fun _ _ => rfl), List.map_map]; rfl
    rw [e1] at this
    exact this
  have k5 := forR_of okK3 hr
  unfold chkK3 at k5
  split at k5
  · rename_i x τ ej
    have hj : joiF [.str "", .lst ((r.srt.map us).map .str)] σ = some (.str x, σ) := by
      simp only [joiF, lstOf, strsOf_of] at ej ⊢
      split at ej
      · rename_i hc
        cases ej
        rw [if_pos hc]
      · cases ej
    split at k5
    · rename_i u e1
      have e2 := of_decide_eq_true k5
      rw [op2_e, op2_e, methE_e, kE_e]
      simp only [chkStr_e, if_true, argsE_cons, argsE_nil, hcmp, List.cons_append, List.nil_append, hj, hidx, add_of e1, w3_idx a hw loc σ h6, add_of e2]
    · cases k5
  · cases k5
theorem tab_in {r : R} (hr : r.ok) (neg : Bool) (σ : Hp) : inF neg [.str "\t", .str r.ld] σ = some (.bool (neg != !(r.f == 0)), σ) := by
  have h := eq_of_beq (forR_of okK4 hr)
  show some (V.bool (neg != Txt.contains r.ld "\t"), σ) = _
  rw [h]
theorem col_some {r : R} (hr : r.ok) {s : Nat} (hs : s ∈ [1, 2, 3, 4, 5]) : colL s r.ld.cps.toList 0 = some ((colL s r.ld.cps.toList 0).getD 0) := by
  have h := (rep_lc hr).2.2 (s : Int) (by simp at hs ⊢; omega)
  obtain ⟨x, h⟩ := Option.isSome_iff_exists.mp h
  rw [h]; rfl
theorem ld_asc {r : R} (hr : r.ok) : r.ld.cps.all (· < 128) = true := by
  have h1 := (ln_ok hr).a
  unfold ascS at h1
  have h1 := (Bool.and_eq_true_iff.mp h1).1
  have : r.ln.cps = r.ld.cps ++ (W3 r.w).cps := rfl
  rw [this, Array.all_append, Bool.and_eq_true_iff] at h1
  exact h1.1
theorem col_turn (a : Ad) {r : R} (hr : r.ok) {s : Nat} (hs : s ∈ [1, 2, 3, 4, 5]) (n : Nat) (ws : List V) (hw : ws.length ≤ 10) (σ : Hp) (hn : σ[n]? = some (.lst ws)) (t2 t3 t4 : Option V) : ∃ t3' t4',
    columnsF1_b1 a [some (.str r.ld), some (.ref n), some (.int s), t3, t4] σ = some (.next, [some (.str r.ld), some (.ref n), some (.int s), t3', t4'], σ.set n (.lst (ws ++ [.int ((colL s r.ld.cps.toList 0).getD 0)]))) := by
  have s5 : 1 ≤ s ∧ s ≤ 5 := by simp at hs; omega
  have h0 : ((s : Int) != 0) = true := by simp; omega
  obtain ⟨t', e⟩ := col_loop a (some (.str r.ld)) (some (.ref n)) (s := (s : Int)) (okI_nat s (by omega)) h0 σ _ 0 _ t4 (col_some hr hs)
  refine ⟨some (.int ((colL s r.ld.cps.toList 0).getD 0)), t', ?_⟩
  have hb : Nat.ble ws.length lmax = true := ble_lmax _ (by omega)
  unfold columnsF1_b1
  refine seq_go (loc₁ := [some (.str r.ld), some (.ref n), some (.int s), some (.int 0), t4]) (σ₁ := σ) rfl ?_
  have hf := forS_go (tgt := nmA 4) (fb := columnsF1_b0 a) (fi := nmE 0) (loc := [some (.str r.ld), some (.ref n), some (.int s), some (.int 0), t4]) (σ := σ) (σ₁ := σ) (v := .str r.ld) (ws := r.ld.cps.toList.map fun ch => .str ⟨#[ch]⟩) (b := none) rfl (by simp only [srcOf, ld_asc hr, if_true]) e
  refine seq_go hf ?_
  refine seq_go (loc₁ := [some (.str r.ld), some (.ref n), some (.int s), some (.int ((colL s r.ld.cps.toList 0).getD 0)), t']) (σ₁ := σ.set n (.lst (ws ++ [.int ((colL s r.ld.cps.toList 0).getD 0)]))) (by
    simp only [giveBack, exprS_e, methE_e, argsE_cons, argsE_nil, nmE_e, List.getElem?_cons_succ, List.getElem?_cons_zero, chkRef_e, hn, if_true, List.cons_append, List.nil_append, appF_e, hb]) rfl
theorem cols_run (a : Ad) {r : R} (hr : r.ok) (σ : Hp) (hlow : σ.all (SO.lowB σ.length) = true) : columnsF1 a [.str r.ld] σ = some (.lst (r.co.map .int), σ) := by
  have hM : ∀ ws : List V, (σ ++ [SO.lst ws])[σ.length]? = some (.lst ws) := fun ws => by simp
  have hS : ∀ (ws : List V) (z : SO), (σ ++ [SO.lst ws]).set σ.length z = σ ++ [z] := fun ws z => by simp
  have turn := fun (s : Nat) (hs : s ∈ [1, 2, 3, 4, 5]) (ws : List V) (hw : ws.length ≤ 10) (t3 t4 : Option V) => col_turn a hr hs σ.length ws hw (σ ++ [.lst ws]) (hM ws) none t3 t4
  simp only [hS] at turn
  obtain ⟨p3, p4, e1⟩ := turn 1 (by simp) [] (by simp) none none
  obtain ⟨q3, q4, e2⟩ := turn 2 (by simp) ([] ++ [(V.int ((colL ((1 : Nat) : Int) r.ld.cps.toList 0).getD 0))]) (Nat.le_of_ble_eq_true rfl) p3 p4
  obtain ⟨u3, u4, e3⟩ := turn 3 (by simp) (([] ++ [(V.int ((colL ((1 : Nat) : Int) r.ld.cps.toList 0).getD 0))]) ++ [(V.int ((colL ((2 : Nat) : Int) r.ld.cps.toList 0).getD 0))]) (Nat.le_of_ble_eq_true rfl) q3 q4
  obtain ⟨v3, v4, e4⟩ := turn 4 (by simp) ((([] ++ [(V.int ((colL ((1 : Nat) : Int) r.ld.cps.toList 0).getD 0))]) ++ [(V.int ((colL ((2 : Nat) : Int) r.ld.cps.toList 0).getD 0))]) ++ [(V.int ((colL ((3 : Nat) : Int) r.ld.cps.toList 0).getD 0))]) (Nat.le_of_ble_eq_true rfl) u3 u4
  obtain ⟨w3, w4, e5⟩ := turn 5 (by simp) (((([] ++ [(V.int ((colL ((1 : Nat) : Int) r.ld.cps.toList 0).getD 0))]) ++ [(V.int ((colL ((2 : Nat) : Int) r.ld.cps.toList 0).getD 0))]) ++ [(V.int ((colL ((3 : Nat) : Int) r.ld.cps.toList 0).getD 0))]) ++ [(V.int ((colL ((4 : Nat) : Int) r.ld.cps.toList 0).getD 0))]) (Nat.le_of_ble_eq_true rfl) v3 v4
  have hr5 : rngL 1 6 = [.int (1 : Nat), .int (2 : Nat), .int (3 : Nat), .int (4 : Nat), .int (5 : Nat)] := rfl
  have hl : forL (nmA 2) (columnsF1_b1 a) (rngL 1 6) [some (.str r.ld), some (.ref σ.length), none, none, none] (σ ++ [.lst []]) = some (.next, [some (.str r.ld), some (.ref σ.length), some (.int (5 : Nat)), w3, w4], σ ++ [.lst (r.co.map .int)]) := by
    rw [hr5]
    exact for_step rfl e1 (for_step rfl e2 (for_step rfl e3 (for_step rfl e4 (for_step rfl e5 rfl))))
  have hrun : fnF 1 5 false (columnsF1_sh a) [.str r.ld] σ = some (.ref σ.length, σ ++ [.lst (r.co.map .int)]) := by
    unfold fnF
    rw [if_pos (by rfl)]
    simp only [columnsF1_sh]
    show (match seqS _ _ [some (.str r.ld), none, none, none, none] σ with | some (.ret v, _, σ') => some (v, σ') | some (.next, _, σ') => some (V.none, σ') | _ => none) = _
    rw [seq_go (loc₁ := [some (.str r.ld), some (.ref σ.length), none, none, none]) (σ₁ := σ ++ [.lst []]) rfl rfl]
    rw [seq_go (forS_go (v := .rng 1 6) (σ₁ := σ ++ [.lst []]) rfl (srcOf_rng (by omega) (by omega)) hl) rfl]
    rfl
  have hlo : V.lowBs σ.length (r.co.map V.int) = true := by
    generalize r.co = l
    induction l with
    | nil => rfl
    | cons i l ih => simp [V.lowBs, V.lowB, ih]
  unfold columnsF1 trF
  rw [hrun]
  have e1 : V.frz σ.length (σ ++ [.lst (r.co.map .int)]) (.ref σ.length) = .lst (r.co.map .int) := by simp [V.frz]
  have e2 : (σ ++ [SO.lst (r.co.map .int)]).take σ.length = σ := by simp
  simp only [trunc, e1, e2, V.lowB, hlo, hlow, Bool.and_self, if_true]
end Mine
namespace Mine
open PySem PySem.Spec PySem.Calls PyProof.Rows PySem.W
noncomputable def keyV (r : R) : V := .tup [.lst (r.co.map .int), .int (r.w / 2 : Nat)]
noncomputable def prE (e : En) : V := .tup [keyV e.1, .str e.1.nm, .str (e.1.vl e.2)]
noncomputable def prs (es : List En) : List V := es.map prE
theorem key_data (r : R) : (keyV r).data = some (.tuple [.list (r.co.map .int), .int (r.w / 2 : Nat)]) := by simp [keyV, V.data, V.datas, datas_ints]
theorem key_depth (r : R) : (PyData.tuple [.list (r.co.map .int), .int (r.w / 2 : Nat)]).depth ≤ 2 := by simp [PyData.depth, PyData.depthAll, depth_ints]
theorem key_eq {q r : R} (hq : q.ok) (hr : r.ok) (neg : Bool) (σ : Hp) : eqF neg [keyV q, keyV r] σ = some (.bool (neg != (q.cl == r.cl)), σ) := by
  have h1 := key_data q
  have h2 := key_data r
  have h3 := key_depth q
  have hb : Nat.ble (min (PyData.tuple [.list (q.co.map .int), .int (q.w / 2 : Nat)]).depth (PyData.tuple [.list (r.co.map .int), .int (r.w / 2 : Nat)]).depth) 30 = true := ble_of (by omega)
  have he : PyData.eqv (.tuple [.list (q.co.map .int), .int (q.w / 2 : Nat)]) (.tuple [.list (r.co.map .int), .int (r.w / 2 : Nat)]) = (q.cl == r.cl) := by
    rw [← key_cl hr hq]
    simp [PyData.eqv, PyData.eqvAll, eqvAll_ints]
    by_cases h : q.co = r.co <;> by_cases h2 : q.w / 2 = r.w / 2 <;> simp [h, h2] <;> omega
  unfold keyV at h1 h2 ⊢
  simp only [eqF, h1, h2, hb, if_true, he]
theorem co_eq {q r : R} (hq : q.ok) (hr : r.ok) (σ : Hp) : eqF false [.lst (q.co.map .int), .lst (r.co.map .int)] σ = some (.bool (q.lc == r.lc), σ) := by
  rw [← (co_lc hr hq).1]
  simp [eqF, V.data, V.datas, datas_ints, PyData.eqv, PyData.eqvAll, eqvAll_ints, PyData.depth, PyData.depthAll, depth_ints]
theorem idx_key (r : R) (σ : Hp) : idxF [keyV r, .int 0] σ = some (.lst (r.co.map .int), σ) := idx_zero _ _ σ
theorem idx_pr (e : En) (σ : Hp) : idxF [prE e, .int 0] σ = some (keyV e.1, σ) := by simp [prE, idxF, okI, ixOf]
noncomputable def vds (es : List En) : List PyData := es.map fun e => .str (e.1.vl e.2)
theorem vls_datas {es : List En} (h : ∀ x ∈ es, x.ok) : V.datas (vls es) = some (vds es) := by
  induction es with
  | nil => rfl
  | cons e es ih =>
    have ih := ih fun x hx => h x (by simp [hx])
    have hs := (vl_ok (h e (by simp)).1 (h e (by simp)).2).s
    unfold vls vds at ih ⊢
    simp only [List.map_cons, V.datas, V.data, hs, if_true, ih]
theorem nil_eq {es : List En} (h : ∀ x ∈ es, x.ok) (neg : Bool) (σ : Hp) : eqF neg [.lst (vls es), .lst []] σ = some (.bool (neg != es.isEmpty), σ) := by
  have h1 : V.data (.lst (vls es)) = some (.list (vds es)) := by simp only [V.data, vls_datas h]
  have hb : Nat.ble (min (PyData.list (vds es)).depth (PyData.list []).depth) 30 = true := ble_of (Nat.le_trans (Nat.min_le_right _ _) (by decide))
  have he : PyData.eqv (.list (vds es)) (.list []) = es.isEmpty := by cases es <;> rfl
  simp only [eqF, V.data, V.datas, vls_datas h, hb, if_true, he]
theorem all3 {i : Nat} {test : ST} {elt : SE} {σ : Hp} {loc : Loc} {p : En → Bool} {f : En → V} (hl : i + 2 < loc.length) (es : List En)
    (h : ∀ (e : En) (x y z : Option V), e ∈ es → test (((loc.set i (some (keyV e.1))).set (i + 1) (some (.str e.1.nm))).set (i + 2) (some (.str (e.1.vl e.2)))) σ = some (p e, σ) ∧
      elt (((loc.set i (some (keyV e.1))).set (i + 1) (some (.str e.1.nm))).set (i + 2) (some (.str (e.1.vl e.2)))) σ = some (f e, σ)) :
    cmpL (tupT [nmA i, nmA (i + 1), nmA (i + 2)]) test elt (prs es) (clr [i, i + 1, i + 2] loc) σ = some ((es.filter p).map f, σ) := by
  refine cmpL_abs (L := fun l => ∃ x y z, l = ((loc.set i x).set (i + 1) y).set (i + 2) z) es _ ⟨none, none, none, rfl⟩ ?_
  rintro l e ⟨x, y, z, rfl⟩ he
  obtain ⟨h1, h2⟩ := h e x y z he
  refine ⟨((loc.set i (some (keyV e.1))).set (i + 1) (some (.str e.1.nm))).set (i + 2) (some (.str (e.1.vl e.2))), ?_, ⟨_, _, _, rfl⟩, h1, fun _ => h2⟩
  have l1 : i < loc.length := by omega
  have l2 : i + 1 < loc.length := by omega
  simp only [prE, tupT_e, tupA_cons, tupA_nil, nmA_e, List.length_set, l1, l2, hl, if_true]
  congr 2
  refine List.ext_getElem? fun j => ?_
  simp only [List.getElem?_set, List.length_set]
  by_cases j1 : i = j
  · subst j1; simp
  · by_cases j2 : i + 1 = j
    · subst j2; simp
    · by_cases j3 : i + 2 = j
      · subst j3; simp
      · simp [j1, j2, j3]
theorem find_filter (es : List En) (r : R) : (es.filter (sm r)).head? = es.find? (sm r) := by
  rw [List.head?_filter]
end Mine
namespace Mine
open PySem PySem.Spec PySem.Calls PyProof.Rows PySem.W
theorem drop_cmp {es : List En} {r : R} {p n2 : Nat} (hes : ∀ x ∈ es, x.ok) (hr : r.ok) (hp : p < 14) (hn : es.length ≤ 1000) (σ : Hp) (loc : Loc) (h8 : loc[8]? = some (some (keyV r))) (hl : loc.length = 30) (h1 : loc[1]? = some (some (.lst (prs es)))) : cmpV dueF1_vars2 [20] (nmA 20) (cmT (op2 (eqF true) (op2 idxF (nmE 20) (kE (.int 0))) (nmE 8))) (nmE 20) (nmE 1) loc σ = some (.lst (prs (es.filter fun x => !sm r x)), σ) := by
  refine cmp_go2 (v := .lst (prs es)) (σ₁ := σ) (by simp only [nmE_e, h1]) rfl rfl (by simp [prs]; omega) ?_
  have := cmpL_abs (tgt := nmA 20) (test := cmT (op2 (eqF true) (op2 idxF (nmE 20) (kE (.int 0))) (nmE 8))) (elt := nmE 20) (σ := σ) (L := fun l => ∃ x, l = loc.set 20 x) (v := prE) (f := prE) (p := fun x => !sm r x) es (clr [20] loc) ⟨none, rfl⟩ (by
    rintro l e ⟨x, rfl⟩ he
    have h20 : (loc.set 20 (some (prE e)))[20]? = some (some (prE e)) := by rw [List.getElem?_set_self (by omega)]
    have h8' : (loc.set 20 (some (prE e)))[8]? = some (some (keyV r)) := by rw [List.getElem?_set_ne (by decide)]; exact h8
    refine ⟨loc.set 20 (some (prE e)), by simp [hl], ⟨_, rfl⟩, ?_, fun _ => by simp only [nmE_e, h20]⟩
    simp only [cmT_e, op2_e, nmE_e, kE_e, h20, idx_pr, h8', key_eq (hes e he).1 hr, trV_b, Bool.true_bne]
    rfl)
  exact this
theorem add_pr {es : List En} {r : R} {p : Nat} (hn : es.length ≤ 200) (σ : Hp) : addF [.lst (prs es), .lst [.tup [keyV r, .str r.nm, .str (r.vl p)]]] σ = some (.lst (prs (es ++ [(r, p)])), σ) := by
  have : prs es ++ [.tup [keyV r, .str r.nm, .str (r.vl p)]] = prs (es ++ [(r, p)]) := by simp [prs, prE]
  have hb : (prs es).length + 1 ≤ lmax := by simp [prs, lmax]; omega
  show addL [.lst (prs es), .lst [.tup [keyV r, .str r.nm, .str (r.vl p)]]] σ = _
  simp [addL, lstOf, this, hb]
theorem tstT (a : Nat) (k : Int) (loc : Loc) (σ : Hp) (e : (a : Int) = k) (h : loc[5]? = some (some (.int a))) : cmT (op2 (eqF false) (nmE 5) (kE (.int k))) loc σ = some (true, σ) := by
  simp only [cmT_e, op2_e, nmE_e, kE_e, h, eqF_int, trV_b]
  subst e; simp
theorem tstF (a : Nat) (k : Int) (loc : Loc) (σ : Hp) (e : (a : Int) ≠ k) (h : loc[5]? = some (some (.int a))) : cmT (op2 (eqF false) (nmE 5) (kE (.int k))) loc σ = some (false, σ) := by
  simp only [cmT_e, op2_e, nmE_e, kE_e, h, eqF_int, trV_b]
  have : ((a : Int) == k) = false := beq_eq_false_iff_ne.mpr e
  simp [this]
theorem if_yes {t : ST} {st : SS} {loc loc' : Loc} {σ τ : Hp} (h : t loc σ = some (true, σ)) (hs : st loc σ = some (.next, loc', τ)) : ifS t (seqS st nilS) nilS loc σ = some (.next, loc', τ) := by
  rw [ifS_e, h]; exact seq_go hs rfl
theorem if_no {t : ST} {p : SS} {loc : Loc} {σ : Hp} (h : t loc σ = some (false, σ)) : ifS t p nilS loc σ = some (.next, loc, σ) := by
  rw [ifS_e, h]; rfl
theorem and_f {f : ST} {fs : List ST} {loc : Loc} {σ : Hp} (h : f loc σ = some (false, σ)) : allT .And (f :: fs) loc σ = some (false, σ) := by simp only [allT, h]
theorem and_t {f : ST} {fs : List ST} {loc : Loc} {σ : Hp} {b : Bool} (h : f loc σ = some (true, σ)) (k : allT .And fs loc σ = some (b, σ)) : allT .And (f :: fs) loc σ = some (b, σ) := by simp only [allT, h, k]
theorem or_t {f : ST} {fs : List ST} {loc : Loc} {σ : Hp} (h : f loc σ = some (true, σ)) : allT .Or (f :: fs) loc σ = some (true, σ) := by simp only [allT, h]
theorem or_f {f : ST} {fs : List ST} {loc : Loc} {σ : Hp} {b : Bool} (h : f loc σ = some (false, σ)) (k : allT .Or fs loc σ = some (b, σ)) : allT .Or (f :: fs) loc σ = some (b, σ) := by simp only [allT, h, k]
theorem due_ops {es : List En} {r : R} {p n2 : Nat} (hes : ∀ x ∈ es, x.ok) (hr : r.ok) (hp : p < 14) (hn : es.length ≤ 100) (σ : Hp) {d : Nat} (hd : d < 5) (l0 t13 t14 t15 : Option V) (t16 t17 t18 t19 t20 t21 t22 t23 t24 t25 t26 t27 t28 t29 : Option V) (rest : SS) :
    seqS (ifS (cmT (op2 (eqF false) (nmE 5) (kE (.int 2)))) (seqS (asgS 12 (ifE (cmT (op2 (eqF true) (nmE 11) (lstE []))) (op2 idxF (nmE 11) (kE (.int 0))) (nmE 7))) (nilS)) (nilS)) (seqS (ifS (allT .And [cmT (op2 (eqF false) (nmE 5) (kE (.int 4))), cmT (op2 (inF false) (kE (.str "\t")) (nmE 3))]) (seqS (asgS 12 (kE (.str "refused"))) (nilS)) (nilS)) (seqS (ifS (allT .Or [cmT (op2 (eqF false) (nmE 5) (kE (.int 1))), cmT (op2 (eqF false) (nmE 5) (kE (.int 3)))]) (seqS (asgS 1 (cmpV dueF1_vars2 [20] (nmA 20) (cmT (op2 (eqF true) (op2 idxF (nmE 20) (kE (.int 0))) (nmE 8))) (nmE 20) (nmE 1))) (nilS)) (nilS)) (seqS (ifS (allT .Or [cmT (op2 (int2 ltI) (nmE 5) (kE (.int 2))), allT .And [cmT (op2 (eqF false) (nmE 5) (kE (.int 2))), cmT (op2 (eqF false) (nmE 11) (lstE []))], allT .And [cmT (op2 (eqF false) (nmE 5) (kE (.int 4))), cmT (op2 (inF true) (kE (.str "\t")) (nmE 3))]]) (seqS (asgS 1 (op2 addF (nmE 1) (lstE [tupE [nmE 8, nmE 10, nmE 7]]))) (nilS)) (nilS)) rest))) [l0, some (.lst (prs es)), some (.ref n2), some (.str r.ld), some (.str r.tu), some (.int d), some (.int r.w), some (.str (r.vl p)), some (keyV r), some (.lst (r.runs.map .str)), some (.str r.nm), some (.lst (vls (es.filter (sm r)))), some (.str ("done" : Str)), t13, t14, t15, t16, t17, t18, t19, t20, t21, t22, t23, t24, t25, t26, t27, t28, t29] σ = rest [l0, some (.lst (prs (step d (r, p) es))), some (.ref n2), some (.str r.ld), some (.str r.tu), some (.int d), some (.int r.w), some (.str (r.vl p)), some (keyV r), some (.lst (r.runs.map .str)), some (.str r.nm), some (.lst (vls (es.filter (sm r)))), some (.str (ans d (r, p) es)), t13, t14, t15, t16, t17, t18, t19, t20, t21, t22, t23, t24, t25, t26, t27, t28, t29] σ := by
  have tab : ∀ (neg : Bool) (loc : Loc), loc[3]? = some (some (.str r.ld)) → cmT (op2 (inF neg) (kE (.str "\t")) (nmE 3)) loc σ = some (neg != !(r.f == 0), σ) := fun neg loc h => by
    simp only [cmT_e, op2_e, kE_e, nmE_e, h, tab_in hr, trV_b]
  have hef : ∀ x ∈ es.filter (sm r), x.ok := fun x hx => hes x (List.mem_filter.mp hx).1
  have nil : ∀ (neg : Bool) (loc : Loc), loc[11]? = some (some (.lst (vls (es.filter (sm r))))) → cmT (op2 (eqF neg) (nmE 11) (lstE [])) loc σ = some (neg != (es.filter (sm r)).isEmpty, σ) := fun neg loc h => by
    simp only [cmT_e, op2_e, nmE_e, h, lstE_e, argsE_nil, nil_eq hef, trV_b]
  have lf : (es.filter fun x => !sm r x).length ≤ 200 := Nat.le_trans (List.length_filter_le _ _) (by omega)
  have hdc : d = 0 ∨ d = 1 ∨ d = 2 ∨ d = 3 ∨ d = 4 := by omega
  rcases hdc with rfl | rfl | rfl | rfl | rfl
  · refine seq_go (loc₁ := [l0, some (.lst (prs es)), some (.ref n2), some (.str r.ld), some (.str r.tu), some (.int (0 : Nat)), some (.int r.w), some (.str (r.vl p)), some (keyV r), some (.lst (r.runs.map .str)), some (.str r.nm), some (.lst (vls (es.filter (sm r)))), some (.str ("done" : Str)), t13, t14, t15, t16, t17, t18, t19, t20, t21, t22, t23, t24, t25, t26, t27, t28, t29]) (σ₁ := σ) (if_no (tstF 0 2 _ σ (by decide) rfl)) ?_
    refine seq_go (loc₁ := [l0, some (.lst (prs es)), some (.ref n2), some (.str r.ld), some (.str r.tu), some (.int (0 : Nat)), some (.int r.w), some (.str (r.vl p)), some (keyV r), some (.lst (r.runs.map .str)), some (.str r.nm), some (.lst (vls (es.filter (sm r)))), some (.str ("done" : Str)), t13, t14, t15, t16, t17, t18, t19, t20, t21, t22, t23, t24, t25, t26, t27, t28, t29]) (σ₁ := σ) (if_no (and_f (tstF 0 4 _ σ (by decide) rfl))) ?_
    refine seq_go (loc₁ := [l0, some (.lst (prs es)), some (.ref n2), some (.str r.ld), some (.str r.tu), some (.int (0 : Nat)), some (.int r.w), some (.str (r.vl p)), some (keyV r), some (.lst (r.runs.map .str)), some (.str r.nm), some (.lst (vls (es.filter (sm r)))), some (.str ("done" : Str)), t13, t14, t15, t16, t17, t18, t19, t20, t21, t22, t23, t24, t25, t26, t27, t28, t29]) (σ₁ := σ) (if_no (or_f (tstF 0 1 _ σ (by decide) rfl) (or_f (tstF 0 3 _ σ (by decide) rfl) rfl))) ?_
    refine seq_go (loc₁ := [l0, some (.lst (prs (step 0 (r, p) es))), some (.ref n2), some (.str r.ld), some (.str r.tu), some (.int (0 : Nat)), some (.int r.w), some (.str (r.vl p)), some (keyV r), some (.lst (r.runs.map .str)), some (.str r.nm), some (.lst (vls (es.filter (sm r)))), some (.str ("done" : Str)), t13, t14, t15, t16, t17, t18, t19, t20, t21, t22, t23, t24, t25, t26, t27, t28, t29]) (σ₁ := σ) (if_yes (or_t (show cmT (op2 (int2 ltI) (nmE 5) (kE (.int 2))) _ σ = some (true, σ) from rfl)) (by rw [asgS_e, op2_e, nmE_e]; simp only [List.getElem?_cons_succ, List.getElem?_cons_zero, lstE_e, argsE_cons, argsE_nil, tupE_e, nmE_e, add_pr (r := r) (p := p) (show es.length ≤ 200 by omega)]; rfl)) ?_
    rfl
  · refine seq_go (loc₁ := [l0, some (.lst (prs es)), some (.ref n2), some (.str r.ld), some (.str r.tu), some (.int (1 : Nat)), some (.int r.w), some (.str (r.vl p)), some (keyV r), some (.lst (r.runs.map .str)), some (.str r.nm), some (.lst (vls (es.filter (sm r)))), some (.str ("done" : Str)), t13, t14, t15, t16, t17, t18, t19, t20, t21, t22, t23, t24, t25, t26, t27, t28, t29]) (σ₁ := σ) (if_no (tstF 1 2 _ σ (by decide) rfl)) ?_
    refine seq_go (loc₁ := [l0, some (.lst (prs es)), some (.ref n2), some (.str r.ld), some (.str r.tu), some (.int (1 : Nat)), some (.int r.w), some (.str (r.vl p)), some (keyV r), some (.lst (r.runs.map .str)), some (.str r.nm), some (.lst (vls (es.filter (sm r)))), some (.str ("done" : Str)), t13, t14, t15, t16, t17, t18, t19, t20, t21, t22, t23, t24, t25, t26, t27, t28, t29]) (σ₁ := σ) (if_no (and_f (tstF 1 4 _ σ (by decide) rfl))) ?_
    refine seq_go (loc₁ := [l0, some (.lst (prs (es.filter fun x => !sm r x))), some (.ref n2), some (.str r.ld), some (.str r.tu), some (.int (1 : Nat)), some (.int r.w), some (.str (r.vl p)), some (keyV r), some (.lst (r.runs.map .str)), some (.str r.nm), some (.lst (vls (es.filter (sm r)))), some (.str ("done" : Str)), t13, t14, t15, t16, t17, t18, t19, t20, t21, t22, t23, t24, t25, t26, t27, t28, t29]) (σ₁ := σ) (if_yes (or_t (tstT 1 1 _ σ (by decide) rfl)) (by rw [asgS_e, drop_cmp hes hr hp (show es.length ≤ 1000 by omega) (n2 := n2) σ _ rfl rfl rfl]; rfl)) ?_
    refine seq_go (loc₁ := [l0, some (.lst (prs (step 1 (r, p) es))), some (.ref n2), some (.str r.ld), some (.str r.tu), some (.int (1 : Nat)), some (.int r.w), some (.str (r.vl p)), some (keyV r), some (.lst (r.runs.map .str)), some (.str r.nm), some (.lst (vls (es.filter (sm r)))), some (.str ("done" : Str)), t13, t14, t15, t16, t17, t18, t19, t20, t21, t22, t23, t24, t25, t26, t27, t28, t29]) (σ₁ := σ) (if_yes (or_t (show cmT (op2 (int2 ltI) (nmE 5) (kE (.int 2))) _ σ = some (true, σ) from rfl)) (by rw [asgS_e, op2_e, nmE_e]; simp only [List.getElem?_cons_succ, List.getElem?_cons_zero, lstE_e, argsE_cons, argsE_nil, tupE_e, nmE_e, add_pr (r := r) (p := p) (show (es.filter fun x => !sm r x).length ≤ 200 by omega)]; rfl)) ?_
    rfl
  · by_cases hfi : es.filter (sm r) = []
    · have hfd : es.find? (sm r) = none := by rw [← find_filter, hfi]; rfl
      have s1 : step 2 (r, p) es = es ++ [(r, p)] := by simp only [step, hfd]
      have s2 : ans 2 (r, p) es = r.vl p := by simp only [ans, hfd]
      rw [s1, s2]
      refine seq_go (loc₁ := [l0, some (.lst (prs es)), some (.ref n2), some (.str r.ld), some (.str r.tu), some (.int (2 : Nat)), some (.int r.w), some (.str (r.vl p)), some (keyV r), some (.lst (r.runs.map .str)), some (.str r.nm), some (.lst (vls (es.filter (sm r)))), some (.str (r.vl p)), t13, t14, t15, t16, t17, t18, t19, t20, t21, t22, t23, t24, t25, t26, t27, t28, t29]) (σ₁ := σ) (if_yes (tstT 2 2 _ σ (by decide) rfl) (by rw [asgS_e, ifE_e, (nil true _ rfl).trans (by rw [hfi])]; rfl)) ?_
      refine seq_go (loc₁ := [l0, some (.lst (prs es)), some (.ref n2), some (.str r.ld), some (.str r.tu), some (.int (2 : Nat)), some (.int r.w), some (.str (r.vl p)), some (keyV r), some (.lst (r.runs.map .str)), some (.str r.nm), some (.lst (vls (es.filter (sm r)))), some (.str (r.vl p)), t13, t14, t15, t16, t17, t18, t19, t20, t21, t22, t23, t24, t25, t26, t27, t28, t29]) (σ₁ := σ) (if_no (and_f (tstF 2 4 _ σ (by decide) rfl))) ?_
      refine seq_go (loc₁ := [l0, some (.lst (prs es)), some (.ref n2), some (.str r.ld), some (.str r.tu), some (.int (2 : Nat)), some (.int r.w), some (.str (r.vl p)), some (keyV r), some (.lst (r.runs.map .str)), some (.str r.nm), some (.lst (vls (es.filter (sm r)))), some (.str (r.vl p)), t13, t14, t15, t16, t17, t18, t19, t20, t21, t22, t23, t24, t25, t26, t27, t28, t29]) (σ₁ := σ) (if_no (or_f (tstF 2 1 _ σ (by decide) rfl) (or_f (tstF 2 3 _ σ (by decide) rfl) rfl))) ?_
      refine seq_go (loc₁ := [l0, some (.lst (prs (es ++ [(r, p)]))), some (.ref n2), some (.str r.ld), some (.str r.tu), some (.int (2 : Nat)), some (.int r.w), some (.str (r.vl p)), some (keyV r), some (.lst (r.runs.map .str)), some (.str r.nm), some (.lst (vls (es.filter (sm r)))), some (.str (r.vl p)), t13, t14, t15, t16, t17, t18, t19, t20, t21, t22, t23, t24, t25, t26, t27, t28, t29]) (σ₁ := σ) (if_yes (or_f (show cmT (op2 (int2 ltI) (nmE 5) (kE (.int 2))) _ σ = some (false, σ) from rfl) (or_t (and_t (tstT 2 2 _ σ (by decide) rfl) (and_t ((nil false _ rfl).trans (by rw [hfi]; rfl)) rfl)))) (by rw [asgS_e, op2_e, nmE_e]; simp only [List.getElem?_cons_succ, List.getElem?_cons_zero, lstE_e, argsE_cons, argsE_nil, tupE_e, nmE_e, add_pr (r := r) (p := p) (show es.length ≤ 200 by omega)]; rfl)) ?_
      rfl
    · obtain ⟨e, fs, hfi⟩ := List.exists_cons_of_ne_nil hfi
      have hix : ∀ loc : Loc, loc[11]? = some (some (.lst (vls (es.filter (sm r))))) → op2 idxF (nmE 11) (kE (.int 0)) loc σ = some (.str (e.1.vl e.2), σ) := fun loc h => by
        rw [hfi] at h
        have hz : ixOf 0 (vls (e :: fs)).length = some 0 := by simp [ixOf, vls]
        have ho : okI 0 = true := by decide
        simp only [op2_e, nmE_e, h, kE_e, idxF, ho, if_true, lstOf, hz]
        rfl
      have hem : (es.filter (sm r)).isEmpty = false := by rw [hfi]; rfl
      have hfd : es.find? (sm r) = some e := by rw [← find_filter, hfi]; rfl
      have s1 : step 2 (r, p) es = es := by simp only [step, hfd]
      have s2 : ans 2 (r, p) es = e.1.vl e.2 := by simp only [ans, hfd]
      rw [s1, s2]
      refine seq_go (loc₁ := [l0, some (.lst (prs es)), some (.ref n2), some (.str r.ld), some (.str r.tu), some (.int (2 : Nat)), some (.int r.w), some (.str (r.vl p)), some (keyV r), some (.lst (r.runs.map .str)), some (.str r.nm), some (.lst (vls (es.filter (sm r)))), some (.str (e.1.vl e.2)), t13, t14, t15, t16, t17, t18, t19, t20, t21, t22, t23, t24, t25, t26, t27, t28, t29]) (σ₁ := σ) (if_yes (tstT 2 2 _ σ (by decide) rfl) (by rw [asgS_e, ifE_e, nil true _ rfl, hem]; simp only [Bool.true_bne, Bool.not_false]; rw [hix _ rfl]; rfl)) ?_
      refine seq_go (loc₁ := [l0, some (.lst (prs es)), some (.ref n2), some (.str r.ld), some (.str r.tu), some (.int (2 : Nat)), some (.int r.w), some (.str (r.vl p)), some (keyV r), some (.lst (r.runs.map .str)), some (.str r.nm), some (.lst (vls (es.filter (sm r)))), some (.str (e.1.vl e.2)), t13, t14, t15, t16, t17, t18, t19, t20, t21, t22, t23, t24, t25, t26, t27, t28, t29]) (σ₁ := σ) (if_no (and_f (tstF 2 4 _ σ (by decide) rfl))) ?_
      refine seq_go (loc₁ := [l0, some (.lst (prs es)), some (.ref n2), some (.str r.ld), some (.str r.tu), some (.int (2 : Nat)), some (.int r.w), some (.str (r.vl p)), some (keyV r), some (.lst (r.runs.map .str)), some (.str r.nm), some (.lst (vls (es.filter (sm r)))), some (.str (e.1.vl e.2)), t13, t14, t15, t16, t17, t18, t19, t20, t21, t22, t23, t24, t25, t26, t27, t28, t29]) (σ₁ := σ) (if_no (or_f (tstF 2 1 _ σ (by decide) rfl) (or_f (tstF 2 3 _ σ (by decide) rfl) rfl))) ?_
      refine seq_go (loc₁ := [l0, some (.lst (prs es)), some (.ref n2), some (.str r.ld), some (.str r.tu), some (.int (2 : Nat)), some (.int r.w), some (.str (r.vl p)), some (keyV r), some (.lst (r.runs.map .str)), some (.str r.nm), some (.lst (vls (es.filter (sm r)))), some (.str (e.1.vl e.2)), t13, t14, t15, t16, t17, t18, t19, t20, t21, t22, t23, t24, t25, t26, t27, t28, t29]) (σ₁ := σ) (if_no (or_f (show cmT (op2 (int2 ltI) (nmE 5) (kE (.int 2))) _ σ = some (false, σ) from rfl) (or_f (and_t (tstT 2 2 _ σ (by decide) rfl) (and_f ((nil false _ rfl).trans (by rw [hfi]; rfl)))) (or_f (and_f (tstF 2 4 _ σ (by decide) rfl)) rfl)))) ?_
      rfl
  · refine seq_go (loc₁ := [l0, some (.lst (prs es)), some (.ref n2), some (.str r.ld), some (.str r.tu), some (.int (3 : Nat)), some (.int r.w), some (.str (r.vl p)), some (keyV r), some (.lst (r.runs.map .str)), some (.str r.nm), some (.lst (vls (es.filter (sm r)))), some (.str ("done" : Str)), t13, t14, t15, t16, t17, t18, t19, t20, t21, t22, t23, t24, t25, t26, t27, t28, t29]) (σ₁ := σ) (if_no (tstF 3 2 _ σ (by decide) rfl)) ?_
    refine seq_go (loc₁ := [l0, some (.lst (prs es)), some (.ref n2), some (.str r.ld), some (.str r.tu), some (.int (3 : Nat)), some (.int r.w), some (.str (r.vl p)), some (keyV r), some (.lst (r.runs.map .str)), some (.str r.nm), some (.lst (vls (es.filter (sm r)))), some (.str ("done" : Str)), t13, t14, t15, t16, t17, t18, t19, t20, t21, t22, t23, t24, t25, t26, t27, t28, t29]) (σ₁ := σ) (if_no (and_f (tstF 3 4 _ σ (by decide) rfl))) ?_
    refine seq_go (loc₁ := [l0, some (.lst (prs (es.filter fun x => !sm r x))), some (.ref n2), some (.str r.ld), some (.str r.tu), some (.int (3 : Nat)), some (.int r.w), some (.str (r.vl p)), some (keyV r), some (.lst (r.runs.map .str)), some (.str r.nm), some (.lst (vls (es.filter (sm r)))), some (.str ("done" : Str)), t13, t14, t15, t16, t17, t18, t19, t20, t21, t22, t23, t24, t25, t26, t27, t28, t29]) (σ₁ := σ) (if_yes (or_f (tstF 3 1 _ σ (by decide) rfl) (or_t (tstT 3 3 _ σ (by decide) rfl))) (by rw [asgS_e, drop_cmp hes hr hp (show es.length ≤ 1000 by omega) (n2 := n2) σ _ rfl rfl rfl]; rfl)) ?_
    refine seq_go (loc₁ := [l0, some (.lst (prs (step 3 (r, p) es))), some (.ref n2), some (.str r.ld), some (.str r.tu), some (.int (3 : Nat)), some (.int r.w), some (.str (r.vl p)), some (keyV r), some (.lst (r.runs.map .str)), some (.str r.nm), some (.lst (vls (es.filter (sm r)))), some (.str ("done" : Str)), t13, t14, t15, t16, t17, t18, t19, t20, t21, t22, t23, t24, t25, t26, t27, t28, t29]) (σ₁ := σ) (if_no (or_f (show cmT (op2 (int2 ltI) (nmE 5) (kE (.int 2))) _ σ = some (false, σ) from rfl) (or_f (and_f (tstF 3 2 _ σ (by decide) rfl)) (or_f (and_f (tstF 3 4 _ σ (by decide) rfl)) rfl)))) ?_
    rfl
  · by_cases hz : r.f = 0
    · have hz' : (r.f == 0) = true := by rw [hz]; rfl
      have s1 : step 4 (r, p) es = es ++ [(r, p)] := by simp only [step, hz, if_true]
      have s2 : ans 4 (r, p) es = "done" := by simp only [ans, hz, if_true]
      rw [s1, s2]
      refine seq_go (loc₁ := [l0, some (.lst (prs es)), some (.ref n2), some (.str r.ld), some (.str r.tu), some (.int (4 : Nat)), some (.int r.w), some (.str (r.vl p)), some (keyV r), some (.lst (r.runs.map .str)), some (.str r.nm), some (.lst (vls (es.filter (sm r)))), some (.str ("done" : Str)), t13, t14, t15, t16, t17, t18, t19, t20, t21, t22, t23, t24, t25, t26, t27, t28, t29]) (σ₁ := σ) (if_no (tstF 4 2 _ σ (by decide) rfl)) ?_
      refine seq_go (loc₁ := [l0, some (.lst (prs es)), some (.ref n2), some (.str r.ld), some (.str r.tu), some (.int (4 : Nat)), some (.int r.w), some (.str (r.vl p)), some (keyV r), some (.lst (r.runs.map .str)), some (.str r.nm), some (.lst (vls (es.filter (sm r)))), some (.str ("done" : Str)), t13, t14, t15, t16, t17, t18, t19, t20, t21, t22, t23, t24, t25, t26, t27, t28, t29]) (σ₁ := σ) (if_no (and_t (tstT 4 4 _ σ (by decide) rfl) (and_f ((tab false _ rfl).trans (by rw [hz']; rfl))))) ?_
      refine seq_go (loc₁ := [l0, some (.lst (prs es)), some (.ref n2), some (.str r.ld), some (.str r.tu), some (.int (4 : Nat)), some (.int r.w), some (.str (r.vl p)), some (keyV r), some (.lst (r.runs.map .str)), some (.str r.nm), some (.lst (vls (es.filter (sm r)))), some (.str ("done" : Str)), t13, t14, t15, t16, t17, t18, t19, t20, t21, t22, t23, t24, t25, t26, t27, t28, t29]) (σ₁ := σ) (if_no (or_f (tstF 4 1 _ σ (by decide) rfl) (or_f (tstF 4 3 _ σ (by decide) rfl) rfl))) ?_
      refine seq_go (loc₁ := [l0, some (.lst (prs (es ++ [(r, p)]))), some (.ref n2), some (.str r.ld), some (.str r.tu), some (.int (4 : Nat)), some (.int r.w), some (.str (r.vl p)), some (keyV r), some (.lst (r.runs.map .str)), some (.str r.nm), some (.lst (vls (es.filter (sm r)))), some (.str ("done" : Str)), t13, t14, t15, t16, t17, t18, t19, t20, t21, t22, t23, t24, t25, t26, t27, t28, t29]) (σ₁ := σ) (if_yes (or_f (show cmT (op2 (int2 ltI) (nmE 5) (kE (.int 2))) _ σ = some (false, σ) from rfl) (or_f (and_f (tstF 4 2 _ σ (by decide) rfl)) (or_t (and_t (tstT 4 4 _ σ (by decide) rfl) (and_t ((tab true _ rfl).trans (by rw [hz']; rfl)) rfl))))) (by rw [asgS_e, op2_e, nmE_e]; simp only [List.getElem?_cons_succ, List.getElem?_cons_zero, lstE_e, argsE_cons, argsE_nil, tupE_e, nmE_e, add_pr (r := r) (p := p) (show es.length ≤ 200 by omega)]; rfl)) ?_
      rfl
    · have hz' : (r.f == 0) = false := beq_eq_false_iff_ne.mpr hz
      have s1 : step 4 (r, p) es = es := by simp only [step, hz, if_false]
      have s2 : ans 4 (r, p) es = "refused" := by simp only [ans, hz, if_false]
      rw [s1, s2]
      refine seq_go (loc₁ := [l0, some (.lst (prs es)), some (.ref n2), some (.str r.ld), some (.str r.tu), some (.int (4 : Nat)), some (.int r.w), some (.str (r.vl p)), some (keyV r), some (.lst (r.runs.map .str)), some (.str r.nm), some (.lst (vls (es.filter (sm r)))), some (.str ("done" : Str)), t13, t14, t15, t16, t17, t18, t19, t20, t21, t22, t23, t24, t25, t26, t27, t28, t29]) (σ₁ := σ) (if_no (tstF 4 2 _ σ (by decide) rfl)) ?_
      refine seq_go (loc₁ := [l0, some (.lst (prs es)), some (.ref n2), some (.str r.ld), some (.str r.tu), some (.int (4 : Nat)), some (.int r.w), some (.str (r.vl p)), some (keyV r), some (.lst (r.runs.map .str)), some (.str r.nm), some (.lst (vls (es.filter (sm r)))), some (.str ("refused" : Str)), t13, t14, t15, t16, t17, t18, t19, t20, t21, t22, t23, t24, t25, t26, t27, t28, t29]) (σ₁ := σ) (if_yes (and_t (tstT 4 4 _ σ (by decide) rfl) (and_t ((tab false _ rfl).trans (by rw [hz']; rfl)) rfl)) rfl) ?_
      refine seq_go (loc₁ := [l0, some (.lst (prs es)), some (.ref n2), some (.str r.ld), some (.str r.tu), some (.int (4 : Nat)), some (.int r.w), some (.str (r.vl p)), some (keyV r), some (.lst (r.runs.map .str)), some (.str r.nm), some (.lst (vls (es.filter (sm r)))), some (.str ("refused" : Str)), t13, t14, t15, t16, t17, t18, t19, t20, t21, t22, t23, t24, t25, t26, t27, t28, t29]) (σ₁ := σ) (if_no (or_f (tstF 4 1 _ σ (by decide) rfl) (or_f (tstF 4 3 _ σ (by decide) rfl) rfl))) ?_
      refine seq_go (loc₁ := [l0, some (.lst (prs es)), some (.ref n2), some (.str r.ld), some (.str r.tu), some (.int (4 : Nat)), some (.int r.w), some (.str (r.vl p)), some (keyV r), some (.lst (r.runs.map .str)), some (.str r.nm), some (.lst (vls (es.filter (sm r)))), some (.str ("refused" : Str)), t13, t14, t15, t16, t17, t18, t19, t20, t21, t22, t23, t24, t25, t26, t27, t28, t29]) (σ₁ := σ) (if_no (or_f (show cmT (op2 (int2 ltI) (nmE 5) (kE (.int 2))) _ σ = some (false, σ) from rfl) (or_f (and_f (tstF 4 2 _ σ (by decide) rfl)) (or_f (and_t (tstT 4 4 _ σ (by decide) rfl) (and_f ((tab true _ rfl).trans (by rw [hz']; rfl)))) rfl)))) ?_
      rfl
theorem cA {es : List En} {r : R} {p n2 : Nat} (hes : ∀ x ∈ es, x.ok) (hr : r.ok) (hp : p < 14) (hn : es.length ≤ 1000) (σ : Hp) (loc : Loc) (h8 : loc[8]? = some (some (keyV r))) (hl : loc.length = 30) (h1 : loc[1]? = some (some (.lst (prs es)))) : cmpV dueF1_vars1 [17, 18, 19] (tupT [nmA 17, nmA 18, nmA 19]) (cmT (op2 (eqF false) (nmE 17) (nmE 8))) (nmE 19) (nmE 1) loc σ = some (.lst ((es.filter (sm r)).map (fun e => .str (e.1.vl e.2))), σ) := by
  refine cmp_go2 (v := .lst (prs es)) (σ₁ := σ) (by simp only [nmE_e, h1]) rfl rfl (by simp [prs]; omega) ?_
  refine all3 (i := 17) (by omega) es fun e x y z he => ?_
  have g0 : (((loc.set 17 (some (keyV e.1))).set (17 + 1) (some (.str e.1.nm))).set (17 + 2) (some (.str (e.1.vl e.2))))[17]? = some (some (keyV e.1)) := by rw [List.getElem?_set_ne (by decide), List.getElem?_set_ne (by decide), List.getElem?_set_self (by omega)]
  have g1 : (((loc.set 17 (some (keyV e.1))).set (17 + 1) (some (.str e.1.nm))).set (17 + 2) (some (.str (e.1.vl e.2))))[18]? = some (some (.str e.1.nm)) := by rw [List.getElem?_set_ne (by decide), List.getElem?_set_self (by simp; omega)]
  have g2 : (((loc.set 17 (some (keyV e.1))).set (17 + 1) (some (.str e.1.nm))).set (17 + 2) (some (.str (e.1.vl e.2))))[19]? = some (some (.str (e.1.vl e.2))) := by rw [List.getElem?_set_self (by simp; omega)]
  have g8 : (((loc.set 17 (some (keyV e.1))).set (17 + 1) (some (.str e.1.nm))).set (17 + 2) (some (.str (e.1.vl e.2))))[8]? = some (some (keyV r)) := by rw [List.getElem?_set_ne (by decide), List.getElem?_set_ne (by decide), List.getElem?_set_ne (by decide)]; exact h8
  have heo := (hes e he).1
  exact ⟨by simp only [cmT_e, op2_e, nmE_e, kE_e, g0, g8, idx_key, key_eq heo hr, co_eq heo hr, trV_b, Bool.false_bne]; rfl, by simp only [nmE_e, g2]⟩
theorem cB {es : List En} {r : R} {p n2 : Nat} (hes : ∀ x ∈ es, x.ok) (hr : r.ok) (hp : p < 14) (hn : es.length ≤ 1000) (σ : Hp) (loc : Loc) (h8 : loc[8]? = some (some (keyV r))) (hl : loc.length = 30) (h1 : loc[1]? = some (some (.lst (prs es)))) : cmpV dueF1_vars3 [21, 22, 23] (tupT [nmA 21, nmA 22, nmA 23]) (cmT (op2 (eqF false) (nmE 21) (nmE 8))) (nmE 23) (nmE 1) loc σ = some (.lst ((es.filter (sm r)).map (fun e => .str (e.1.vl e.2))), σ) := by
  refine cmp_go2 (v := .lst (prs es)) (σ₁ := σ) (by simp only [nmE_e, h1]) rfl rfl (by simp [prs]; omega) ?_
  refine all3 (i := 21) (by omega) es fun e x y z he => ?_
  have g0 : (((loc.set 21 (some (keyV e.1))).set (21 + 1) (some (.str e.1.nm))).set (21 + 2) (some (.str (e.1.vl e.2))))[21]? = some (some (keyV e.1)) := by rw [List.getElem?_set_ne (by decide), List.getElem?_set_ne (by decide), List.getElem?_set_self (by omega)]
  have g1 : (((loc.set 21 (some (keyV e.1))).set (21 + 1) (some (.str e.1.nm))).set (21 + 2) (some (.str (e.1.vl e.2))))[22]? = some (some (.str e.1.nm)) := by rw [List.getElem?_set_ne (by decide), List.getElem?_set_self (by simp; omega)]
  have g2 : (((loc.set 21 (some (keyV e.1))).set (21 + 1) (some (.str e.1.nm))).set (21 + 2) (some (.str (e.1.vl e.2))))[23]? = some (some (.str (e.1.vl e.2))) := by rw [List.getElem?_set_self (by simp; omega)]
  have g8 : (((loc.set 21 (some (keyV e.1))).set (21 + 1) (some (.str e.1.nm))).set (21 + 2) (some (.str (e.1.vl e.2))))[8]? = some (some (keyV r)) := by rw [List.getElem?_set_ne (by decide), List.getElem?_set_ne (by decide), List.getElem?_set_ne (by decide)]; exact h8
  have heo := (hes e he).1
  exact ⟨by simp only [cmT_e, op2_e, nmE_e, kE_e, g0, g8, idx_key, key_eq heo hr, co_eq heo hr, trV_b, Bool.false_bne]; rfl, by simp only [nmE_e, g2]⟩
theorem cC {es : List En} {r : R} {p n2 : Nat} (hes : ∀ x ∈ es, x.ok) (hr : r.ok) (hp : p < 14) (hn : es.length ≤ 1000) (σ : Hp) (loc : Loc) (h8 : loc[8]? = some (some (keyV r))) (hl : loc.length = 30) (h1 : loc[1]? = some (some (.lst (prs es)))) : cmpV dueF1_vars4 [24, 25, 26] (tupT [nmA 24, nmA 25, nmA 26]) (cmT (op2 (eqF false) (op2 idxF (nmE 24) (kE (.int 0))) (op2 idxF (nmE 8) (kE (.int 0))))) (nmE 26) (nmE 1) loc σ = some (.lst ((es.filter (lv r)).map (fun e => .str (e.1.vl e.2))), σ) := by
  refine cmp_go2 (v := .lst (prs es)) (σ₁ := σ) (by simp only [nmE_e, h1]) rfl rfl (by simp [prs]; omega) ?_
  refine all3 (i := 24) (by omega) es fun e x y z he => ?_
  have g0 : (((loc.set 24 (some (keyV e.1))).set (24 + 1) (some (.str e.1.nm))).set (24 + 2) (some (.str (e.1.vl e.2))))[24]? = some (some (keyV e.1)) := by rw [List.getElem?_set_ne (by decide), List.getElem?_set_ne (by decide), List.getElem?_set_self (by omega)]
  have g1 : (((loc.set 24 (some (keyV e.1))).set (24 + 1) (some (.str e.1.nm))).set (24 + 2) (some (.str (e.1.vl e.2))))[25]? = some (some (.str e.1.nm)) := by rw [List.getElem?_set_ne (by decide), List.getElem?_set_self (by simp; omega)]
  have g2 : (((loc.set 24 (some (keyV e.1))).set (24 + 1) (some (.str e.1.nm))).set (24 + 2) (some (.str (e.1.vl e.2))))[26]? = some (some (.str (e.1.vl e.2))) := by rw [List.getElem?_set_self (by simp; omega)]
  have g8 : (((loc.set 24 (some (keyV e.1))).set (24 + 1) (some (.str e.1.nm))).set (24 + 2) (some (.str (e.1.vl e.2))))[8]? = some (some (keyV r)) := by rw [List.getElem?_set_ne (by decide), List.getElem?_set_ne (by decide), List.getElem?_set_ne (by decide)]; exact h8
  have heo := (hes e he).1
  exact ⟨by simp only [cmT_e, op2_e, nmE_e, kE_e, g0, g8, idx_key, key_eq heo hr, co_eq heo hr, trV_b, Bool.false_bne]; rfl, by simp only [nmE_e, g2]⟩
theorem cD {es : List En} {r : R} {p n2 : Nat} (hes : ∀ x ∈ es, x.ok) (hr : r.ok) (hp : p < 14) (hn : es.length ≤ 1000) (σ : Hp) (loc : Loc) (h8 : loc[8]? = some (some (keyV r))) (hl : loc.length = 30) (h1 : loc[1]? = some (some (.lst (prs es)))) : cmpV dueF1_vars5 [27, 28, 29] (tupT [nmA 27, nmA 28, nmA 29]) (ttT) (tupE [nmE 28, nmE 29]) (nmE 1) loc σ = some (.lst ((es.filter (fun _ => true)).map (fun e => .tup [.str e.1.nm, .str (e.1.vl e.2)])), σ) := by
  refine cmp_go2 (v := .lst (prs es)) (σ₁ := σ) (by simp only [nmE_e, h1]) rfl rfl (by simp [prs]; omega) ?_
  refine all3 (i := 27) (by omega) es fun e x y z he => ?_
  have g0 : (((loc.set 27 (some (keyV e.1))).set (27 + 1) (some (.str e.1.nm))).set (27 + 2) (some (.str (e.1.vl e.2))))[27]? = some (some (keyV e.1)) := by rw [List.getElem?_set_ne (by decide), List.getElem?_set_ne (by decide), List.getElem?_set_self (by omega)]
  have g1 : (((loc.set 27 (some (keyV e.1))).set (27 + 1) (some (.str e.1.nm))).set (27 + 2) (some (.str (e.1.vl e.2))))[28]? = some (some (.str e.1.nm)) := by rw [List.getElem?_set_ne (by decide), List.getElem?_set_self (by simp; omega)]
  have g2 : (((loc.set 27 (some (keyV e.1))).set (27 + 1) (some (.str e.1.nm))).set (27 + 2) (some (.str (e.1.vl e.2))))[29]? = some (some (.str (e.1.vl e.2))) := by rw [List.getElem?_set_self (by simp; omega)]
  have g8 : (((loc.set 27 (some (keyV e.1))).set (27 + 1) (some (.str e.1.nm))).set (27 + 2) (some (.str (e.1.vl e.2))))[8]? = some (some (keyV r)) := by rw [List.getElem?_set_ne (by decide), List.getElem?_set_ne (by decide), List.getElem?_set_ne (by decide)]; exact h8
  have heo := (hes e he).1
  exact ⟨by rfl, by simp only [tupE_e, argsE_cons, argsE_nil, nmE_e, g1, g2]⟩
theorem due_step (a : Ad) {es : List En} {r : R} {p n2 : Nat} (hes : ∀ x ∈ es, x.ok) (hr : r.ok) (hp : p < 14) (hn : es.length ≤ 100) (σ : Hp) {d : Nat} (hd : d < 5) {due : List V} (hdu : σ[n2]? = some (.lst due)) (hlen : due.length ≤ 1000) (hlow : σ.all (SO.lowB σ.length) = true) (l0 t8 t9 t10 t11 t12 t13 t14 t15 t16 t17 t18 t19 t20 t21 t22 t23 t24 t25 t26 t27 t28 t29 : Option V) : ∃ t8' t9' t10' t11' t12' t13' t14' t15',
    dueF1_b0 a [l0, some (.lst (prs es)), some (.ref n2), some (.str r.ld), some (.str r.tu), some (.int d), some (.int r.w), some (.str (r.vl p)), t8, t9, t10, t11, t12, t13, t14, t15, t16, t17, t18, t19, t20, t21, t22, t23, t24, t25, t26, t27, t28, t29] σ = some (.next, [l0, some (.lst (prs (step d (r, p) es))), some (.ref n2), some (.str r.ld), some (.str r.tu), some (.int d), some (.int r.w), some (.str (r.vl p)), t8', t9', t10', t11', t12', t13', t14', t15', t16, t17, t18, t19, t20, t21, t22, t23, t24, t25, t26, t27, t28, t29], σ.set n2 (.lst (due ++ [item d (r, p) es]))) := by
  have hes2 : ∀ x ∈ step d (r, p) es, x.ok := step_ok ⟨hr, hp⟩ hes
  have hn2 : (step d (r, p) es).length ≤ 101 := Nat.le_trans (step_len d (r, p) es) (by omega)
  refine ⟨some (keyV r), some (.lst (r.runs.map .str)), some (.str r.nm), some (.lst (vls (es.filter (sm r)))), some (.str (ans d (r, p) es)), some (.lst (vls ((step d (r, p) es).filter (sm r)))), some (.lst (vls ((step d (r, p) es).filter (lv r)))), some (.lst (tb (tbl (step d (r, p) es)))), ?_⟩
  unfold dueF1_b0
  have hw : r.w < 3 := hr.2.2.2.2
  have hdiv : divI (r.w : Int) 2 = some (.int (r.w / 2 : Nat)) := by
    have : r.w = 0 ∨ r.w = 1 ∨ r.w = 2 := by omega
    rcases this with e | e | e <;> rw [e] <;> rfl
  refine seq_go (loc₁ := [l0, some (.lst (prs es)), some (.ref n2), some (.str r.ld), some (.str r.tu), some (.int d), some (.int r.w), some (.str (r.vl p)), some (keyV r), t9, t10, t11, t12, t13, t14, t15, t16, t17, t18, t19, t20, t21, t22, t23, t24, t25, t26, t27, t28, t29]) (σ₁ := σ) (by
    simp only [asgS_e, tupE_e, argsE_cons, argsE_nil, callE_e, op2_e, nmE_e, kE_e, List.getElem?_cons_succ, List.getElem?_cons_zero, cols_run a hr σ hlow, int2_e, hdiv]
    rfl) ?_
  refine seq_go (loc₁ := [l0, some (.lst (prs es)), some (.ref n2), some (.str r.ld), some (.str r.tu), some (.int d), some (.int r.w), some (.str (r.vl p)), some (keyV r), some (.lst (r.runs.map .str)), t10, t11, t12, t13, t14, t15, t16, t17, t18, t19, t20, t21, t22, t23, t24, t25, t26, t27, t28, t29]) (σ₁ := σ) (by
    simp only [asgS_e, methE_e, argsE_cons, argsE_nil, nmE_e, kE_e, List.getElem?_cons_succ, List.getElem?_cons_zero, chkStr_e, if_true, List.cons_append, List.nil_append, spl_run hr]
    rfl) ?_
  refine seq_go (loc₁ := [l0, some (.lst (prs es)), some (.ref n2), some (.str r.ld), some (.str r.tu), some (.int d), some (.int r.w), some (.str (r.vl p)), some (keyV r), some (.lst (r.runs.map .str)), some (.str r.nm), t11, t12, t13, t14, t15, t16, t17, t18, t19, t20, t21, t22, t23, t24, t25, t26, t27, t28, t29]) (σ₁ := σ) (by rw [asgS_e, name_expr a hr _ σ rfl rfl rfl]; rfl) ?_
  refine seq_go (loc₁ := [l0, some (.lst (prs es)), some (.ref n2), some (.str r.ld), some (.str r.tu), some (.int d), some (.int r.w), some (.str (r.vl p)), some (keyV r), some (.lst (r.runs.map .str)), some (.str r.nm), some (.lst (vls (es.filter (sm r)))), t12, t13, t14, t15, t16, t17, t18, t19, t20, t21, t22, t23, t24, t25, t26, t27, t28, t29]) (σ₁ := σ) (by rw [asgS_e, cA hes hr hp (show es.length ≤ 1000 by omega) (n2 := n2) σ _ rfl rfl rfl]; rfl) ?_
  refine seq_go (loc₁ := [l0, some (.lst (prs es)), some (.ref n2), some (.str r.ld), some (.str r.tu), some (.int d), some (.int r.w), some (.str (r.vl p)), some (keyV r), some (.lst (r.runs.map .str)), some (.str r.nm), some (.lst (vls (es.filter (sm r)))), some (.str ("done" : Str)), t13, t14, t15, t16, t17, t18, t19, t20, t21, t22, t23, t24, t25, t26, t27, t28, t29]) (σ₁ := σ) rfl ?_
  rw [due_ops hes hr hp hn σ hd]
  refine seq_go (loc₁ := [l0, some (.lst (prs (step d (r, p) es))), some (.ref n2), some (.str r.ld), some (.str r.tu), some (.int d), some (.int r.w), some (.str (r.vl p)), some (keyV r), some (.lst (r.runs.map .str)), some (.str r.nm), some (.lst (vls (es.filter (sm r)))), some (.str (ans d (r, p) es)), some (.lst (vls ((step d (r, p) es).filter (sm r)))), t14, t15, t16, t17, t18, t19, t20, t21, t22, t23, t24, t25, t26, t27, t28, t29]) (σ₁ := σ) (by rw [asgS_e, cB hes2 hr hp (n2 := n2) (Nat.le_trans hn2 (by decide)) σ _ rfl rfl rfl]; rfl) ?_
  refine seq_go (loc₁ := [l0, some (.lst (prs (step d (r, p) es))), some (.ref n2), some (.str r.ld), some (.str r.tu), some (.int d), some (.int r.w), some (.str (r.vl p)), some (keyV r), some (.lst (r.runs.map .str)), some (.str r.nm), some (.lst (vls (es.filter (sm r)))), some (.str (ans d (r, p) es)), some (.lst (vls ((step d (r, p) es).filter (sm r)))), some (.lst (vls ((step d (r, p) es).filter (lv r)))), t15, t16, t17, t18, t19, t20, t21, t22, t23, t24, t25, t26, t27, t28, t29]) (σ₁ := σ) (by rw [asgS_e, cC hes2 hr hp (n2 := n2) (Nat.le_trans hn2 (by decide)) σ _ rfl rfl rfl]; rfl) ?_
  have eI : ((step d (r, p) es).filter fun _ => true).map (fun e => V.tup [.str e.1.nm, .str (e.1.vl e.2)]) = tb (tbl (step d (r, p) es)) := by
    rw [List.filter_eq_self.mpr (fun _ _ => rfl)]; simp [tb, tbl]
  refine seq_go (loc₁ := [l0, some (.lst (prs (step d (r, p) es))), some (.ref n2), some (.str r.ld), some (.str r.tu), some (.int d), some (.int r.w), some (.str (r.vl p)), some (keyV r), some (.lst (r.runs.map .str)), some (.str r.nm), some (.lst (vls (es.filter (sm r)))), some (.str (ans d (r, p) es)), some (.lst (vls ((step d (r, p) es).filter (sm r)))), some (.lst (vls ((step d (r, p) es).filter (lv r)))), some (.lst (tb (tbl (step d (r, p) es)))), t16, t17, t18, t19, t20, t21, t22, t23, t24, t25, t26, t27, t28, t29]) (σ₁ := σ) (by rw [asgS_e, cD hes2 hr hp (n2 := n2) (Nat.le_trans hn2 (by decide)) σ _ rfl rfl rfl, eI]; rfl) ?_
  have hbl : Nat.ble due.length lmax = true := ble_lmax _ (by omega)
  have hfo : ∀ x ∈ (step d (r, p) es).filter (sm r), x.ok := fun x hx => hes2 x (List.mem_filter.mp hx).1
  have hfirst : ifE (cmT (op2 (eqF true) (nmE 13) (lstE []))) (op2 idxF (nmE 13) (kE (.int 0))) (kE (.str "none")) [l0, some (.lst (prs (step d (r, p) es))), some (.ref n2), some (.str r.ld), some (.str r.tu), some (.int d), some (.int r.w), some (.str (r.vl p)), some (keyV r), some (.lst (r.runs.map .str)), some (.str r.nm), some (.lst (vls (es.filter (sm r)))), some (.str (ans d (r, p) es)), some (.lst (vls ((step d (r, p) es).filter (sm r)))), some (.lst (vls ((step d (r, p) es).filter (lv r)))), some (.lst (tb (tbl (step d (r, p) es)))), t16, t17, t18, t19, t20, t21, t22, t23, t24, t25, t26, t27, t28, t29] σ = some (.str (match (step d (r, p) es).find? (sm r) with | some x => x.1.vl x.2 | none => "none"), σ) := by
    have t1 : cmT (op2 (eqF true) (nmE 13) (lstE [])) [l0, some (.lst (prs (step d (r, p) es))), some (.ref n2), some (.str r.ld), some (.str r.tu), some (.int d), some (.int r.w), some (.str (r.vl p)), some (keyV r), some (.lst (r.runs.map .str)), some (.str r.nm), some (.lst (vls (es.filter (sm r)))), some (.str (ans d (r, p) es)), some (.lst (vls ((step d (r, p) es).filter (sm r)))), some (.lst (vls ((step d (r, p) es).filter (lv r)))), some (.lst (tb (tbl (step d (r, p) es)))), t16, t17, t18, t19, t20, t21, t22, t23, t24, t25, t26, t27, t28, t29] σ = some (true != ((step d (r, p) es).filter (sm r)).isEmpty, σ) := by
      simp only [cmT_e, op2_e, nmE_e, List.getElem?_cons_succ, List.getElem?_cons_zero, lstE_e, argsE_nil, nil_eq hfo, trV_b]
    have t2 : op2 idxF (nmE 13) (kE (.int 0)) [l0, some (.lst (prs (step d (r, p) es))), some (.ref n2), some (.str r.ld), some (.str r.tu), some (.int d), some (.int r.w), some (.str (r.vl p)), some (keyV r), some (.lst (r.runs.map .str)), some (.str r.nm), some (.lst (vls (es.filter (sm r)))), some (.str (ans d (r, p) es)), some (.lst (vls ((step d (r, p) es).filter (sm r)))), some (.lst (vls ((step d (r, p) es).filter (lv r)))), some (.lst (tb (tbl (step d (r, p) es)))), t16, t17, t18, t19, t20, t21, t22, t23, t24, t25, t26, t27, t28, t29] σ = idxF [.lst (vls ((step d (r, p) es).filter (sm r))), .int 0] σ := rfl
    rw [← find_filter]
    have key : ∀ fs, (step d (r, p) es).filter (sm r) = fs → ifE (cmT (op2 (eqF true) (nmE 13) (lstE []))) (op2 idxF (nmE 13) (kE (.int 0))) (kE (.str "none")) [l0, some (.lst (prs (step d (r, p) es))), some (.ref n2), some (.str r.ld), some (.str r.tu), some (.int d), some (.int r.w), some (.str (r.vl p)), some (keyV r), some (.lst (r.runs.map .str)), some (.str r.nm), some (.lst (vls (es.filter (sm r)))), some (.str (ans d (r, p) es)), some (.lst (vls ((step d (r, p) es).filter (sm r)))), some (.lst (vls ((step d (r, p) es).filter (lv r)))), some (.lst (tb (tbl (step d (r, p) es)))), t16, t17, t18, t19, t20, t21, t22, t23, t24, t25, t26, t27, t28, t29] σ = some (.str (match fs.head? with | some x => x.1.vl x.2 | none => "none"), σ) := by
      intro fs hfs
      rw [ifE_e, t1, hfs]
      cases fs with
      | nil => rfl
      | cons e fs =>
        have hz : ixOf 0 (vls (e :: fs)).length = some 0 := by simp [ixOf, vls]
        have ho : okI 0 = true := by decide
        rw [hfs] at t2
        refine Eq.trans ?_ (Eq.trans t2 ?_)
        · rfl
        · simp only [idxF, ho, if_true, lstOf, hz]
          rfl
    exact key _ rfl
  refine seq_go (loc₁ := [l0, some (.lst (prs (step d (r, p) es))), some (.ref n2), some (.str r.ld), some (.str r.tu), some (.int d), some (.int r.w), some (.str (r.vl p)), some (keyV r), some (.lst (r.runs.map .str)), some (.str r.nm), some (.lst (vls (es.filter (sm r)))), some (.str (ans d (r, p) es)), some (.lst (vls ((step d (r, p) es).filter (sm r)))), some (.lst (vls ((step d (r, p) es).filter (lv r)))), some (.lst (tb (tbl (step d (r, p) es)))), t16, t17, t18, t19, t20, t21, t22, t23, t24, t25, t26, t27, t28, t29]) (σ₁ := σ.set n2 (.lst (due ++ [item d (r, p) es]))) (by
    have ha : argsE [tupE [nmE 12, nmE 15, nmE 13, ifE (cmT (op2 (eqF true) (nmE 13) (lstE []))) (op2 idxF (nmE 13) (kE (.int 0))) (kE (.str "none")), nmE 14]] [l0, some (.lst (prs (step d (r, p) es))), some (.ref n2), some (.str r.ld), some (.str r.tu), some (.int d), some (.int r.w), some (.str (r.vl p)), some (keyV r), some (.lst (r.runs.map .str)), some (.str r.nm), some (.lst (vls (es.filter (sm r)))), some (.str (ans d (r, p) es)), some (.lst (vls ((step d (r, p) es).filter (sm r)))), some (.lst (vls ((step d (r, p) es).filter (lv r)))), some (.lst (tb (tbl (step d (r, p) es)))), t16, t17, t18, t19, t20, t21, t22, t23, t24, t25, t26, t27, t28, t29] σ = some ([item d (r, p) es], σ) := by
      simp only [argsE_cons, argsE_nil, tupE_e, nmE_e, List.getElem?_cons_succ, List.getElem?_cons_zero, hfirst]
      rfl
    simp only [exprS_e, methE_e, ha, nmE_e, List.getElem?_cons_succ, List.getElem?_cons_zero, chkRef_e, hdu, if_true, List.cons_append, List.nil_append, appF_e, hbl]) rfl
end Mine
namespace Mine
open PySem PySem.Spec PySem.Calls PyProof.Rows PySem.W
noncomputable def Pl (n : Nat) (v : V) : Prop := (∃ d, v.data = some d ∧ PyData.eqv d d = true ∧ d.depth ≤ n) ∧ ∀ m, v.lowB m = true
noncomputable def Pls (n : Nat) (vs : List V) : Prop := (∃ ds, V.datas vs = some ds ∧ PyData.eqvAll ds ds = true ∧ PyData.depthAll ds ≤ n) ∧ ∀ m, V.lowBs m vs = true
theorem Pls.of {n : Nat} : ∀ {vs : List V}, (∀ v ∈ vs, Pl n v) → Pls n vs
  | [], _ => ⟨⟨[], rfl, rfl, Nat.zero_le _⟩, fun _ => rfl⟩
  | v :: vs, h => by
    obtain ⟨⟨d, a1, a2, a3⟩, a4⟩ := h v (by simp)
    obtain ⟨⟨ds, b1, b2, b3⟩, b4⟩ := Pls.of (vs := vs) fun w hw => h w (by simp [hw])
    exact ⟨⟨d :: ds, by simp only [V.datas, a1, b1], by simp only [PyData.eqvAll, a2, b2, Bool.and_self], by simp only [PyData.depthAll]; omega⟩, fun m => by simp only [V.lowBs, a4 m, b4 m, Bool.and_self]⟩
theorem Pl.mono {n k : Nat} {v : V} (h : Pl n v) (hk : n ≤ k) : Pl k v := by
  obtain ⟨⟨d, a1, a2, a3⟩, a4⟩ := h
  exact ⟨⟨d, a1, a2, by omega⟩, a4⟩
theorem Pl.lst {n : Nat} {vs : List V} (h : Pls n vs) : Pl (n + 1) (.lst vs) := by
  obtain ⟨⟨ds, b1, b2, b3⟩, b4⟩ := h
  exact ⟨⟨.list ds, by simp only [V.data, b1], by simp only [PyData.eqv, b2], by simp only [PyData.depth]; omega⟩, b4⟩
theorem Pl.tup {n : Nat} {vs : List V} (h : Pls n vs) : Pl (n + 1) (.tup vs) := by
  obtain ⟨⟨ds, b1, b2, b3⟩, b4⟩ := h
  exact ⟨⟨.tuple ds, by simp only [V.data, b1], by simp only [PyData.eqv, b2], by simp only [PyData.depth]; omega⟩, b4⟩
theorem Pl.str {x : Str} (h : PySem.PyData.strOk x = true) : Pl 0 (.str x) := ⟨⟨.str x, by simp only [V.data, h, if_true], by simp [PyData.eqv], by simp [PyData.depth]⟩, fun _ => rfl⟩
theorem Pl.int (i : Int) : Pl 0 (.int i) := ⟨⟨.int i, rfl, by simp [PyData.eqv], by simp [PyData.depth]⟩, fun _ => rfl⟩
theorem Pl.eq {n : Nat} {v : V} (h : Pl n v) (hn : n ≤ 30) (hs : ∀ x, v ≠ .str x) (σ : Hp) : eqF false [v, v] σ = some (.bool true, σ) := by
  obtain ⟨⟨d, a1, a2, a3⟩, _⟩ := h
  have hb : Nat.ble (min d.depth d.depth) 30 = true := ble_of (by omega)
  cases v <;> first
    | exact absurd rfl (hs _)
    | (simp only [eqF, a1, hb, if_true, a2]; rfl)
    | cases a1
noncomputable def chkM (r : R) : Bool := PySem.PyData.strOk r.nm
theorem okM : forR chkM = true := by decide +kernel
theorem vl_pl {e : En} (h : e.ok) : Pl 0 (.str (e.1.vl e.2)) := .str (vl_ok h.1 h.2).s
theorem vls_pl {es : List En} (h : ∀ x ∈ es, x.ok) : Pl 1 (.lst (vls es)) := .lst (.of fun v hv => by
  obtain ⟨e, he, rfl⟩ := List.mem_map.mp hv
  exact vl_pl (h e he))
theorem tb_pl {es : List En} (h : ∀ x ∈ es, x.ok) : Pl 2 (.lst (tb (tbl es))) := .lst (.of fun v hv => by
  obtain ⟨q, hq, rfl⟩ := List.mem_map.mp hv
  obtain ⟨e, he, rfl⟩ := List.mem_map.mp hq
  refine .tup (.of fun v hv => ?_)
  simp at hv
  rcases hv with rfl | rfl
  · exact .str (forR_of okM (h e he).1)
  · exact vl_pl (h e he))
theorem ans_pl {d : Nat} {e : En} {es : List En} (he : e.ok) (h : ∀ x ∈ es, x.ok) : Pl 0 (.str (ans d e es)) := by
  have hd : Pl 0 (.str ("done" : Str)) := .str (by decide +kernel)
  unfold ans
  split
  · split
    · rename_i x hx; exact vl_pl (h x (List.mem_of_find?_eq_some hx))
    · exact vl_pl he
  · split
    · exact hd
    · exact .str (by decide +kernel)
  · exact hd
theorem item_pl {d : Nat} {e : En} {es : List En} (he : e.ok) (h : ∀ x ∈ es, x.ok) : Pl 3 (item d e es) := by
  have h2 := step_ok (d := d) he h
  have hf : ∀ p : En → Bool, ∀ x ∈ (step d e es).filter p, x.ok := fun p x hx => h2 x (List.mem_filter.mp hx).1
  refine .tup (.of fun v hv => ?_)
  simp only [List.mem_cons, List.not_mem_nil, or_false] at hv
  rcases hv with rfl | rfl | rfl | rfl | rfl
  · exact (ans_pl he h).mono (by omega)
  · exact tb_pl h2
  · exact (vls_pl (hf _)).mono (by omega)
  · refine Pl.mono (n := 0) ?_ (by omega)
    split
    · rename_i x hx; exact vl_pl (h2 x (List.mem_of_find?_eq_some hx))
    · exact .str (by decide +kernel)
  · exact (vls_pl (hf _)).mono (by omega)
noncomputable abbrev Rw := R × Nat × Nat
noncomputable def Rw.ok (x : Rw) : Prop := x.1.ok ∧ x.2.1 < 5 ∧ x.2.2 < 14
noncomputable def rowV (x : Rw) : V := .tup [.str x.1.ld, .str x.1.tu, .int x.2.1, .int x.1.w, .str (x.1.vl x.2.2)]
noncomputable def its : List Rw → List En → List V
  | [], _ => []
  | x :: xs, es => item x.2.1 (x.1, x.2.2) es :: its xs (step x.2.1 (x.1, x.2.2) es)
theorem its_pl : ∀ (xs : List Rw) (es : List En), (∀ x ∈ xs, x.ok) → (∀ x ∈ es, x.ok) → ∀ v ∈ its xs es, Pl 3 v
  | [], _, _, _, v, hv => by cases hv
  | x :: xs, es, hx, he, v, hv => by
    have hx0 := hx x (by simp)
    rcases List.mem_cons.mp hv with rfl | hv
    · exact item_pl ⟨hx0.1, hx0.2.2⟩ he
    · exact its_pl xs _ (fun y hy => hx y (by simp [hy])) (step_ok ⟨hx0.1, hx0.2.2⟩ he) v hv
noncomputable def T4 (fr : SO) (a : Ad) (es : List En) (told : List V) : Hp := [fr, .dict a.HD [.ref 2], .lst (tb (tbl es)), .lst told]
theorem hdrs_T (a : Ad) (fr : SO) (es : List En) (told : List V) : hdrs a (T4 fr a es told) (.inst a.HD 1) = some (2, tb (tbl es)) := by
  simp [hdrs, attrs?, T4]
theorem told_loop (a : Ad) (hpv : Nat.beq a.pV a.pN = false) (names : List Str) (vs : List V) (l0 t14 : Option V) : ∀ (xs : List Rw) (es : List En) (told : List V) (t3 t4 t5 t6 t7 t8 t9 t10 t11 t12 t13 : Option V), (∀ x ∈ xs, x.ok) → (∀ x ∈ es, x.ok) → es.length + xs.length ≤ 100 → told.length + xs.length ≤ 1000 → ∃ t3' t4' t5' t6' t7' t8' t9' t10' t11' t12' t13' es',
    forL (tupT [nmA 3, nmA 4, nmA 5, nmA 6, nmA 7]) (toldF1_b0 a) (xs.map rowV) [l0, some (.inst a.HD 1), some (.ref 3), t3, t4, t5, t6, t7, t8, t9, t10, t11, t12, t13, t14] (T4 (.frm a.LF names vs) a es told)
      = some (.next, [l0, some (.inst a.HD 1), some (.ref 3), t3', t4', t5', t6', t7', t8', t9', t10', t11', t12', t13', t14], T4 (.frm a.LF names vs) a es' (told ++ its xs es)) := by
  intro xs
  induction xs with
  | nil => intro es told t3 t4 t5 t6 t7 t8 t9 t10 t11 t12 t13 _ _ _ _; exact ⟨t3, t4, t5, t6, t7, t8, t9, t10, t11, t12, t13, es, by simp [its]; rfl⟩
  | cons x xs ih =>
    intro es told t3 t4 t5 t6 t7 t8 t9 t10 t11 t12 t13 hx he hl hl2
    obtain ⟨r, d, p⟩ := x
    have hx0 := hx (r, d, p) (by simp)
    simp only [List.length_cons] at hl hl2
    have hst := step_len d (r, p) es
    obtain ⟨u8, u9, u10, u11, u12, u13, e⟩ := told_step a hpv (n3 := 3) (told := told) (σ := T4 (.frm a.LF names vs) a es told) (hdrs_T a _ es told) (fun C n h => by cases h; decide) he hx0.1 hx0.2.2 hx0.2.1 (by omega) ⟨names, vs, rfl⟩ rfl (by decide) (by omega) l0 t8 t9 t10 t11 t12 t13 t14
    obtain ⟨t3', t4', t5', t6', t7', t8', t9', t10', t11', t12', t13', es', e2⟩ := ih (step d (r, p) es) (told ++ [item d (r, p) es]) (some (.str r.ld)) (some (.str r.tu)) (some (.int d)) (some (.int r.w)) (some (.str (r.vl p))) u8 u9 u10 u11 u12 u13 (fun y hy => hx y (by simp [hy])) (step_ok ⟨hx0.1, hx0.2.2⟩ he) (by omega) (by simp; omega)
    refine ⟨t3', t4', t5', t6', t7', t8', t9', t10', t11', t12', t13', es', ?_⟩
    refine for_step (v := rowV (r, d, p)) (loc₁ := [l0, some (.inst a.HD 1), some (.ref 3), some (.str r.ld), some (.str r.tu), some (.int d), some (.int r.w), some (.str (r.vl p)), t8, t9, t10, t11, t12, t13, t14]) rfl e ?_
    rw [show told ++ its ((r, d, p) :: xs) es = (told ++ [item d (r, p) es]) ++ its xs (step d (r, p) es) by simp [its]]
    exact e2
theorem due_loop (a : Ad) (l0 : Option V) (t16 t17 t18 t19 t20 t21 t22 t23 t24 t25 t26 t27 t28 t29 : Option V) : ∀ (xs : List Rw) (es : List En) (due : List V) (t3 t4 t5 t6 t7 t8 t9 t10 t11 t12 t13 t14 t15 : Option V), (∀ x ∈ xs, x.ok) → (∀ x ∈ es, x.ok) → (∀ v ∈ due, Pl 3 v) → es.length + xs.length ≤ 100 → due.length + xs.length ≤ 1000 → ∃ t1' t3' t4' t5' t6' t7' t8' t9' t10' t11' t12' t13' t14' t15',
    forL (tupT [nmA 3, nmA 4, nmA 5, nmA 6, nmA 7]) (dueF1_b0 a) (xs.map rowV) [l0, some (.lst (prs es)), some (.ref 0), t3, t4, t5, t6, t7, t8, t9, t10, t11, t12, t13, t14, t15, t16, t17, t18, t19, t20, t21, t22, t23, t24, t25, t26, t27, t28, t29] [.lst due]
      = some (.next, [l0, t1', some (.ref 0), t3', t4', t5', t6', t7', t8', t9', t10', t11', t12', t13', t14', t15', t16, t17, t18, t19, t20, t21, t22, t23, t24, t25, t26, t27, t28, t29], [.lst (due ++ its xs es)]) := by
  intro xs
  induction xs with
  | nil => intro es due t3 t4 t5 t6 t7 t8 t9 t10 t11 t12 t13 t14 t15 _ _ _ _ _; exact ⟨some (.lst (prs es)), t3, t4, t5, t6, t7, t8, t9, t10, t11, t12, t13, t14, t15, by simp [its]; rfl⟩
  | cons x xs ih =>
    intro es due t3 t4 t5 t6 t7 t8 t9 t10 t11 t12 t13 t14 t15 hx he hdu hl hl2
    obtain ⟨r, d, p⟩ := x
    have hx0 := hx (r, d, p) (by simp)
    simp only [List.length_cons] at hl hl2
    have hst := step_len d (r, p) es
    have hlow : ([SO.lst due] : Hp).all (SO.lowB ([SO.lst due] : Hp).length) = true := by
      have := (Pls.of hdu).2 1
      show (SO.lowB 1 (.lst due) && true) = true
      rw [Bool.and_true]; exact this
    obtain ⟨u8, u9, u10, u11, u12, u13, u14, u15, e⟩ := due_step a (n2 := 0) (due := due) he hx0.1 hx0.2.2 (by omega) [.lst due] hx0.2.1 rfl (by omega) hlow l0 t8 t9 t10 t11 t12 t13 t14 t15 t16 t17 t18 t19 t20 t21 t22 t23 t24 t25 t26 t27 t28 t29
    obtain ⟨t1', t3', t4', t5', t6', t7', t8', t9', t10', t11', t12', t13', t14', t15', e2⟩ := ih (step d (r, p) es) (due ++ [item d (r, p) es]) (some (.str r.ld)) (some (.str r.tu)) (some (.int d)) (some (.int r.w)) (some (.str (r.vl p))) u8 u9 u10 u11 u12 u13 u14 u15 (fun y hy => hx y (by simp [hy])) (step_ok ⟨hx0.1, hx0.2.2⟩ he) (fun v hv => by
      rcases List.mem_append.mp hv with hv | hv
      · exact hdu v hv
      · rw [List.mem_singleton.mp hv]; exact item_pl ⟨hx0.1, hx0.2.2⟩ he) (by omega) (by simp; omega)
    refine ⟨t1', t3', t4', t5', t6', t7', t8', t9', t10', t11', t12', t13', t14', t15', ?_⟩
    refine for_step (v := rowV (r, d, p)) (loc₁ := [l0, some (.lst (prs es)), some (.ref 0), some (.str r.ld), some (.str r.tu), some (.int d), some (.int r.w), some (.str (r.vl p)), t8, t9, t10, t11, t12, t13, t14, t15, t16, t17, t18, t19, t20, t21, t22, t23, t24, t25, t26, t27, t28, t29]) rfl e ?_
    rw [show due ++ its ((r, d, p) :: xs) es = (due ++ [item d (r, p) es]) ++ its xs (step d (r, p) es) by simp [its]]
    exact e2
end Mine
namespace Mine
open PySem PySem.Spec PySem.Calls PyProof.Rows PySem.W
theorem headers_run (a : Ad) (σ : Hp) : Headers a [] σ = some (.inst a.HD σ.length, σ ++ [.dict a.HD [.ref (σ.length + 1)], .lst []]) := by
  have h1 : (σ ++ [SO.dict a.HD [], .lst []])[σ.length]? = some (.dict a.HD []) := by simp
  have h2 : (σ ++ [SO.dict a.HD [], .lst []])[σ.length + 1]? = some (.lst []) := by simp
  have h3 : ∀ z : SO, (σ ++ [SO.dict a.HD [], .lst []]).set σ.length z = σ ++ [z, .lst []] := fun z => by simp
  have h5 : (σ ++ [SO.dict a.HD [.ref (σ.length + 1)], .lst []])[σ.length + 1]? = some (.lst []) := by simp
  have h6 : ∀ z : SO, (σ ++ [SO.dict a.HD [.ref (σ.length + 1)], z]).set (σ.length + 1) (.lst []) = σ ++ [.dict a.HD [.ref (σ.length + 1)], .lst []] := fun z => by simp
  have h7 : ∀ z : SO, (σ ++ [SO.dict a.HD [.ref (σ.length + 1)], .lst []]).set (σ.length + 1) z = σ ++ [.dict a.HD [.ref (σ.length + 1)], z] := fun z => by simp
  have hb : isF true [V.g (.type "list"), V.g (.type "list")] = fun σ => some (.bool false, σ) := by
    funext τ; simp [isF]
  have ht : ∀ τ : Hp, τ[σ.length + 1]? = some (.lst []) → typF [.ref (σ.length + 1)] τ = some (.g (.type "list"), τ) := fun τ e => by simp [typF, lstOf, e]
  have e1 : ∀ loc : Loc, loc[1]? = some (some (.ref (σ.length + 1))) → forS (tupT [nmA 2, nmA 3]) (hd_init_b0 a) (nmE 1) loc (σ ++ [.dict a.HD [.ref (σ.length + 1)], .lst []]) = some (.next, loc, σ ++ [.dict a.HD [.ref (σ.length + 1)], .lst []]) := by
    intro loc hl
    have := forS_go (tgt := tupT [nmA 2, nmA 3]) (fb := hd_init_b0 a) (fi := nmE 1) (loc := loc) (σ := σ ++ [.dict a.HD [.ref (σ.length + 1)], .lst []]) (σ₁ := σ ++ [.dict a.HD [.ref (σ.length + 1)], .lst []]) (v := .ref (σ.length + 1)) (ws := []) (b := some (σ.length + 1)) (by simp [hl]) (by simp only [srcOf, h5]) for_nil
    rw [this]
    simp only [lend, giveBack, h7, h6]
  unfold Headers clsC dfF
  rw [if_pos (by rfl)]
  unfold hd_init fnF
  rw [if_pos (by rfl)]
  simp only [hd_init_sh]
  rw [seq_go (loc₁ := [some (.inst a.HD σ.length), some (.ref (σ.length + 1)), none, none]) (σ₁ := σ ++ [.dict a.HD [], .lst []]) (by simp [locOf]) rfl]
  rw [seq_go (loc₁ := [some (.inst a.HD σ.length), some (.ref (σ.length + 1)), none, none]) (σ₁ := σ ++ [.dict a.HD [], .lst []]) (by simp [ht _ h2, hb]) rfl]
  rw [seq_go (loc₁ := [some (.inst a.HD σ.length), some (.ref (σ.length + 1)), none, none]) (σ₁ := σ ++ [.dict a.HD [.ref (σ.length + 1)], .lst []]) (by simp [stA, h1, h3]) rfl]
  rw [seq_go (loc₁ := [some (.inst a.HD σ.length), some (.ref (σ.length + 1)), none, none]) (σ₁ := σ ++ [.dict a.HD [.ref (σ.length + 1)], .lst []]) (by
    rw [ifS_e]
    simp only [cmT_e, kE_e, trV_b]
    exact seq_go (e1 _ rfl) rfl) rfl]
  rfl
theorem told_run (a : Ad) (hpv : Nat.beq a.pV a.pN = false) (names : List Str) (vs : List V) (hvs : V.lowBs 1 vs = true) (xs : List Rw) (hx : ∀ x ∈ xs, x.ok) (hn : xs.length ≤ 30) : toldF1 a [.lst (xs.map rowV)] [.frm a.LF names vs] = some (.lst (its xs []), [.frm a.LF names vs]) := by
  obtain ⟨t3, t4, t5, t6, t7, t8, t9, t10, t11, t12, t13, es', e⟩ := told_loop a hpv names vs (some (.lst (xs.map rowV))) none xs [] [] none none none none none none none none none none none hx (fun y h => nomatch h) (by simp; omega) (by simp; omega)
  rw [List.nil_append] at e
  have hrun : fnF 1 15 false (toldF1_sh a) [.lst (xs.map rowV)] [.frm a.LF names vs] = some (.ref 3, T4 (.frm a.LF names vs) a es' (its xs [])) := by
    unfold fnF
    rw [if_pos (by rfl)]
    simp only [toldF1_sh]
    show (match seqS _ _ [some (.lst (xs.map rowV)), none, none, none, none, none, none, none, none, none, none, none, none, none, none] _ with | some (.ret v, _, σ') => some (v, σ') | some (.next, _, σ') => some (V.none, σ') | _ => none) = _
    rw [seq_go (loc₁ := [some (.lst (xs.map rowV)), some (.inst a.HD 1), none, none, none, none, none, none, none, none, none, none, none, none, none]) (σ₁ := [.frm a.LF names vs, .dict a.HD [.ref 2], .lst []]) (by simp only [asgS_e, callE_e, argsE_nil, headers_run]; rfl) rfl]
    rw [seq_go (loc₁ := [some (.lst (xs.map rowV)), some (.inst a.HD 1), some (.ref 3), none, none, none, none, none, none, none, none, none, none, none, none]) (σ₁ := T4 (.frm a.LF names vs) a [] []) rfl rfl]
    rw [seq_go (forS_go (v := .lst (xs.map rowV)) (σ₁ := T4 (.frm a.LF names vs) a [] []) (b := none) rfl rfl e) rfl]
    rfl
  have hlo : V.lowBs 1 (its xs []) = true := (Pls.of (its_pl xs [] hx fun y h => nomatch h)).2 1
  unfold toldF1 trF
  rw [hrun]
  have e1 : V.frz 1 (T4 (.frm a.LF names vs) a es' (its xs [])) (.ref 3) = .lst (its xs []) := rfl
  have e2 : (T4 (.frm a.LF names vs) a es' (its xs [])).take 1 = [.frm a.LF names vs] := rfl
  show trunc 1 (.ref 3) (T4 (.frm a.LF names vs) a es' (its xs [])) = _
  simp only [trunc, e1, e2, V.lowB, hlo, List.all_cons, List.all_nil, SO.lowB, hvs, Bool.and_self, if_true]
theorem due_run (a : Ad) (xs : List Rw) (hx : ∀ x ∈ xs, x.ok) (hn : xs.length ≤ 30) : dueF1 a [.lst (xs.map rowV)] [] = some (.lst (its xs []), []) := by
  obtain ⟨t1, t3, t4, t5, t6, t7, t8, t9, t10, t11, t12, t13, t14, t15, e⟩ := due_loop a (some (.lst (xs.map rowV))) none none none none none none none none none none none none none none xs [] [] none none none none none none none none none none none none none hx (fun y h => nomatch h) (fun y h => nomatch h) (by simp; omega) (by simp; omega)
  rw [List.nil_append, show prs [] = ([] : List V) from rfl] at e
  have hrun : fnF 1 30 false (dueF1_sh a) [.lst (xs.map rowV)] [] = some (.ref 0, [.lst (its xs [])]) := by
    unfold fnF
    rw [if_pos (by rfl)]
    simp only [dueF1_sh]
    show (match seqS _ _ [some (.lst (xs.map rowV)), none, none, none, none, none, none, none, none, none, none, none, none, none, none, none, none, none, none, none, none, none, none, none, none, none, none, none, none, none] _ with | some (.ret v, _, σ') => some (v, σ') | some (.next, _, σ') => some (V.none, σ') | _ => none) = _
    rw [seq_go (loc₁ := [some (.lst (xs.map rowV)), some (.lst []), none, none, none, none, none, none, none, none, none, none, none, none, none, none, none, none, none, none, none, none, none, none, none, none, none, none, none, none]) (σ₁ := []) rfl rfl]
    rw [seq_go (loc₁ := [some (.lst (xs.map rowV)), some (.lst []), some (.ref 0), none, none, none, none, none, none, none, none, none, none, none, none, none, none, none, none, none, none, none, none, none, none, none, none, none, none, none]) (σ₁ := [.lst []]) rfl rfl]
    rw [seq_go (forS_go (fi := nmE 0) (v := .lst (xs.map rowV)) (σ₁ := [.lst []]) (b := none) rfl rfl e) rfl]
    rfl
  have hlo : V.lowBs 0 (its xs []) = true := (Pls.of (its_pl xs [] hx fun y h => nomatch h)).2 0
  unfold dueF1 trF
  rw [hrun]
  show trunc 0 (.ref 0) [.lst (its xs [])] = _
  have e1 : V.frz 0 [SO.lst (its xs [])] (.ref 0) = .lst (its xs []) := rfl
  simp only [trunc, e1, List.take_zero, V.lowB, hlo, List.all_nil, Bool.and_self, if_true]
theorem its_eq (xs : List Rw) (hx : ∀ x ∈ xs, x.ok) (σ : Hp) : eqF false [.lst (its xs []), .lst (its xs [])] σ = some (.bool true, σ) :=
  (Pl.lst (Pls.of (its_pl xs [] hx fun y h => nomatch h))).eq (by omega) (fun _ h => by cases h) σ
noncomputable def rowOf (p : Nat) (n : Int) : Rw := let x := (n.fmod 810).toNat; (⟨x % 3, x / 3 % 3, x / 9 % 2, x / 18 % 3, x / 270⟩, x / 54 % 5, p)
noncomputable def rowsFrom : Nat → List Int → List Rw
  | _, [] => []
  | i, n :: ns => rowOf i n :: rowsFrom (i + 1) ns
theorem rowsFrom_len : ∀ (i : Nat) (ns : List Int), (rowsFrom i ns).length = ns.length
  | _, [] => rfl
  | i, n :: ns => by simp [rowsFrom, rowsFrom_len]
theorem rowOf_ok {p : Nat} (hp : p < 14) (n : Int) : (rowOf p n).ok := by
  have h : (n.fmod 810).toNat < 810 := by
    have h1 := Int.fmod_lt_of_pos n (show (0 : Int) < 810 by omega)
    have h2 := Int.fmod_nonneg_of_pos n (show (0 : Int) < 810 by omega)
    omega
  unfold rowOf
  generalize (n.fmod 810).toNat = x at h
  refine ⟨⟨?_, ?_, ?_, ?_, ?_⟩, ?_, hp⟩ <;> simp only <;> omega
theorem rowsFrom_ok : ∀ (i : Nat) (ns : List Int), i + ns.length ≤ 14 → ∀ x ∈ rowsFrom i ns, x.ok
  | _, [], _, x, hx => by cases hx
  | i, n :: ns, h, x, hx => by
    simp only [List.length_cons] at h
    rcases List.mem_cons.mp hx with rfl | hx
    · exact rowOf_ok (by omega) n
    · exact rowsFrom_ok (i + 1) ns (by omega) x hx
theorem mod_nat (x k : Nat) (hk : 0 < k) : modI (x : Int) (k : Int) = some (.int ((x % k : Nat) : Int)) := by
  have h2 : ((k : Int) != 0) = true := by simp; omega
  unfold modI
  rw [h2, if_pos rfl, Int.fmod_eq_emod_of_nonneg _ (by omega)]
  rfl
theorem div_nat (x k : Nat) (hk : 0 < k) (hk2 : k ≤ 1000) : divI (x : Int) (k : Int) = some (.int ((x / k : Nat) : Int)) := by
  have h1 : okI (k : Int) = true := okI_nat k (by omega)
  have h2 : ((k : Int) != 0) = true := by simp; omega
  unfold divI
  rw [h1, h2, Int.fdiv_eq_ediv_of_nonneg _ (by omega)]
  rfl
theorem ms_of {n : Nat} (h : n < 1000) : mulO " " n = some (ms n) := by
  have h1 : Nat.ble (Str.ofString " ").length 1000 = true := by decide +kernel
  have h2 : decide ((-1000 : Int) < (n : Int)) = true := decide_eq_true (by omega)
  have h3 : decide ((n : Int) < 1000) = true := decide_eq_true (by omega)
  simp only [mulO, h1, h2, h3, Bool.and_self, if_true]
  rfl
noncomputable def chkL (r : R) : Bool := decide ((addO (ms r.o) "\t") = some (ms r.o ++ ("\t" : Str))) && decide (addO (ms r.o ++ ("\t" : Str)) (ms r.t) = some (ms r.o ++ ("\t" : Str) ++ ms r.t)) && decide (addO (ms r.o ++ ("\t" : Str) ++ ms r.t) "\t" = some (ms r.o ++ ("\t" : Str) ++ ms r.t ++ ("\t" : Str))) && decide (addO (ms r.o ++ ("\t" : Str) ++ ms r.t ++ ("\t" : Str)) (ms r.l) = some (ldT r.o r.t r.l))
theorem okL : forR chkL = true := by decide +kernel
theorem ld_add {r : R} (hr : r.ok) (σ : Hp) {o t l : SE} {loc : Loc} (ho : o loc σ = some (.int r.o, σ)) (ht : t loc σ = some (.int r.t, σ)) (hl : l loc σ = some (.int r.l, σ)) :
    op2 addF (op2 addF (op2 addF (op2 addF (op2 mulF (kE (.str " ")) o) (kE (.str "\t"))) (op2 mulF (kE (.str " ")) t)) (kE (.str "\t"))) (op2 mulF (kE (.str " ")) l) loc σ = some (.str (ldT r.o r.t r.l), σ) := by
  have h := forR_of okL hr
  unfold chkL at h
  simp only [Bool.and_eq_true] at h
  obtain ⟨⟨⟨h1, h2⟩, h3⟩, h4⟩ := h
  have h1 := of_decide_eq_true h1
  have h2 := of_decide_eq_true h2
  have h3 := of_decide_eq_true h3
  have h4 := of_decide_eq_true h4
  obtain ⟨a1, a2, a3, _, _⟩ := hr
  simp only [op2_e, kE_e, ho, ht, hl, mul_of (ms_of (show r.o < 1000 by omega)), mul_of (ms_of (show r.t < 1000 by omega)), mul_of (ms_of (show r.l < 1000 by omega)), add_of h1, add_of h2, add_of h3, add_of h4]
theorem vl_add {r : R} (hr : r.ok) {p : Nat} (hp : p < 14) : addO r.ln (pl p) = some (r.vl p) := by
  have := (vl_ok hr hp).l
  have hl : (r.vl p).length = r.ln.length + (pl p).length := by show (r.ln ++ pl p).cps.size = _; rw [app_cps, Array.size_append]; rfl
  unfold addO
  rw [if_pos (ble_of (by unfold smax; omega))]
  rfl
theorem str_pl {p : Nat} (hp : p < 14) (σ : Hp) : strF [.int p] σ = some (.str (pl p), σ) := by
  have := okI_nat p (by omega)
  simp only [strF, this, if_true]
  rfl

theorem rows_step (a : Ad) {p : Nat} (hp : p < 14) (n : Int) (acc : List V) (hacc : acc.length ≤ 100) (l0 t4 t5 t6 t7 t8 t9 t10 t11 t12 : Option V) : ∃ u4 u5 u6 u7 u8 u9 u10 u11 u12,
    rowsF1_b0 a [l0, some (.ref 0), some (.int p), some (.int n), t4, t5, t6, t7, t8, t9, t10, t11, t12] [.lst acc] = some (.next, [l0, some (.ref 0), some (.int p), some (.int n), u4, u5, u6, u7, u8, u9, u10, u11, u12], [.lst (acc ++ [rowV (rowOf p n)])]) := by
  have hro := rowOf_ok hp n
  have hx : n.fmod 810 = ((n.fmod 810).toNat : Int) := by
    have h2 := Int.fmod_nonneg_of_pos n (show (0 : Int) < 810 by omega)
    omega
  have hm : modI n 810 = some (.int ((n.fmod 810).toNat : Int)) := by
    unfold modI
    rw [← hx]; rfl
  unfold rowOf at hro ⊢
  generalize (n.fmod 810).toNat = x at hm hro ⊢
  obtain ⟨hr, hd, _⟩ := hro
  dsimp only at hr hd ⊢
  generalize hR : (⟨x % 3, x / 3 % 3, x / 9 % 2, x / 18 % 3, x / 270⟩ : R) = r at hr ⊢
  have eo : x % 3 = r.o := by rw [← hR]
  have et : x / 3 % 3 = r.t := by rw [← hR]
  have el : x / 9 % 2 = r.l := by rw [← hR]
  have ef : x / 18 % 3 = r.f := by rw [← hR]
  have ew : x / 270 = r.w := by rw [← hR]
  clear hR
  obtain ⟨ho, ht, hl, hf, hw⟩ := id hr
  refine ⟨some (.int x), some (.int r.o), some (.int r.t), some (.int r.l), some (.int r.f), some (.int (x / 54 % 5 : Nat)), some (.int r.w), some (.str r.ld), some (.str r.tu), ?_⟩
  unfold rowsF1_b0
  refine seq_go (loc₁ := [l0, some (.ref 0), some (.int p), some (.int n), some (.int x), t5, t6, t7, t8, t9, t10, t11, t12]) (σ₁ := [.lst acc]) (by
    simp only [asgS_e, op2_e, nmE_e, kE_e, List.getElem?_cons_succ, List.getElem?_cons_zero, int2_e, hm]; rfl) ?_
  have m3 : modI ((x : Nat) : Int) 3 = some (.int ((x % 3 : Nat) : Int)) := mod_nat x 3 (by omega)
  have d3 : divI ((x : Nat) : Int) 3 = some (.int ((x / 3 : Nat) : Int)) := div_nat x 3 (by omega) (by omega)
  have d9 : divI ((x : Nat) : Int) 9 = some (.int ((x / 9 : Nat) : Int)) := div_nat x 9 (by omega) (by omega)
  have d18 : divI ((x : Nat) : Int) 18 = some (.int ((x / 18 : Nat) : Int)) := div_nat x 18 (by omega) (by omega)
  have d54 : divI ((x : Nat) : Int) 54 = some (.int ((x / 54 : Nat) : Int)) := div_nat x 54 (by omega) (by omega)
  have d270 : divI ((x : Nat) : Int) 270 = some (.int ((x / 270 : Nat) : Int)) := div_nat x 270 (by omega) (by omega)
  have m33 : modI (((x / 3) : Nat) : Int) 3 = some (.int (((x / 3) % 3 : Nat) : Int)) := mod_nat (x / 3) 3 (by omega)
  have m92 : modI (((x / 9) : Nat) : Int) 2 = some (.int (((x / 9) % 2 : Nat) : Int)) := mod_nat (x / 9) 2 (by omega)
  have m183 : modI (((x / 18) : Nat) : Int) 3 = some (.int (((x / 18) % 3 : Nat) : Int)) := mod_nat (x / 18) 3 (by omega)
  have m545 : modI (((x / 54) : Nat) : Int) 5 = some (.int (((x / 54) % 5 : Nat) : Int)) := mod_nat (x / 54) 5 (by omega)
  simp only [eo, et, el, ef, ew] at m3 m33 m92 m183 d270
  refine seq_go (loc₁ := [l0, some (.ref 0), some (.int p), some (.int n), some (.int x), some (.int r.o), some (.int r.t), some (.int r.l), some (.int r.f), t9, t10, t11, t12]) (σ₁ := [.lst acc]) (by
    simp only [asgT_e, tupE_e, argsE_cons, argsE_nil, op2_e, nmE_e, kE_e, List.getElem?_cons_succ, List.getElem?_cons_zero, int2_e, m3, d3, d9, d18, m33, m92, m183]; rfl) ?_
  refine seq_go (loc₁ := [l0, some (.ref 0), some (.int p), some (.int n), some (.int x), some (.int r.o), some (.int r.t), some (.int r.l), some (.int r.f), some (.int (x / 54 % 5 : Nat)), some (.int r.w), t11, t12]) (σ₁ := [.lst acc]) (by
    simp only [swpS, tupE_e, argsE_cons, argsE_nil, op2_e, nmE_e, kE_e, List.getElem?_cons_succ, List.getElem?_cons_zero, int2_e, d54, m545, d270]; rfl) ?_
  have hadd : ((r.o : Int) + (r.t : Int)) = ((r.o + r.t : Nat) : Int) := by simp
  have hms := ms_of (show r.o + r.t < 1000 by omega)
  refine seq_go (loc₁ := [l0, some (.ref 0), some (.int p), some (.int n), some (.int x), some (.int r.o), some (.int r.t), some (.int r.l), some (.int r.f), some (.int (x / 54 % 5 : Nat)), some (.int r.w), some (.str (ms (r.o + r.t))), some (.str (ms (r.o + r.t)))]) (σ₁ := [.lst acc]) (by
    simp only [swpS, tupE_e, argsE_cons, argsE_nil, op2_e, nmE_e, kE_e, List.getElem?_cons_succ, List.getElem?_cons_zero, addF_int, hadd, mul_of hms]; rfl) ?_
  refine seq_go (loc₁ := [l0, some (.ref 0), some (.int p), some (.int n), some (.int x), some (.int r.o), some (.int r.t), some (.int r.l), some (.int r.f), some (.int (x / 54 % 5 : Nat)), some (.int r.w), some (.str r.ld), some (.str r.tu)]) (σ₁ := [.lst acc]) (by
    by_cases hz : r.f = 0
    · have e1 : r.ld = ms (r.o + r.t) := by unfold R.ld; rw [if_pos hz]
      have e2 : r.tu = ms (r.o + r.t) := by unfold R.tu; rw [if_pos hz]
      rw [e1, e2]
      refine if_no ?_
      simp only [cmT_e, op2_e, nmE_e, kE_e, List.getElem?_cons_succ, List.getElem?_cons_zero, int2_e, gtI_e, hz]
      rfl
    · have e1 : r.ld = ldT r.o r.t r.l := by unfold R.ld; rw [if_neg hz]
      have e2 : r.tu = ldT r.t r.o r.l := by unfold R.tu; rw [if_neg hz]
      have ht' : cmT (op2 (int2 gtI) (nmE 8) (kE (.int 0))) [l0, some (.ref 0), some (.int p), some (.int n), some (.int x), some (.int r.o), some (.int r.t), some (.int r.l), some (.int r.f), some (.int (x / 54 % 5 : Nat)), some (.int r.w), some (.str (ms (r.o + r.t))), some (.str (ms (r.o + r.t)))] [.lst acc] = some (true, [.lst acc]) := by
        have : decide ((r.f : Int) > 0) = true := decide_eq_true (by omega)
        simp only [cmT_e, op2_e, nmE_e, kE_e, List.getElem?_cons_succ, List.getElem?_cons_zero, int2_e, gtI_e, this]
        rfl
      rw [ifS_e, ht', e1, e2]
      refine seq_go (loc₁ := [l0, some (.ref 0), some (.int p), some (.int n), some (.int x), some (.int r.o), some (.int r.t), some (.int r.l), some (.int r.f), some (.int (x / 54 % 5 : Nat)), some (.int r.w), some (.str (ldT r.o r.t r.l)), some (.str (ms (r.o + r.t)))]) (σ₁ := [.lst acc]) (by rw [asgS_e, ld_add (r := r) hr _ rfl rfl rfl]; rfl) ?_
      exact seq_go (by rw [asgS_e, ld_add (r := ⟨r.t, r.o, r.l, r.f, r.w⟩) ⟨ht, ho, hl, hf, hw⟩ _ rfl rfl rfl]; rfl) rfl) ?_
  have hbl : Nat.ble acc.length lmax = true := ble_lmax _ (by omega)
  refine seq_go (loc₁ := [l0, some (.ref 0), some (.int p), some (.int n), some (.int x), some (.int r.o), some (.int r.t), some (.int r.l), some (.int r.f), some (.int (x / 54 % 5 : Nat)), some (.int r.w), some (.str r.ld), some (.str r.tu)]) (σ₁ := [.lst (acc ++ [rowV (r, x / 54 % 5, p)])]) (by
    have hv : op2 addF (op2 addF (nmE 11) (op2 idxF (lstE [kE (.str "Via"), kE (.str "vIA"), kE (.str "Age")]) (nmE 10))) (callE strF [nmE 2]) [l0, some (.ref 0), some (.int p), some (.int n), some (.int x), some (.int r.o), some (.int r.t), some (.int r.l), some (.int r.f), some (.int (x / 54 % 5 : Nat)), some (.int r.w), some (.str r.ld), some (.str r.tu)] [.lst acc] = some (.str (r.vl p), [.lst acc]) := by
      rw [op2_e, op2_e, nmE_e]
      simp only [List.getElem?_cons_succ, List.getElem?_cons_zero, w3_idx a hw [l0, some (.ref 0), some (.int p), some (.int n), some (.int x), some (.int r.o), some (.int r.t), some (.int r.l), some (.int r.f), some (.int (x / 54 % 5 : Nat)), some (.int r.w), some (.str r.ld), some (.str r.tu)] [.lst acc] (i := 10) rfl, add_of (ln_add hr), callE_e, argsE_cons, argsE_nil, nmE_e, str_pl hp, add_of (vl_add hr hp)]
    simp only [exprS_e, methE_e, argsE_cons, argsE_nil, tupE_e, hv, nmE_e, List.getElem?_cons_succ, List.getElem?_cons_zero, chkRef_e, if_true, List.cons_append, List.nil_append, appF_e, hbl]
    rfl) rfl
theorem rows_loop (a : Ad) (l0 : Option V) : ∀ (ns : List Int) (i : Nat) (acc : List V) (t2 t3 t4 t5 t6 t7 t8 t9 t10 t11 t12 : Option V), i + ns.length ≤ 14 → acc.length + ns.length ≤ 50 → ∃ u2 u3 u4 u5 u6 u7 u8 u9 u10 u11 u12,
    forL (tupT [nmA 2, nmA 3]) (rowsF1_b0 a) (enumL i (ns.map .int)) [l0, some (.ref 0), t2, t3, t4, t5, t6, t7, t8, t9, t10, t11, t12] [.lst acc] = some (.next, [l0, some (.ref 0), u2, u3, u4, u5, u6, u7, u8, u9, u10, u11, u12], [.lst (acc ++ (rowsFrom i ns).map rowV)]) := by
  intro ns
  induction ns with
  | nil => intro i acc t2 t3 t4 t5 t6 t7 t8 t9 t10 t11 t12 _ _; exact ⟨t2, t3, t4, t5, t6, t7, t8, t9, t10, t11, t12, by simp [rowsFrom]; rfl⟩
  | cons n ns ih =>
    intro i acc t2 t3 t4 t5 t6 t7 t8 t9 t10 t11 t12 hi ha
    simp only [List.length_cons] at hi ha
    obtain ⟨v4, v5, v6, v7, v8, v9, v10, v11, v12, e⟩ := rows_step a (p := i) (by omega) n acc (by omega) l0 t4 t5 t6 t7 t8 t9 t10 t11 t12
    obtain ⟨u2, u3, u4, u5, u6, u7, u8, u9, u10, u11, u12, e2⟩ := ih (i + 1) (acc ++ [rowV (rowOf i n)]) (some (.int i)) (some (.int n)) v4 v5 v6 v7 v8 v9 v10 v11 v12 (by omega) (by simp; omega)
    refine ⟨u2, u3, u4, u5, u6, u7, u8, u9, u10, u11, u12, ?_⟩
    have ht : tupT [nmA 2, nmA 3] (.tup [.int i, .int n]) [l0, some (.ref 0), t2, t3, t4, t5, t6, t7, t8, t9, t10, t11, t12] [.lst acc] = some ([l0, some (.ref 0), some (.int i), some (.int n), t4, t5, t6, t7, t8, t9, t10, t11, t12], [.lst acc]) := rfl
    rw [show acc ++ (rowsFrom i (n :: ns)).map rowV = (acc ++ [rowV (rowOf i n)]) ++ (rowsFrom (i + 1) ns).map rowV by simp [rowsFrom]]
    exact for_step ht e e2
theorem rows_low (xs : List Rw) (m : Nat) : V.lowBs m (xs.map rowV) = true := by
  induction xs with
  | nil => rfl
  | cons x xs ih => simp only [List.map_cons, V.lowBs, ih, Bool.and_true]; rfl
noncomputable def nums (is : List Int) : List Int := is.take 8 ++ [19, 399, 235, 760, 75, 451]
theorem rows_run (a : Ad) (is : List Int) (hn : is.length ≤ 63) : rowsF1 a [.lst (is.map .int)] [] = some (.lst ((rowsFrom 0 (nums is)).map rowV), []) := by
  have hlen : (nums is).length ≤ 14 := by simp [nums]; omega
  obtain ⟨u2, u3, u4, u5, u6, u7, u8, u9, u10, u11, u12, e⟩ := rows_loop a (some (.lst (is.map .int))) (nums is) 0 [] none none none none none none none none none none none (by omega) (by simp; omega)
  rw [List.nil_append] at e
  have hrun : fnF 1 13 false (rowsF1_sh a) [.lst (is.map .int)] [] = some (.ref 0, [.lst ((rowsFrom 0 (nums is)).map rowV)]) := by
    unfold fnF
    rw [if_pos (by rfl)]
    simp only [rowsF1_sh]
    show (match seqS _ _ [some (.lst (is.map .int)), none, none, none, none, none, none, none, none, none, none, none, none] _ with | some (.ret v, _, σ') => some (v, σ') | some (.next, _, σ') => some (V.none, σ') | _ => none) = _
    rw [seq_go (loc₁ := [some (.lst (is.map .int)), some (.ref 0), none, none, none, none, none, none, none, none, none, none, none]) (σ₁ := [.lst []]) rfl rfl]
    have hit : op2 addF (op2 slcF (nmE 0) (kE (.int 8))) (lstE [kE (.int 19), kE (.int 399), kE (.int 235), kE (.int 760), kE (.int 75), kE (.int 451)]) [some (.lst (is.map .int)), some (.ref 0), none, none, none, none, none, none, none, none, none, none, none] [.lst []] = some (.lst ((nums is).map .int), [.lst []]) := by
      have b1 : Nat.ble (is.map V.int).length lmax = true := ble_lmax _ (by simp; omega)
      have hc : cutL 8 (is.map V.int) = (is.take 8).map .int := by
        unfold cutL
        rw [if_pos (by decide), List.map_take]; rfl
      have hs : op2 slcF (nmE 0) (kE (.int 8)) [some (.lst (is.map .int)), some (.ref 0), none, none, none, none, none, none, none, none, none, none, none] [.lst []] = some (.lst ((is.take 8).map .int), [.lst []]) := by
        simp only [op2_e, nmE_e, kE_e, List.getElem?_cons_zero, slcF, lstOf, b1, if_true, hc]
      have b2 : ((is.take 8).map V.int).length + 6 ≤ lmax := by simp [lmax]; omega
      rw [op2_e, hs]
      show addL [.lst ((is.take 8).map .int), .lst [.int 19, .int 399, .int 235, .int 760, .int 75, .int 451]] [.lst []] = _
      have b3 : Nat.ble (((is.take 8).map V.int).length + [V.int 19, .int 399, .int 235, .int 760, .int 75, .int 451].length) lmax = true := ble_of b2
      simp only [addL, lstOf, b3, if_true]
      simp [nums]
    rw [seq_go (loc₁ := [some (.lst (is.map .int)), some (.ref 0), u2, u3, u4, u5, u6, u7, u8, u9, u10, u11, u12]) (σ₁ := [.lst ((rowsFrom 0 (nums is)).map rowV)]) (by
      show (match op2 addF (op2 slcF (nmE 0) (kE (.int 8))) (lstE [kE (.int 19), kE (.int 399), kE (.int 235), kE (.int 760), kE (.int 75), kE (.int 451)]) _ _ with | some (v, σ₁) => (match seqOf v with | some ws => forL (tupT [nmA 2, nmA 3]) (rowsF1_b0 a) (enumL 0 ws) _ σ₁ | none => none) | none => none) = _
      rw [hit]
      exact e) rfl]
    rfl
  have hlo := rows_low (rowsFrom 0 (nums is)) 0
  unfold rowsF1 trF
  rw [hrun]
  show trunc 0 (.ref 0) [.lst ((rowsFrom 0 (nums is)).map rowV)] = _
  have e1 : V.frz 0 [SO.lst ((rowsFrom 0 (nums is)).map rowV)] (.ref 0) = .lst ((rowsFrom 0 (nums is)).map rowV) := rfl
  simp only [trunc, e1, List.take_zero, V.lowB, hlo, List.all_nil, Bool.and_self, if_true]
theorem nums_ok (is : List Int) (hn : is.length ≤ 63) : ∀ x ∈ rowsFrom 0 (nums is), x.ok := rowsFrom_ok 0 _ (by simp [nums]; omega)
theorem nums_len (is : List Int) : (rowsFrom 0 (nums is)).length ≤ 30 := by rw [rowsFrom_len]; simp [nums]; omega
theorem ints_low (is : List Int) (m : Nat) : V.lowBs m (is.map V.int) = true := by
  induction is with
  | nil => rfl
  | cons i is ih => simp only [List.map_cons, V.lowBs, ih, Bool.and_true]; rfl
end Mine
namespace Mine
open PySem PySem.Spec PySem.Calls PyProof.Rows PySem.W PySem.W.X
theorem ints_rel {lay : Addr → List Str} {F : Addr → Prop} {ρ : List Addr} {h : Heap} : ∀ {vs : List Value} {ns : List Int}, IntsAre vs ns → VRs lay F ρ h (ns.map V.int) vs
  | _, _, .nil => .nil
  | _, _, .cons _ _ r => .cons .int (ints_rel r)
theorem call1 : WalkX view1 loose1 (XL view1 []) (Hook.obs hook1) (Hook.val hook1) row1 def1 [] fun f vs => PySem.call f vs := by
  intro w s₀ s₁ mg mb G Y fa o pm cd doc dV kV ho hd hcd hD hmg hg args vals as L hpre hlay hrd hwl hlo
  have KX : (K1 w.params).In s₁.heap := Hook.keeps hook1 w _ _ (Hook.of hook1 w s₀ Y) L.keeps
  refine Ground.open G ?_
  intro T B D TE TW
  have O : (cx1 w s₁.heap mg mb none).Ok := ⟨KX, T.g, T.b, T.builtins, T.nolimit⟩
  have hfa : mg "law" = some (.ref 290) := mg_of O.kin O.g g_law
  have hnm : def1.name = "law" := by kernel_rfl
  rw [hnm] at hmg
  rw [hmg] at hfa
  cases hfa
  wrow_args hpre hlay hrd hwl hlo
  rename_i ns _ _ _ _ _ _ _ a itz _ hL _ _ _ hI _ hlen _
  have hL2 := script_obj L hL
  have hn : ns.length ≤ 63 := by omega
  have H : HInv (cx1 w s₁.heap mg mb none).lay (fun _ => False) s₁.heap [] [] s₁.heap :=
    ⟨rfl, List.nodup_nil, fun a h => (nomatch h), fun a h => h.elim, fun n o a h => by simp at h, fun b o h => h⟩
  have R : VR (cx1 w s₁.heap mg mb none).lay (fun _ => False) [] s₁.heap (.lst (ns.map .int)) (.ref a) := .lst ⟨id, List.not_mem_nil⟩ ⟨_, hL2⟩ (by rw [List.toList_toArray]; exact ints_rel hI)
  have ok := nums_ok ns hn
  have hlo : ∀ m, V.lowBs m (its (rowsFrom 0 (nums ns)) []) = true := fun m => (Pls.of (its_pl _ [] ok fun y h => nomatch h)).2 m
  refine law_call (F := fun _ => False) (sv := .lst (ns.map .int)) (rv := .lst ((rowsFrom 0 (nums ns)).map rowV)) (v := .lst (its (rowsFrom 0 (nums ns)) [])) (v' := .lst (its (rowsFrom 0 (nums ns)) [])) O H R (fun LF => rows_run (ad1 LF) ns hn)
    (fun LF => told_run (ad1 LF) rfl ["script", "rows"] _ (by simp only [V.lowBs, V.lowB, ints_low, rows_low, Bool.and_self]) _ ok (nums_len ns)) (hlo 0) (fun LF => due_run (ad1 LF) _ ok (nums_len ns)) (its_eq _ ok []) fun s' H' A' => ?_
  refine GoodW.toG ⟨.inl ⟨.bool true, .bool true, [], rfl, raisesW_false (by wrow_none_raised), ReadsW.bool _, by wrow_post, fun _ => ⟨List.nodup_nil, fun a h => (nomatch h)⟩⟩, fun b o e => A'.keep b o e (fun ⟨n, h, _⟩ => by simp at h) id, A'.os, A'.gens.trans hg⟩
theorem holds1 : rQ.Holds := head1 call1
end Mine
theorem PySem.Challenge.cw_pe0265_01_holds : PySem.Challenge.rw_pe0265_01.Holds :=
  Mine.holds1
