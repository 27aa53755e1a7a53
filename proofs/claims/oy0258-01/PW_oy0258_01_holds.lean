import PyProof.Rows.All
import Wide.All
import OpenK.AllK
import Wide.FinOn
import KE.KBoundM
import KE.KDictList
import KE.KDictSum
import KE.KFromBytes
import KE.KListMore
import KE.KPop
import KE.KSetInts
import KE.KSortAsk
import KE.KStar
import KE.KTryDeepN
import KE.KxDecode
import PySem.Builtin.Sre.Common
import PySem.Challenge.RW_oy0258_01
open PySem
set_option Elab.async false
set_option maxRecDepth 100000
set_option linter.all false
set_option maxHeartbeats 8000000
section
open PySem PySem.W PyProof.Rows
namespace Mine
noncomputable def sA (i : Nat) : Stmt := PySem.Challenge.pw_oy0258_01.main.body[i]?.getD (.Pass ⟨0, 0, 0, 0⟩)
noncomputable def mA (i j : Nat) : Stmt := match sA i with
  | .ClassDef _ _ _ b .. => b[j]?.getD (.Pass ⟨0, 0, 0, 0⟩)
  | s => s
noncomputable def fdA : Stmt → Arguments
  | .FunctionDef _ a .. => a
  | _ => ⟨[], [], none, [], [], none, []⟩
noncomputable def fdB : Stmt → List Stmt
  | .FunctionDef _ _ b .. => b
  | _ => []
noncomputable def fdS : Stmt → Scope
  | .FunctionDef _ _ _ _ _ _ s .. => s
  | _ => default
noncomputable abbrev dE (P : Params) (k : Str) (t : Nat) (v : Value) : DictEntry := ⟨PyData.keyHash P k, .str k t, v⟩
noncomputable abbrev fO (d : Stmt) (name qual : Str) (gl : Addr) (cl : List (Str × Addr)) (dV kV doc pm : Value) (an : Option Addr) (cd ct : Value) (bl : Addr) : FuncData :=
  ⟨name, qual, fdA d, .stmts (fdB d), fdS d, gl, cl, dV, kV, doc, pm, an, cd, ct, bl⟩
noncomputable def hd.view_39 : Program := view PySem.Challenge.pw_oy0258_01 [0, 1, 3, 4, 6, 7, 9, 10, 11, 12, 13, 14, 21, 22, 23, 24, 25, 27, 28, 29, 30, 31, 32, 33]
noncomputable def hd.heap_39 (P : Params) : Frag :=
  (nat_lit 2, ⟨.none, none, (.dict #[dE P "\x69mport.loaded._sre" 183 (.bool true), dE P "class._frozen_importlib.BuiltinImporter" 185 (.ref 14), dE P "watched.\x69mport" 206 (.ref 18), dE P "class._frozen_importlib.ModuleSpec" 216 (.ref 22), dE P "sys.modules.booked-epoch" 245 (.int 3 0), dE P "\x69mport.later-laid._sre" 270 (.bool true), dE P "watched.library" 272 (.ref 27), dE P "watched.library-objects" 0 (.str "\x0c" 0), dE P "watched.library-deep._sre" 273 (.str "\x04\x00\x00\x0b\x04\x00\x00\x0b\x04\x00\x00\x03\x04\x00\x00\x0b\x08\x04dict\x02" 0)] 9), #[]⟩) ::
  (nat_lit 3, ⟨(.type "dict"), none, (.dict #[dE P "__name__" 165 (.str "law_oy0258_01" 609), dE P "__doc__" 166 .none, dE P "__package__" 167 .none, dE P "__loader__" 168 (.builtin "__main__.__loader__#opaque"), dE P "__spec__" 169 .none, dE P "__annotations__" 170 (.ref 6), dE P "__builtins__" 171 (.ref 4), dE P "__file__" 173 (.str "/claim/cut.py" 172), dE P "__cached__" 174 .none, dE P "_sre" 275 (.ref 12), dE P "_wall" 288 (.ref 38), dE P "_twin_re_1" 306 (.ref 43), dE P "_quote_periods" 313 (.ref 50), dE P "bytes_types" 316 (.ref 51), dE P "_bytes_from_decode_data" 323 (.ref 58), dE P "Error" 343 (.ref 68), dE P "_ascii_buffer" 351 (.ref 78), dE P "_buffer" 359 (.ref 85), dE P "_truth" 367 (.ref 92), dE P "_B64" 369 (.bytes #[65, 66, 67, 68, 69, 70, 71, 72, 73, 74, 75, 76, 77, 78, 79, 80, 81, 82, 83, 84, 85, 86, 87, 88, 89, 90, 97, 98, 99, 100, 101, 102, 103, 104, 105, 106, 107, 108, 109, 110, 111, 112, 113, 114, 115, 116, 117, 118, 119, 120, 121, 122, 48, 49, 50, 51, 52, 53, 54, 55, 56, 57, 43, 47] 368), dE P "_b64_value" 376 (.ref 99), dE P "a2b_base64" 392 (.ref 107), dE P "b2a_base64" 406 (.ref 115), dE P "b64encode" 417 (.ref 123), dE P "b64decode" 426 (.ref 131), dE P "_NODE_OUT" 431 (.int (-1) 430), dE P "_NODE_DONE" 434 (.int (-2) 433), dE P "_NodeInfo" 471 (.ref 150), dE P "CycleError" 489 (.ref 165), dE P "TopologicalSorter" 608 (.ref 247), dE P "_law_texts" 616 (.ref 256), dE P "_law_octets" 622 (.ref 261), dE P "_law_sent" 630 (.ref 268), dE P "_law_told" 636 (.ref 273), dE P "_law_name" 642 (.ref 278), dE P "_law_due" 648 (.ref 283), dE P "law" 654 (.ref 288)] 37), #[]⟩) ::
  (nat_lit 32, ⟨(.type "tuple"), none, (.seq #[] 0), #[]⟩) ::
  (nat_lit 34, ⟨(.type "tuple"), none, (.seq #[(.str "k" 285)] 0), #[]⟩) ::
  (nat_lit 35, ⟨(.type "tuple"), none, (.seq #[] 0), #[]⟩) ::
  (nat_lit 37, ⟨(.type "code"), none, (.fields #[(.str "_wall" 282), (.str "_wall" 283), (.str "/claim/cut.py" 284), (.int 2 0), (.int 1 0), (.int 0 0), (.int 0 0), (.int 3 0), (.ref 32), (.bool true), (.int 276 0), (.ref 33), .none, (.ref 34), (.ref 35), (.ref 36), (.int 286 0), (.int 2 0), (.str "/claim/cut.py" 287)]), #[]⟩) ::
  (nat_lit 38, ⟨(.type "function"), none, (.func (fO (sA 1) "_wall" "_wall" 3 [] .none .none .none (.str "__main__" 164) none (.ref 37) .none 0)), #[]⟩) ::
  (nat_lit 42, ⟨(.type "tuple"), none, (.seq #[(.int 14 0), (.int 4 0), (.int 0 0), (.int 1 0), (.int 1 0), (.int 6 0), (.int 1 0), (.int 16 0), (.int 46 0), (.int 1 0)] 0), #[]⟩) ::
  (nat_lit 43, ⟨(.type "re.Pattern"), none, (.fields #[(.bytes #[40, 63, 109, 41, 94, 92, 46] 292), (.int 8 305), (.int 0 0), .none, .none, (.ref 42), (.int 1 0)]), #[]⟩) ::
  (nat_lit 44, ⟨(.type "tuple"), none, (.seq #[] 0), #[]⟩) ::
  (nat_lit 46, ⟨(.type "tuple"), none, (.seq #[(.str "bindata" 310)] 0), #[]⟩) ::
  (nat_lit 47, ⟨(.type "tuple"), none, (.seq #[] 0), #[]⟩) ::
  (nat_lit 49, ⟨(.type "code"), none, (.fields #[(.str "_quote_periods" 307), (.str "_quote_periods" 308), (.str "/claim/cut.py" 309), (.int 7 0), (.int 1 0), (.int 0 0), (.int 0 0), (.int 3 0), (.ref 44), (.bool true), (.int 276 0), (.ref 45), .none, (.ref 46), (.ref 47), (.ref 48), (.int 311 0), (.int 7 0), (.str "/claim/cut.py" 312)]), #[]⟩) ::
  (nat_lit 50, ⟨(.type "function"), none, (.func (fO (sA 4) "_quote_periods" "_quote_periods" 3 [] .none .none .none (.str "cpy313.smtplib" 289) none (.ref 49) .none 0)), #[]⟩) ::
  (nat_lit 51, ⟨(.type "tuple"), none, (.seq #[(.type "bytes"), (.type "bytearray")] 0), #[]⟩) ::
  (nat_lit 52, ⟨(.type "tuple"), none, (.seq #[] 0), #[]⟩) ::
  (nat_lit 54, ⟨(.type "tuple"), none, (.seq #[(.str "s" 320)] 0), #[]⟩) ::
  (nat_lit 55, ⟨(.type "tuple"), none, (.seq #[] 0), #[]⟩) ::
  (nat_lit 57, ⟨(.type "code"), none, (.fields #[(.str "_bytes_from_decode_data" 317), (.str "_bytes_from_decode_data" 318), (.str "/claim/cut.py" 319), (.int 11 0), (.int 1 0), (.int 0 0), (.int 0 0), (.int 3 0), (.ref 52), (.bool true), (.int 276 0), (.ref 53), .none, (.ref 54), (.ref 55), (.ref 56), (.int 321 0), (.int 11 0), (.str "/claim/cut.py" 322)]), #[]⟩) ::
  (nat_lit 58, ⟨(.type "function"), none, (.func (fO (sA 7) "_bytes_from_decode_data" "_bytes_from_decode_data" 3 [] .none .none .none (.str "cpy313.base64" 314) none (.ref 57) .none 0)), #[]⟩) ::
  (nat_lit 59, ⟨(.type "tuple"), none, (.seq #[(.type "ValueError")] 0), #[]⟩) ::
  (nat_lit 66, ⟨(.type "tuple"), none, (.seq #[] 0), #[]⟩) ::
  (nat_lit 67, ⟨(.type "dict"), none, (.dict #[dE P "__module__" 333 (.str "binascii" 324), dE P "__firstlineno__" 337 (.int 24 336), dE P "__static_attributes__" 338 (.ref 66), dE P "__weakref__" 340 (.ref 69), dE P "__doc__" 341 .none] 3), #[]⟩) ::
  (nat_lit 68, ⟨(.type "type"), none, (.cls ⟨"Error", [(.type "ValueError")], [(.ref 68), (.type "ValueError"), (.type "Exception"), (.type "BaseException"), (.type "object")], 67, "Error", true, [], [], false, none, false⟩), #[some (.ref 59), none, some (.str "Error" 326), some (.str "Error" 334), some (.builtin "ValueError.__new__"), some (.bool true)]⟩) ::
  (nat_lit 69, ⟨(.type "getset_descriptor"), none, (.fields #[(.str "__weakref__" 339), (.ref 68), (.builtin "ExceptionGroup.__weakref__"), .none]), #[]⟩) ::
  (nat_lit 72, ⟨(.type "tuple"), none, (.seq #[] 0), #[]⟩) ::
  (nat_lit 74, ⟨(.type "tuple"), none, (.seq #[(.str "data" 347), (.str "t" 348)] 0), #[]⟩) ::
  (nat_lit 75, ⟨(.type "tuple"), none, (.seq #[] 0), #[]⟩) ::
  (nat_lit 77, ⟨(.type "code"), none, (.fields #[(.str "_ascii_buffer" 344), (.str "_ascii_buffer" 345), (.str "/claim/cut.py" 346), (.int 26 0), (.int 1 0), (.int 0 0), (.int 0 0), (.int 3 0), (.ref 72), (.bool true), (.int 276 0), (.ref 73), .none, (.ref 74), (.ref 75), (.ref 76), (.int 349 0), (.int 26 0), (.str "/claim/cut.py" 350)]), #[]⟩) ::
  (nat_lit 78, ⟨(.type "function"), none, (.func (fO (sA 10) "_ascii_buffer" "_ascii_buffer" 3 [] .none .none .none (.str "binascii" 324) none (.ref 77) .none 0)), #[]⟩) ::
  (nat_lit 79, ⟨(.type "tuple"), none, (.seq #[] 0), #[]⟩) ::
  (nat_lit 81, ⟨(.type "tuple"), none, (.seq #[(.str "data" 355), (.str "t" 356)] 0), #[]⟩) ::
  (nat_lit 82, ⟨(.type "tuple"), none, (.seq #[] 0), #[]⟩) ::
  (nat_lit 84, ⟨(.type "code"), none, (.fields #[(.str "_buffer" 352), (.str "_buffer" 353), (.str "/claim/cut.py" 354), (.int 37 0), (.int 1 0), (.int 0 0), (.int 0 0), (.int 3 0), (.ref 79), (.bool true), (.int 276 0), (.ref 80), .none, (.ref 81), (.ref 82), (.ref 83), (.int 357 0), (.int 37 0), (.str "/claim/cut.py" 358)]), #[]⟩) ::
  (nat_lit 85, ⟨(.type "function"), none, (.func (fO (sA 11) "_buffer" "_buffer" 3 [] .none .none .none (.str "binascii" 324) none (.ref 84) .none 0)), #[]⟩) ::
  (nat_lit 86, ⟨(.type "tuple"), none, (.seq #[] 0), #[]⟩) ::
  (nat_lit 88, ⟨(.type "tuple"), none, (.seq #[(.str "x" 363), (.str "t" 364)] 0), #[]⟩) ::
  (nat_lit 89, ⟨(.type "tuple"), none, (.seq #[] 0), #[]⟩) ::
  (nat_lit 91, ⟨(.type "code"), none, (.fields #[(.str "_truth" 360), (.str "_truth" 361), (.str "/claim/cut.py" 362), (.int 44 0), (.int 1 0), (.int 0 0), (.int 0 0), (.int 3 0), (.ref 86), (.bool true), (.int 276 0), (.ref 87), .none, (.ref 88), (.ref 89), (.ref 90), (.int 365 0), (.int 44 0), (.str "/claim/cut.py" 366)]), #[]⟩) ::
  (nat_lit 92, ⟨(.type "function"), none, (.func (fO (sA 12) "_truth" "_truth" 3 [] .none .none .none (.str "binascii" 324) none (.ref 91) .none 0)), #[]⟩) ::
  (nat_lit 93, ⟨(.type "tuple"), none, (.seq #[] 0), #[]⟩) ::
  (nat_lit 95, ⟨(.type "tuple"), none, (.seq #[(.str "c" 373)] 0), #[]⟩) ::
  (nat_lit 96, ⟨(.type "tuple"), none, (.seq #[] 0), #[]⟩) ::
  (nat_lit 98, ⟨(.type "code"), none, (.fields #[(.str "_b64_value" 370), (.str "_b64_value" 371), (.str "/claim/cut.py" 372), (.int 50 0), (.int 1 0), (.int 0 0), (.int 0 0), (.int 3 0), (.ref 93), (.bool true), (.int 276 0), (.ref 94), .none, (.ref 95), (.ref 96), (.ref 97), (.int 374 0), (.int 50 0), (.str "/claim/cut.py" 375)]), #[]⟩) ::
  (nat_lit 99, ⟨(.type "function"), none, (.func (fO (sA 14) "_b64_value" "_b64_value" 3 [] .none .none .none (.str "binascii" 324) none (.ref 98) .none 0)), #[]⟩) ::
  (nat_lit 100, ⟨(.type "dict"), none, (.dict #[dE P "strict_mode" 377 (.bool false)] 1), #[]⟩) ::
  (nat_lit 101, ⟨(.type "tuple"), none, (.seq #[] 0), #[]⟩) ::
  (nat_lit 103, ⟨(.type "tuple"), none, (.seq #[(.str "data" 381), (.str "strict_mode" 382), (.str "ascii_data" 383), (.str "out" 384), (.str "quad_pos" 385), (.str "leftchar" 386), (.str "pads" 387), (.str "i" 388), (.str "this_ch" 389)] 0), #[]⟩) ::
  (nat_lit 104, ⟨(.type "tuple"), none, (.seq #[] 0), #[]⟩) ::
  (nat_lit 106, ⟨(.type "code"), none, (.fields #[(.str "a2b_base64" 378), (.str "a2b_base64" 379), (.str "/claim/cut.py" 380), (.int 62 0), (.int 1 0), (.int 1 0), (.int 1 0), (.int 3 0), (.ref 101), (.bool true), (.int 276 0), (.ref 102), .none, (.ref 103), (.ref 104), (.ref 105), (.int 390 0), (.int 62 0), (.str "/claim/cut.py" 391)]), #[]⟩) ::
  (nat_lit 107, ⟨(.type "function"), none, (.func (fO (sA 15) "a2b_base64" "a2b_base64" 3 [] .none (.ref 100) .none (.str "binascii" 324) none (.ref 106) .none 0)), #[]⟩) ::
  (nat_lit 108, ⟨(.type "dict"), none, (.dict #[dE P "newline" 393 (.bool true)] 1), #[]⟩) ::
  (nat_lit 109, ⟨(.type "tuple"), none, (.seq #[] 0), #[]⟩) ::
  (nat_lit 111, ⟨(.type "tuple"), none, (.seq #[(.str "data" 397), (.str "newline" 398), (.str "bin_data" 399), (.str "out" 400), (.str "leftbits" 401), (.str "leftchar" 402), (.str "b" 403)] 0), #[]⟩) ::
  (nat_lit 112, ⟨(.type "tuple"), none, (.seq #[] 0), #[]⟩) ::
  (nat_lit 114, ⟨(.type "code"), none, (.fields #[(.str "b2a_base64" 394), (.str "b2a_base64" 395), (.str "/claim/cut.py" 396), (.int 116 0), (.int 1 0), (.int 1 0), (.int 1 0), (.int 3 0), (.ref 109), (.bool true), (.int 276 0), (.ref 110), .none, (.ref 111), (.ref 112), (.ref 113), (.int 404 0), (.int 116 0), (.str "/claim/cut.py" 405)]), #[]⟩) ::
  (nat_lit 115, ⟨(.type "function"), none, (.func (fO (sA 16) "b2a_base64" "b2a_base64" 3 [] .none (.ref 108) .none (.str "binascii" 324) none (.ref 114) .none 0)), #[]⟩) ::
  (nat_lit 116, ⟨(.type "tuple"), none, (.seq #[.none] 0), #[]⟩) ::
  (nat_lit 117, ⟨(.type "tuple"), none, (.seq #[] 0), #[]⟩) ::
  (nat_lit 119, ⟨(.type "tuple"), none, (.seq #[(.str "s" 412), (.str "altchars" 413), (.str "encoded" 414)] 0), #[]⟩) ::
  (nat_lit 120, ⟨(.type "tuple"), none, (.seq #[] 0), #[]⟩) ::
  (nat_lit 122, ⟨(.type "code"), none, (.fields #[(.str "b64encode" 409), (.str "b64encode" 410), (.str "/claim/cut.py" 411), (.int 139 0), (.int 2 0), (.int 0 0), (.int 0 0), (.int 3 0), (.ref 117), (.bool true), (.int 276 0), (.ref 118), .none, (.ref 119), (.ref 120), (.ref 121), (.int 415 0), (.int 139 0), (.str "/claim/cut.py" 416)]), #[]⟩) ::
  (nat_lit 123, ⟨(.type "function"), none, (.func (fO (sA 18) "b64encode" "b64encode" 3 [] (.ref 116) .none .none (.str "cpy313.base64" 407) none (.ref 122) .none 0)), #[]⟩) ::
  (nat_lit 124, ⟨(.type "tuple"), none, (.seq #[.none, (.bool false)] 0), #[]⟩) ::
  (nat_lit 125, ⟨(.type "tuple"), none, (.seq #[] 0), #[]⟩) ::
  (nat_lit 127, ⟨(.type "tuple"), none, (.seq #[(.str "s" 421), (.str "altchars" 422), (.str "validate" 423)] 0), #[]⟩) ::
  (nat_lit 128, ⟨(.type "tuple"), none, (.seq #[] 0), #[]⟩) ::
  (nat_lit 130, ⟨(.type "code"), none, (.fields #[(.str "b64decode" 418), (.str "b64decode" 419), (.str "/claim/cut.py" 420), (.int 145 0), (.int 3 0), (.int 0 0), (.int 0 0), (.int 3 0), (.ref 125), (.bool true), (.int 276 0), (.ref 126), .none, (.ref 127), (.ref 128), (.ref 129), (.int 424 0), (.int 145 0), (.str "/claim/cut.py" 425)]), #[]⟩) ::
  (nat_lit 131, ⟨(.type "function"), none, (.func (fO (sA 19) "b64decode" "b64decode" 3 [] (.ref 124) .none .none (.str "cpy313.base64" 407) none (.ref 130) .none 0)), #[]⟩) ::
  (nat_lit 139, ⟨(.type "tuple"), none, (.seq #[(.str "node" 447), (.str "npredecessors" 448), (.str "successors" 449)] 0), #[]⟩) ::
  (nat_lit 140, ⟨(.type "tuple"), none, (.seq #[] 0), #[]⟩) ::
  (nat_lit 142, ⟨(.type "tuple"), none, (.seq #[(.str "self" 454), (.str "node" 455)] 0), #[]⟩) ::
  (nat_lit 143, ⟨(.type "tuple"), none, (.seq #[] 0), #[]⟩) ::
  (nat_lit 145, ⟨(.type "code"), none, (.fields #[(.str "__init__" 451), (.str "_NodeInfo.__init__" 452), (.str "/claim/cut.py" 453), (.int 158 0), (.int 2 0), (.int 0 0), (.int 0 0), (.int 3 0), (.ref 140), (.bool true), (.int 276 0), (.ref 141), .none, (.ref 142), (.ref 143), (.ref 144), (.int 456 0), (.int 158 0), (.str "/claim/cut.py" 457)]), #[]⟩) ::
  (nat_lit 146, ⟨(.type "function"), none, (.func (fO (mA 23 1) "__init__" "_NodeInfo.__init__" 3 [] .none .none .none (.str "cpy313.graphlib" 427) none (.ref 145) .none 0)), #[]⟩) ::
  (nat_lit 147, ⟨(.type "tuple"), none, (.seq #[(.str "node" 459), (.str "npredecessors" 460), (.str "successors" 461)] 0), #[]⟩) ::
  (nat_lit 149, ⟨(.type "dict"), none, (.dict #[dE P "__module__" 442 (.str "cpy313.graphlib" 427), dE P "__firstlineno__" 446 (.int 155 445), dE P "__slots__" 450 (.ref 139), dE P "__init__" 458 (.ref 146), dE P "__static_attributes__" 462 (.ref 147), dE P "node" 464 (.ref 151), dE P "npredecessors" 466 (.ref 152), dE P "successors" 468 (.ref 153), dE P "__doc__" 469 .none] 5), #[]⟩) ::
  (nat_lit 150, ⟨(.type "type"), none, (.cls ⟨"_NodeInfo", [(.type "object")], [(.ref 150), (.type "object")], 149, "_NodeInfo", false, ["node", "npredecessors", "successors"], [], false, none, false⟩), #[none, none, some (.str "_NodeInfo" 435), some (.str "_NodeInfo" 443), some (.builtin "object.__new__"), some (.bool false)]⟩) ::
  (nat_lit 151, ⟨(.type "member_descriptor"), none, (.fields #[(.str "node" 463), (.ref 150), (.builtin "proto.slot"), (.builtin "proto.slot#set"), (.int 2 0)]), #[]⟩) ::
  (nat_lit 152, ⟨(.type "member_descriptor"), none, (.fields #[(.str "npredecessors" 465), (.ref 150), (.builtin "proto.slot"), (.builtin "proto.slot#set"), (.int 1 0)]), #[]⟩) ::
  (nat_lit 153, ⟨(.type "member_descriptor"), none, (.fields #[(.str "successors" 467), (.ref 150), (.builtin "proto.slot"), (.builtin "proto.slot#set"), (.int 0 0)]), #[]⟩) ::
  (nat_lit 156, ⟨(.type "tuple"), none, (.seq #[(.type "ValueError")] 0), #[]⟩) ::
  (nat_lit 163, ⟨(.type "tuple"), none, (.seq #[] 0), #[]⟩) ::
  (nat_lit 164, ⟨(.type "dict"), none, (.dict #[dE P "__module__" 479 (.str "cpy313.graphlib" 427), dE P "__firstlineno__" 483 (.int 162 482), dE P "__static_attributes__" 484 (.ref 163), dE P "__weakref__" 486 (.ref 166), dE P "__doc__" 487 .none] 3), #[]⟩) ::
  (nat_lit 165, ⟨(.type "type"), none, (.cls ⟨"CycleError", [(.type "ValueError")], [(.ref 165), (.type "ValueError"), (.type "Exception"), (.type "BaseException"), (.type "object")], 164, "CycleError", true, [], [], false, none, false⟩), #[some (.ref 156), none, some (.str "CycleError" 472), some (.str "CycleError" 480), some (.builtin "ValueError.__new__"), some (.bool true)]⟩) ::
  (nat_lit 166, ⟨(.type "getset_descriptor"), none, (.fields #[(.str "__weakref__" 485), (.ref 165), (.builtin "ExceptionGroup.__weakref__"), .none]), #[]⟩) ::
  (nat_lit 176, ⟨(.type "tuple"), none, (.seq #[.none] 0), #[]⟩) ::
  (nat_lit 177, ⟨(.type "tuple"), none, (.seq #[] 0), #[]⟩) ::
  (nat_lit 179, ⟨(.type "tuple"), none, (.seq #[(.str "self" 505), (.str "graph" 506), (.str "node" 507), (.str "predecessors" 508)] 0), #[]⟩) ::
  (nat_lit 180, ⟨(.type "tuple"), none, (.seq #[] 0), #[]⟩) ::
  (nat_lit 182, ⟨(.type "code"), none, (.fields #[(.str "__init__" 502), (.str "TopologicalSorter.__init__" 503), (.str "/claim/cut.py" 504), (.int 166 0), (.int 2 0), (.int 0 0), (.int 0 0), (.int 3 0), (.ref 177), (.bool true), (.int 276 0), (.ref 178), .none, (.ref 179), (.ref 180), (.ref 181), (.int 509 0), (.int 166 0), (.str "/claim/cut.py" 510)]), #[]⟩) ::
  (nat_lit 183, ⟨(.type "function"), none, (.func (fO (mA 25 0) "__init__" "TopologicalSorter.__init__" 3 [] (.ref 176) .none .none (.str "cpy313.graphlib" 427) none (.ref 182) .none 0)), #[]⟩) ::
  (nat_lit 184, ⟨(.type "tuple"), none, (.seq #[] 0), #[]⟩) ::
  (nat_lit 186, ⟨(.type "tuple"), none, (.seq #[(.str "self" 515), (.str "node" 516), (.str "result" 517)] 0), #[]⟩) ::
  (nat_lit 187, ⟨(.type "tuple"), none, (.seq #[] 0), #[]⟩) ::
  (nat_lit 189, ⟨(.type "code"), none, (.fields #[(.str "_get_nodeinfo" 512), (.str "TopologicalSorter._get_nodeinfo" 513), (.str "/claim/cut.py" 514), (.int 175 0), (.int 2 0), (.int 0 0), (.int 0 0), (.int 3 0), (.ref 184), (.bool true), (.int 276 0), (.ref 185), .none, (.ref 186), (.ref 187), (.ref 188), (.int 518 0), (.int 175 0), (.str "/claim/cut.py" 519)]), #[]⟩) ::
  (nat_lit 190, ⟨(.type "function"), none, (.func (fO (mA 25 1) "_get_nodeinfo" "TopologicalSorter._get_nodeinfo" 3 [] .none .none .none (.str "cpy313.graphlib" 427) none (.ref 189) .none 0)), #[]⟩) ::
  (nat_lit 191, ⟨(.type "tuple"), none, (.seq #[] 0), #[]⟩) ::
  (nat_lit 193, ⟨(.type "tuple"), none, (.seq #[(.str "self" 524), (.str "node" 525), (.str "predecessors" 526), (.str "nodeinfo" 527), (.str "pred" 528), (.str "pred_info" 529)] 0), #[]⟩) ::
  (nat_lit 194, ⟨(.type "tuple"), none, (.seq #[] 0), #[]⟩) ::
  (nat_lit 196, ⟨(.type "code"), none, (.fields #[(.str "add" 521), (.str "TopologicalSorter.add" 522), (.str "/claim/cut.py" 523), (.int 180 0), (.int 2 0), (.int 0 0), (.int 0 0), (.int 7 0), (.ref 191), (.bool true), (.int 276 0), (.ref 192), .none, (.ref 193), (.ref 194), (.ref 195), (.int 530 0), (.int 180 0), (.str "/claim/cut.py" 531)]), #[]⟩) ::
  (nat_lit 197, ⟨(.type "function"), none, (.func (fO (mA 25 2) "add" "TopologicalSorter.add" 3 [] .none .none .none (.str "cpy313.graphlib" 427) none (.ref 196) .none 0)), #[]⟩) ::
  (nat_lit 198, ⟨(.type "tuple"), none, (.seq #[] 0), #[]⟩) ::
  (nat_lit 201, ⟨(.type "code"), none, (.fields #[(.str "prepare" 533), (.str "TopologicalSorter.prepare" 534), (.str "/claim/cut.py" 535), (.int 189 0), (.int 1 0), (.int 0 0), (.int 0 0), (.int 3 0), (.ref 198), (.bool true), (.int 276 0), (.ref 199), .none, .none, .none, (.ref 200), (.int 536 0), (.int 189 0), (.str "/claim/cut.py" 537)]), #[]⟩) ::
  (nat_lit 202, ⟨(.type "function"), none, (.func (fO (mA 25 3) "prepare" "TopologicalSorter.prepare" 3 [] .none .none .none (.str "cpy313.graphlib" 427) none (.ref 201) .none 0)), #[]⟩) ::
  (nat_lit 203, ⟨(.type "tuple"), none, (.seq #[] 0), #[]⟩) ::
  (nat_lit 205, ⟨(.type "tuple"), none, (.seq #[(.str "self" 542), (.str "result" 543), (.str "n2i" 544), (.str "node" 545)] 0), #[]⟩) ::
  (nat_lit 206, ⟨(.type "tuple"), none, (.seq #[] 0), #[]⟩) ::
  (nat_lit 208, ⟨(.type "code"), none, (.fields #[(.str "get_ready" 539), (.str "TopologicalSorter.get_ready" 540), (.str "/claim/cut.py" 541), (.int 197 0), (.int 1 0), (.int 0 0), (.int 0 0), (.int 3 0), (.ref 203), (.bool true), (.int 276 0), (.ref 204), .none, (.ref 205), (.ref 206), (.ref 207), (.int 546 0), (.int 197 0), (.str "/claim/cut.py" 547)]), #[]⟩) ::
  (nat_lit 209, ⟨(.type "function"), none, (.func (fO (mA 25 4) "get_ready" "TopologicalSorter.get_ready" 3 [] .none .none .none (.str "cpy313.graphlib" 427) none (.ref 208) .none 0)), #[]⟩) ::
  (nat_lit 210, ⟨(.type "tuple"), none, (.seq #[] 0), #[]⟩) ::
  (nat_lit 212, ⟨(.type "tuple"), none, (.seq #[(.str "self" 552)] 0), #[]⟩) ::
  (nat_lit 213, ⟨(.type "tuple"), none, (.seq #[] 0), #[]⟩) ::
  (nat_lit 215, ⟨(.type "code"), none, (.fields #[(.str "is_active" 549), (.str "TopologicalSorter.is_active" 550), (.str "/claim/cut.py" 551), (.int 208 0), (.int 1 0), (.int 0 0), (.int 0 0), (.int 3 0), (.ref 210), (.bool true), (.int 276 0), (.ref 211), .none, (.ref 212), (.ref 213), (.ref 214), (.int 553 0), (.int 208 0), (.str "/claim/cut.py" 554)]), #[]⟩) ::
  (nat_lit 216, ⟨(.type "function"), none, (.func (fO (mA 25 5) "is_active" "TopologicalSorter.is_active" 3 [] .none .none .none (.str "cpy313.graphlib" 427) none (.ref 215) .none 0)), #[]⟩) ::
  (nat_lit 217, ⟨(.type "tuple"), none, (.seq #[] 0), #[]⟩) ::
  (nat_lit 219, ⟨(.type "tuple"), none, (.seq #[(.str "self" 559)] 0), #[]⟩) ::
  (nat_lit 220, ⟨(.type "tuple"), none, (.seq #[] 0), #[]⟩) ::
  (nat_lit 222, ⟨(.type "code"), none, (.fields #[(.str "__bool__" 556), (.str "TopologicalSorter.__bool__" 557), (.str "/claim/cut.py" 558), (.int 213 0), (.int 1 0), (.int 0 0), (.int 0 0), (.int 3 0), (.ref 217), (.bool true), (.int 276 0), (.ref 218), .none, (.ref 219), (.ref 220), (.ref 221), (.int 560 0), (.int 213 0), (.str "/claim/cut.py" 561)]), #[]⟩) ::
  (nat_lit 223, ⟨(.type "function"), none, (.func (fO (mA 25 6) "__bool__" "TopologicalSorter.__bool__" 3 [] .none .none .none (.str "cpy313.graphlib" 427) none (.ref 222) .none 0)), #[]⟩) ::
  (nat_lit 224, ⟨(.type "tuple"), none, (.seq #[] 0), #[]⟩) ::
  (nat_lit 226, ⟨(.type "tuple"), none, (.seq #[(.str "self" 566), (.str "nodes" 567), (.str "n2i" 568), (.str "node" 569), (.str "nodeinfo" 570), (.str "stat" 571), (.str "successor" 572), (.str "successor_info" 573)] 0), #[]⟩) ::
  (nat_lit 227, ⟨(.type "tuple"), none, (.seq #[] 0), #[]⟩) ::
  (nat_lit 229, ⟨(.type "code"), none, (.fields #[(.str "done" 563), (.str "TopologicalSorter.done" 564), (.str "/claim/cut.py" 565), (.int 216 0), (.int 1 0), (.int 0 0), (.int 0 0), (.int 7 0), (.ref 224), (.bool true), (.int 276 0), (.ref 225), .none, (.ref 226), (.ref 227), (.ref 228), (.int 574 0), (.int 216 0), (.str "/claim/cut.py" 575)]), #[]⟩) ::
  (nat_lit 230, ⟨(.type "function"), none, (.func (fO (mA 25 7) "done" "TopologicalSorter.done" 3 [] .none .none .none (.str "cpy313.graphlib" 427) none (.ref 229) .none 0)), #[]⟩) ::
  (nat_lit 231, ⟨(.type "tuple"), none, (.seq #[] 0), #[]⟩) ::
  (nat_lit 233, ⟨(.type "tuple"), none, (.seq #[(.str "self" 580), (.str "n2i" 581), (.str "stack" 582), (.str "itstack" 583), (.str "seen" 584), (.str "node2stacki" 585), (.str "node" 586)] 0), #[]⟩) ::
  (nat_lit 234, ⟨(.type "tuple"), none, (.seq #[] 0), #[]⟩) ::
  (nat_lit 236, ⟨(.type "code"), none, (.fields #[(.str "_find_cycle" 577), (.str "TopologicalSorter._find_cycle" 578), (.str "/claim/cut.py" 579), (.int 239 0), (.int 1 0), (.int 0 0), (.int 0 0), (.int 3 0), (.ref 231), (.bool true), (.int 276 0), (.ref 232), .none, (.ref 233), (.ref 234), (.ref 235), (.int 587 0), (.int 239 0), (.str "/claim/cut.py" 588)]), #[]⟩) ::
  (nat_lit 237, ⟨(.type "function"), none, (.func (fO (mA 25 8) "_find_cycle" "TopologicalSorter._find_cycle" 3 [] .none .none .none (.str "cpy313.graphlib" 427) none (.ref 236) .none 0)), #[]⟩) ::
  (nat_lit 238, ⟨(.type "tuple"), none, (.seq #[] 0), #[]⟩) ::
  (nat_lit 240, ⟨(.type "tuple"), none, (.seq #[(.str "self" 593)] 0), #[]⟩) ::
  (nat_lit 241, ⟨(.type "tuple"), none, (.seq #[] 0), #[]⟩) ::
  (nat_lit 243, ⟨(.type "code"), none, (.fields #[(.str "static_order" 590), (.str "TopologicalSorter.static_order" 591), (.str "/claim/cut.py" 592), (.int 268 0), (.int 1 0), (.int 0 0), (.int 0 0), (.int 3 0), (.ref 238), (.bool true), (.int 276 0), (.ref 239), .none, (.ref 240), (.ref 241), (.ref 242), (.int 594 0), (.int 268 0), (.str "/claim/cut.py" 595)]), #[]⟩) ::
  (nat_lit 244, ⟨(.type "function"), none, (.func (fO (mA 25 9) "static_order" "TopologicalSorter.static_order" 3 [] .none .none .none (.str "cpy313.graphlib" 427) none (.ref 243) .none 0)), #[]⟩) ::
  (nat_lit 245, ⟨(.type "tuple"), none, (.seq #[(.str "_nfinished" 597), (.str "_node2info" 598), (.str "_npassedout" 599), (.str "_ready_nodes" 600)] 0), #[]⟩) ::
  (nat_lit 246, ⟨(.type "dict"), none, (.dict #[dE P "__module__" 497 (.str "cpy313.graphlib" 427), dE P "__firstlineno__" 501 (.int 164 500), dE P "__init__" 511 (.ref 183), dE P "_get_nodeinfo" 520 (.ref 190), dE P "add" 532 (.ref 197), dE P "prepare" 538 (.ref 202), dE P "get_ready" 548 (.ref 209), dE P "is_active" 555 (.ref 216), dE P "__bool__" 562 (.ref 223), dE P "done" 576 (.ref 230), dE P "_find_cycle" 589 (.ref 237), dE P "static_order" 596 (.ref 244), dE P "__static_attributes__" 601 (.ref 245), dE P "__dict__" 603 (.ref 248), dE P "__weakref__" 605 (.ref 249), dE P "__doc__" 606 .none] 4), #[]⟩) ::
  (nat_lit 247, ⟨(.type "type"), none, (.cls ⟨"TopologicalSorter", [(.type "object")], [(.ref 247), (.type "object")], 246, "TopologicalSorter", true, [], [], false, none, false⟩), #[none, none, some (.str "TopologicalSorter" 490), some (.str "TopologicalSorter" 498), some (.builtin "object.__new__"), some (.bool true)]⟩) ::
  (nat_lit 248, ⟨(.type "getset_descriptor"), none, (.fields #[(.str "__dict__" 602), (.ref 247), (.builtin "function.__dict__"), (.builtin "function.__dict__#set")]), #[]⟩) ::
  (nat_lit 249, ⟨(.type "getset_descriptor"), none, (.fields #[(.str "__weakref__" 604), (.ref 247), (.builtin "ExceptionGroup.__weakref__"), .none]), #[]⟩) ::
  (nat_lit 252, ⟨(.type "tuple"), none, (.seq #[] 0), #[]⟩) ::
  (nat_lit 255, ⟨(.type "code"), none, (.fields #[(.str "_law_texts" 611), (.str "_law_texts" 612), (.str "/claim/cut.py" 613), (.int 271 0), (.int 1 0), (.int 0 0), (.int 0 0), (.int 3 0), (.ref 252), (.bool true), (.int 276 0), (.ref 253), .none, .none, .none, (.ref 254), (.int 614 0), (.int 271 0), (.str "/claim/cut.py" 615)]), #[]⟩) ::
  (nat_lit 256, ⟨(.type "function"), none, (.func (fO (sA 27) "_law_texts" "_law_texts" 3 [] .none .none .none (.str "law_oy0258_01" 609) none (.ref 255) .none 0)), #[]⟩) ::
  (nat_lit 257, ⟨(.type "tuple"), none, (.seq #[] 0), #[]⟩) ::
  (nat_lit 260, ⟨(.type "code"), none, (.fields #[(.str "_law_octets" 617), (.str "_law_octets" 618), (.str "/claim/cut.py" 619), (.int 273 0), (.int 1 0), (.int 0 0), (.int 0 0), (.int 3 0), (.ref 257), (.bool true), (.int 276 0), (.ref 258), .none, .none, .none, (.ref 259), (.int 620 0), (.int 273 0), (.str "/claim/cut.py" 621)]), #[]⟩) ::
  (nat_lit 261, ⟨(.type "function"), none, (.func (fO (sA 28) "_law_octets" "_law_octets" 3 [] .none .none .none (.str "law_oy0258_01" 609) none (.ref 260) .none 0)), #[]⟩) ::
  (nat_lit 262, ⟨(.type "tuple"), none, (.seq #[] 0), #[]⟩) ::
  (nat_lit 264, ⟨(.type "tuple"), none, (.seq #[(.str "octets" 626), (.str "signs" 627)] 0), #[]⟩) ::
  (nat_lit 265, ⟨(.type "tuple"), none, (.seq #[] 0), #[]⟩) ::
  (nat_lit 267, ⟨(.type "code"), none, (.fields #[(.str "_law_sent" 623), (.str "_law_sent" 624), (.str "/claim/cut.py" 625), (.int 276 0), (.int 2 0), (.int 0 0), (.int 0 0), (.int 3 0), (.ref 262), (.bool true), (.int 276 0), (.ref 263), .none, (.ref 264), (.ref 265), (.ref 266), (.int 628 0), (.int 276 0), (.str "/claim/cut.py" 629)]), #[]⟩) ::
  (nat_lit 268, ⟨(.type "function"), none, (.func (fO (sA 29) "_law_sent" "_law_sent" 3 [] .none .none .none (.str "law_oy0258_01" 609) none (.ref 267) .none 0)), #[]⟩) ::
  (nat_lit 269, ⟨(.type "tuple"), none, (.seq #[] 0), #[]⟩) ::
  (nat_lit 272, ⟨(.type "code"), none, (.fields #[(.str "_law_told" 631), (.str "_law_told" 632), (.str "/claim/cut.py" 633), (.int 278 0), (.int 1 0), (.int 0 0), (.int 0 0), (.int 3 0), (.ref 269), (.bool true), (.int 276 0), (.ref 270), .none, .none, .none, (.ref 271), (.int 634 0), (.int 278 0), (.str "/claim/cut.py" 635)]), #[]⟩) ::
  (nat_lit 273, ⟨(.type "function"), none, (.func (fO (sA 30) "_law_told" "_law_told" 3 [] .none .none .none (.str "law_oy0258_01" 609) none (.ref 272) .none 0)), #[]⟩) ::
  (nat_lit 274, ⟨(.type "tuple"), none, (.seq #[] 0), #[]⟩) ::
  (nat_lit 277, ⟨(.type "code"), none, (.fields #[(.str "_law_name" 637), (.str "_law_name" 638), (.str "/claim/cut.py" 639), (.int 299 0), (.int 3 0), (.int 0 0), (.int 0 0), (.int 3 0), (.ref 274), (.bool true), (.int 276 0), (.ref 275), .none, .none, .none, (.ref 276), (.int 640 0), (.int 299 0), (.str "/claim/cut.py" 641)]), #[]⟩) ::
  (nat_lit 278, ⟨(.type "function"), none, (.func (fO (sA 31) "_law_name" "_law_name" 3 [] .none .none .none (.str "law_oy0258_01" 609) none (.ref 277) .none 0)), #[]⟩) ::
  (nat_lit 279, ⟨(.type "tuple"), none, (.seq #[] 0), #[]⟩) ::
  (nat_lit 282, ⟨(.type "code"), none, (.fields #[(.str "_law_due" 643), (.str "_law_due" 644), (.str "/claim/cut.py" 645), (.int 307 0), (.int 1 0), (.int 0 0), (.int 0 0), (.int 3 0), (.ref 279), (.bool true), (.int 276 0), (.ref 280), .none, .none, .none, (.ref 281), (.int 646 0), (.int 307 0), (.str "/claim/cut.py" 647)]), #[]⟩) ::
  (nat_lit 283, ⟨(.type "function"), none, (.func (fO (sA 32) "_law_due" "_law_due" 3 [] .none .none .none (.str "law_oy0258_01" 609) none (.ref 282) .none 0)), #[]⟩) ::
  (nat_lit 284, ⟨(.type "tuple"), none, (.seq #[] 0), #[]⟩) ::
  (nat_lit 287, ⟨(.type "code"), none, (.fields #[(.str "law" 649), (.str "law" 650), (.str "/claim/cut.py" 651), (.int 319 0), (.int 1 0), (.int 0 0), (.int 0 0), (.int 3 0), (.ref 284), (.bool true), (.int 276 0), (.ref 285), .none, .none, .none, (.ref 286), (.int 652 0), (.int 319 0), (.str "/claim/cut.py" 653)]), #[]⟩) ::
  (nat_lit 288, ⟨(.type "function"), none, (.func (fO (sA 33) "law" "law" 3 [] .none .none .none (.str "law_oy0258_01" 609) none (.ref 287) .none 0)), #[]⟩) :: []
noncomputable def hd.as : List Addr := [2, 3, 32, 34, 35, 37, 38, 42, 43, 44, 46, 47, 49, 50, 51, 52, 54, 55, 57, 58, 59, 66, 67, 68, 69, 72, 74, 75, 77, 78, 79, 81, 82, 84, 85, 86, 88, 89, 91, 92, 93, 95, 96, 98, 99, 100, 101, 103, 104, 106, 107, 108, 109, 111, 112, 114, 115, 116, 117, 119, 120, 122, 123, 124, 125, 127, 128, 130, 131, 139, 140, 142, 143, 145, 146, 147, 149, 150, 151, 152, 153, 156, 163, 164, 165, 166, 176, 177, 179, 180, 182, 183, 184, 186, 187, 189, 190, 191, 193, 194, 196, 197, 198, 201, 202, 203, 205, 206, 208, 209, 210, 212, 213, 215, 216, 217, 219, 220, 222, 223, 224, 226, 227, 229, 230, 231, 233, 234, 236, 237, 238, 240, 241, 243, 244, 245, 246, 247, 248, 249, 252, 255, 256, 257, 260, 261, 262, 264, 265, 267, 268, 269, 272, 273, 274, 277, 278, 279, 282, 283, 284, 287, 288]
noncomputable def hd.loose : List Str := ["_twin_re_1", "bytes_types", "a2b_base64", "b2a_base64", "b64encode", "b64decode", "_NodeInfo"]
theorem hd.keys : ∀ P, hd.as = (hd.heap_39 P).map (·.1) := fun _ => by kernel_rfl
theorem hd.said : PySem.Challenge.rw_oy0258_01.wellSaid = true :=
  (congrFun PySem.W.Fast.te9446332074065402090 _).trans (by kernel_rfl)
theorem hd.left : LeftO PySem.Challenge.pw_oy0258_01 hd.view_39 hd.loose (fun s => xlAt hd.view_39 [] s && recOk (PySem.Challenge.rw_oy0258_01.row.toRowW).records s) (kHook hd.heap_39 hd.as hd.keys).obs (kHook hd.heap_39 hd.as hd.keys).val 3858 := by
  intro w
  unfold openEnds fencedOpening topFrom openGood openSeen
  rw [PySem.W.Fast.te10274390034422433532, PySem.W.Fast.te14364793385576792824, PySem.W.Fast.te1435165496053646825, PySem.W.Fast.te14289696077712309145, PySem.W.Fast.te14082659384304107361, PySem.W.Fast.te5160383126252970620, PySem.W.Fast.te3399658132070893891, PySem.W.Fast.te5991557255702980513, PySem.W.Fast.te10880121769531294198, PySem.W.Fast.te821141287760084731, PySem.W.Fast.te7409074990110511671, PySem.W.Fast.te13664370479719496447, PySem.W.Fast.te14722251495701143533, PySem.W.Fast.te5923862056798008813, PySem.W.Fast.te10994771534591457954, PySem.W.Fast.te479339242167458305, PySem.W.Fast.te16090120013241838585, PySem.W.Fast.te3247288618530077131, PySem.W.Fast.te2386780881361962483, PySem.W.Fast.te11698064438423848299, PySem.W.Fast.te7317090234206586261, PySem.W.Fast.te7369524293546568484, PySem.W.Fast.te8920871248978507458]
  kernel_rfl
theorem hd (walk : WalkO hd.view_39 hd.loose (XL hd.view_39 []) (kHook hd.heap_39 hd.as hd.keys).says PySem.Challenge.rw_oy0258_01.row.toRowW ⟨"law", fdA (sA 33), fdB (sA 33), fdS (sA 33), ⟨319, 0, 321, 72⟩⟩ [] fun f vs => PySem.call f vs) : PySem.Challenge.rw_oy0258_01.Holds :=
  holds_law hd.said fun said => by
    refine holds_open (q := hd.view_39) (loose := hd.loose) (Xt := fun s => xlAt hd.view_39 [] s && recOk (PySem.Challenge.rw_oy0258_01.row.toRowW).records s) (XP := XL hd.view_39 []) (Yf := (kHook hd.heap_39 hd.as hd.keys).obs) (Ya := (kHook hd.heap_39 hd.as hd.keys).val) (YP := (kHook hd.heap_39 hd.as hd.keys).says) (N := 3858) hd.left (kHook hd.heap_39 hd.as hd.keys).of (kHook hd.heap_39 hd.as hd.keys).keeps (fun s e => xl_of s (Bool.and_eq_true_iff.mp e).1) XL.keeps (by kernel_rfl) (by kernel_rfl) (by kernel_rfl) (fun s e => recFacts_of (Bool.and_eq_true_iff.mp e).2) (by rfl) said (by decide +kernel) ⟨rfl, rfl, rfl, rfl, rfl, by decide +kernel⟩ ?hw walk
    w_witness2
end Mine
end
section
open PySem PySem.W PySem.Calls PyProof.Rows
namespace Mine

structure Led (h₀ : Heap) (L : Addr) (h : Heap) (news : List (Addr × Obj)) : Prop where
  N : News h₀ L h news
  nd : (news.map (·.1)).Nodup
theorem nameG {T : Prop} (h : ∀ G : Prop, (T → G) → G) : T := h T id
theorem Led.nil {h₀ h : Heap} {L : Addr} : Led h₀ L h [] := ⟨News.nil, List.nodup_nil⟩
theorem Led.cons {h₀ h : Heap} {L : Addr} {p : Addr × Obj} {news : List (Addr × Obj)} (N : News h₀ L h (p :: news)) (nd : (news.map (·.1)).Nodup) (off : ∀ q ∈ news, q.1 ≠ p.1) : Led h₀ L h (p :: news) :=
  ⟨N, List.nodup_cons.mpr ⟨fun hm => by obtain ⟨q, hq, e⟩ := List.mem_map.mp hm; exact off q hq e, nd⟩⟩
theorem Led.tail {h₀ h : Heap} {L : Addr} {p : Addr × Obj} {news : List (Addr × Obj)} (D : Led h₀ L h (p :: news)) : Led h₀ L h news :=
  ⟨fun q hq => D.N q (.tail _ hq), (List.nodup_cons.mp D.nd).2⟩
theorem Led.off {h₀ h : Heap} {L : Addr} {p : Addr × Obj} {news : List (Addr × Obj)} (D : Led h₀ L h (p :: news)) : ∀ q ∈ news, q.1 ≠ p.1 :=
  fun q hq e => (List.nodup_cons.mp D.nd).1 (List.mem_map.mpr ⟨q, hq, e⟩)
theorem Led.at {h₀ h : Heap} {L : Addr} {news : List (Addr × Obj)} (D : Led h₀ L h news) (i : Nat) {a : Addr} {o : Obj} (hi : news[i]? = some (a, o)) : h.get? a = some o := (D.N _ (List.mem_of_getElem? hi)).1
theorem Led.upd {h₀ h h' : Heap} {L : Addr} {m : Str → Option Value} {news : List (Addr × Obj)} (F : Fr h₀ L h m) (D : Led h₀ L h news) (i : Nat) {a : Addr} {o o' : Obj} (hi : news[i]? = some (a, o)) (hs : Heap.SameBut a h h') (ho : h'.get? a = some o') :
    Fr h₀ L h' m ∧ Led h₀ L h' (news.set i (a, o')) := by
  have hm := List.mem_of_getElem? hi
  have hz := D.N _ hm
  obtain ⟨hl, hg⟩ := List.getElem?_eq_some_iff.mp hi
  refine ⟨F.change hs hz.2.1 hz.2.2, ⟨fun p hp => ?_, ?_⟩⟩
  · rcases List.mem_or_eq_of_mem_set hp with hp' | rfl
    · by_cases e : p.1 = a
      · have : p = (a, o) := PySem.W.X.key_unique D.nd hp' hm e
        subst this
        obtain ⟨j, hj, hje⟩ := List.getElem_of_mem hp
        rw [List.length_set] at hj
        by_cases hij : i = j
        · subst hij
          rw [List.getElem_set_self] at hje
          have : o' = o := by injection hje
          subst this
          exact ⟨ho, hz.2⟩
        · rw [List.getElem_set_ne hij] at hje
          have nd := D.nd
          rw [List.nodup_iff_pairwise_ne] at nd
          exfalso
          have h1 : (news.map (·.1))[i]? = some a := by rw [List.getElem?_map, hi]; rfl
          have h2 : (news.map (·.1))[j]? = some a := by rw [List.getElem?_map, List.getElem?_eq_getElem hj, hje]; rfl
          exact hij ((List.getElem?_inj (by rw [List.length_map]; exact hl) D.nd).mp (h1.trans h2.symm))
      · exact ⟨(hs.2 _ e).trans (D.N p hp').1, (D.N p hp').2⟩
    · exact ⟨ho, hz.2⟩
  · have : (news.set i (a, o')).map (·.1) = news.map (·.1) := by
      rw [List.map_set]
      exact PySem.W.X.set_same (by rw [List.getElem?_map, hi]; rfl)
    rw [this]
    exact D.nd
inductive SetAt (D : Addr) (o o' : Obj) : List (Addr × Obj) → List (Addr × Obj) → Prop
  | head {r} : SetAt D o o' ((D, o) :: r) ((D, o') :: r)
  | tail {p r r'} : SetAt D o o' r r' → SetAt D o o' (p :: r) (p :: r')
theorem SetAt.idx {D : Addr} {o o' : Obj} {l l' : List (Addr × Obj)} (h : SetAt D o o' l l') : ∃ i, l[i]? = some (D, o) ∧ l' = l.set i (D, o') := by
  induction h with
  | head => exact ⟨0, rfl, rfl⟩
  | tail _ ih =>
    obtain ⟨i, a, b⟩ := ih
    exact ⟨i + 1, by simpa using a, by rw [b]; rfl⟩
theorem SetAt.mem {D : Addr} {o o' : Obj} {l l'} (h : SetAt D o o' l l') : (D, o) ∈ l := by
  obtain ⟨i, a, _⟩ := h.idx
  exact List.mem_of_getElem? a
theorem Led.set {h₀ h h' : Heap} {L : Addr} {m : Str → Option Value} {news news' : List (Addr × Obj)} {a : Addr} {o o' : Obj} (F : Fr h₀ L h m) (D : Led h₀ L h news) (e : SetAt a o o' news news') (hs : Heap.SameBut a h h') (ho : h'.get? a = some o') :
    Fr h₀ L h' m ∧ Led h₀ L h' news' := by
  obtain ⟨i, hi, rfl⟩ := e.idx
  exact D.upd F i hi hs ho
noncomputable def LeaveP (g : Heap) (R : Result → Shared → Prop) (v : Value) (s' : Shared) : Prop :=
  ∃ L' m' news', Fr g L' s'.heap m' ∧ Led g L' s'.heap news' ∧ ((∀ b o, g.get? b = some o → s'.heap.get? b = some o) → R (.ok (.ret v)) s')

section
variable {M : Model} {A : Around} {E : Value → Shared → Prop} {s : Shared} {env : Env}
theorem seqN {st st2 : Stmt} {rest : List Stmt} {Q : Flow → Shared → Prop}
    (h : ∀ R : Flow → Shared → Prop, (∀ s', wpAny M A (execs (st2 :: rest) env) Q E s' → R .next s') → (∀ fl s', fl ≠ .next → Q fl s' → R fl s') → wpAny M A (exec st env) R E s) :
    wpAny M A (execs (st :: st2 :: rest) env) Q E s :=
  wpAny_execs_cons (h _ (fun _ x => x) fun fl _ ne x => by cases fl <;> first | exact x | exact absurd rfl ne)
noncomputable def SeqG (M : Model) (A : Around) (E : Value → Shared → Prop) (env : Env) (rest : List Stmt) (Q R : Flow → Shared → Prop) : Prop :=
  (∀ s', wpAny M A (execs rest env) Q E s' → R .next s') ∧ ∀ fl s', fl ≠ .next → Q fl s' → R fl s'
theorem SeqG.next {rest : List Stmt} {Q R : Flow → Shared → Prop} (h : SeqG M A E env rest Q R) (x : wpAny M A (execs rest env) Q E s) : R .next s := h.1 _ x
theorem SeqG.other {rest : List Stmt} {Q R : Flow → Shared → Prop} {fl : Flow} (h : SeqG M A E env rest Q R) (n : fl ≠ .next) (x : Q fl s) : R fl s := h.2 _ _ n x
theorem seqG {st st2 : Stmt} {rest : List Stmt} {Q : Flow → Shared → Prop} (h : ∀ R : Flow → Shared → Prop, SeqG M A E env (st2 :: rest) Q R → wpAny M A (exec st env) R E s) :
    wpAny M A (execs (st :: st2 :: rest) env) Q E s := seqN fun R h1 h2 => h R ⟨h1, h2⟩
noncomputable def okL (env : Env) (x : Str) : Bool := (match env.scope.kind with | .function => true | _ => false) && (match env.kindOf x with | some .local => true | _ => false) && (x == ("__debug__" : Str)) == false
noncomputable def okS (env : Env) (x : Str) : Bool := (match env.scope.kind with | .function => true | _ => false) && (match env.kindOf x with | some .local => true | _ => false)
noncomputable def okC (env : Env) (x : Str) : Bool := (match env.scope.kind with | .function => true | _ => false) && (match env.kindOf x with | some .cell => true | _ => false) && (x == ("__debug__" : Str)) == false
theorem okS.kind {env : Env} {x : Str} (h : okS env x = true) : env.scope.kind = .function := by
  unfold okS at h; cases hk : env.scope.kind <;> first | rfl | (rw [hk] at h; cases h)
theorem okS.loc {env : Env} {x : Str} (h : okS env x = true) : env.kindOf x = some .local := by
  unfold okS at h
  have h := (Bool.and_eq_true_iff.mp h).2
  cases hk : env.kindOf x with
  | none => rw [hk] at h; cases h
  | some k => rw [hk] at h; cases k <;> first | rfl | cases h
theorem okL.toS {env : Env} {x : Str} (h : okL env x = true) : okS env x = true := (Bool.and_eq_true_iff.mp h).1
theorem okL.dbg {env : Env} {x : Str} (h : okL env x = true) : (x == ("__debug__" : Str)) = false := beq_iff_eq.mp (Bool.and_eq_true_iff.mp h).2
theorem okC.kind {env : Env} {x : Str} (h : okC env x = true) : env.scope.kind = .function := by
  unfold okC at h; cases hk : env.scope.kind <;> first | rfl | (rw [hk] at h; cases h)
theorem okC.cell {env : Env} {x : Str} (h : okC env x = true) : env.kindOf x = some .cell := by
  unfold okC at h
  have h := (Bool.and_eq_true_iff.mp (Bool.and_eq_true_iff.mp h).1).2
  cases hk : env.kindOf x with
  | none => rw [hk] at h; cases h
  | some k => rw [hk] at h; cases k <;> first | rfl | cases h
theorem okC.dbg {env : Env} {x : Str} (h : okC env x = true) : (x == ("__debug__" : Str)) = false := beq_iff_eq.mp (Bool.and_eq_true_iff.mp h).2
theorem oneN {st : Stmt} {Q : Flow → Shared → Prop} (h : wpAny M A (exec st env) Q E s) : wpAny M A (execs [st] env) Q E s :=
  wpAny_execs_cons (wpAny_mono h (fun fl _ x => by cases fl <;> first | exact x | exact wpAny_execs_nil x) fun _ _ x => x)
theorem nameQ {α : Type} {t : Sem α} {Q : α → Shared → Prop} (h : ∀ Q' : α → Shared → Prop, (∀ v s', Q v s' → Q' v s') → wpAny M A t Q' E s) : wpAny M A t Q E s := h Q fun _ _ x => x
end

section
variable {prog : Program} {w : World} {A : Around} {s : Shared} {g : Heap} {K : Frag} {p : Program} {loose : List Str} {mean : ExcName → Option Value} {mg mb : Str → Option Value}
  {R : Result → Shared → Prop} {name qual : Str} {params : Arguments} {body : List Stmt} {scope : Scope} {dV kV doc pm cdv ct oc : Value} {an od : Option Addr} {osl : Array (Option Value)} {f : Addr} {args : Args} {binds : List (Str × Value)} {news : List (Addr × Obj)}

theorem enterP (X : K.In g) (T : Top p loose mean mg mb g) (hsz : g.objs.size ≤ s.heap.objs.size)
    (st : ∀ b o, g.get? b = some o → s.heap.get? b = some o) (hn : ∀ q ∈ news, s.heap.get? q.1 = some q.2 ∧ g.get? q.1 = none)
    (ho : K.lookup f = some ⟨oc, od, .func (fnOf name qual params body scope dV kV doc pm an cdv ct), osl⟩) (hcd : codeIn K cdv qual = true) (hroom : A.depth < recursionLimit)
    (hbind : BindsTo s (fnOf name qual params body scope dV kV doc pm an cdv ct) args binds) (hloc : ∀ y ∈ binds, scope.names.lookup y.1 = some .local)
    (hnd : (news.map (·.1)).Nodup)
    (h : ∀ L' h₁, Fr g L' h₁ (fun y => binds.reverse.lookup y) → Led g L' h₁ news → (∀ q ∈ news, q.1 < L') → ∀ Q : Flow → Shared → Prop, (∀ fl s', LeaveP g R (match fl with | .ret v => v | _ => .none) s' → Q fl s') →
      wpAny (model prog w) (A.deeper (envOf qual scope L' f cdv)) (execs body (envOf qual scope L' f cdv))
        Q (fun _ _ => False) { s with heap := h₁, toks := s.toks + binds.length })
    (hco : scope.isCoroutine = false) (hgen : scope.isGenerator = false) (hk : scope.kind = .function)
    (hcell : ∀ x ∈ scope.names, x.2 ≠ .cell) : codeAny (model prog w) A (.call (.ref f) args) R s := by
  have X' : K.In s.heap := X.keeps st
  refine codeAny_call_def (fd := fnOf name qual params body scope dV kV doc pm an cdv ct) (body := body) (binds := binds) hroom (X' _ _ ho) rfl (T.nolimit.keeps st) (codeRec_of X' hcd) rfl hbind hcell hloc (fun h₁ hns hk₁ => ?_) hco hgen hk
  refine wpAny_mono (h s.heap.objs.size h₁ ⟨hns, fun b o e => hk₁ b o (st b o e), hsz⟩ ⟨(fun q hq => ⟨hk₁ _ _ (hn q hq).1, Nat.ne_of_lt (Heap.lt_size (hn q hq).1), (hn q hq).2⟩), hnd⟩ (fun q hq => Heap.lt_size (hn q hq).1) _ fun _ _ y => y) (fun fl s' hl => ?_) fun _ _ y => y.elim
  obtain ⟨L', m', news', F', _, k⟩ := hl
  exact k F'.keep
end

noncomputable def b64ks : List Int := [65, 66, 67, 68, 69, 70, 71, 72, 73, 74, 75, 76, 77, 78, 79, 80, 81, 82, 83, 84, 85, 86, 87, 88, 89, 90, 97, 98, 99, 100, 101, 102, 103, 104, 105, 106, 107, 108, 109, 110, 111, 112, 113, 114, 115, 116, 117, 118, 119, 120, 121, 122, 48, 49, 50, 51, 52, 53, 54, 55, 56, 57, 43, 47]
noncomputable def sgn (i : Int) : Int := b64ks.getD i.toNat 0
theorem nat_and_low (n k j : Nat) (h : k < 2 ^ j) : (n * 2 ^ j) &&& k = 0 := by
  apply Nat.eq_of_testBit_eq
  intro i
  rw [Nat.testBit_and, Nat.testBit_mul_two_pow, Nat.zero_testBit]
  by_cases hi : j ≤ i
  · have : k.testBit i = false := Nat.testBit_lt_two_pow (Nat.lt_of_lt_of_le h (Nat.pow_le_pow_right (by decide) hi))
    simp [this]
  · simp [hi]
theorem bitOr_low (a b : Int) (j : Nat) (ha : 0 ≤ a) (hb : 0 ≤ b) (hj : b < 2 ^ j) : Builtin.bitOr (a * 2 ^ j) b = a * 2 ^ j + b := by
  obtain ⟨n, rfl⟩ := Int.eq_ofNat_of_zero_le ha
  obtain ⟨k, rfl⟩ := Int.eq_ofNat_of_zero_le hb
  have hk : k < 2 ^ j := by
    have : ((2 ^ j : Nat) : Int) = (2 : Int) ^ j := by simp
    omega
  have e : (n : Int) * 2 ^ j = ((n * 2 ^ j : Nat) : Int) := by simp
  rw [bitOr_and, e]
  have z : Builtin.bitAnd ((n * 2 ^ j : Nat) : Int) (k : Int) = 0 := by
    unfold Builtin.bitAnd
    rw [decide_eq_true (by omega), decide_eq_true (by omega)]
    simp only [Int.toNat_natCast, nat_and_low n k j hk]
    rfl
  omega
section
variable {prog : Program} {w : World} {A : Around} {E : Value → Shared → Prop} {hh : Heap} {g : Array GenState} {dr : Drawn} {tk₀ : Nat} {os : OsState} {a b n : Int} {t u : Tok} {Q : Value → Shared → Prop}
theorem shl_lit {k : Int} {c : Int} (hk : 0 ≤ k) (hk2 : k ≤ 8) (hc : (2 : Int) ^ k.toNat = c) (ha : 0 ≤ a) (hb : a < 65536) (h : Q (.int (a * c) tk₀) ⟨hh, g, dr, tk₀ + 1, os⟩) :
    wpAny (model prog w) A (binaryOp .LShift (.int a t) (.int k u)) Q E ⟨hh, g, dr, tk₀, os⟩ := by
  subst hc
  exact lshift_int_small hk (by omega) (by omega) h
theorem bor_lit (j : Nat) {c : Int} (hc : (2 : Int) ^ j = c) (ha : 0 ≤ a) (hb : 0 ≤ b) (hj : b < c) (h : Q (.int (a * c + b) tk₀) ⟨hh, g, dr, tk₀ + 1, os⟩) :
    wpAny (model prog w) A (binaryOp .BitOr (.int (a * c) t) (.int b u)) Q E ⟨hh, g, dr, tk₀, os⟩ := by
  subst hc
  refine or_int ?_
  rw [bitOr_low a b j ha hb hj]
  exact h
theorem band_lit {k c : Int} (hk : Builtin.bitAnd a k = a % c) (h : Q (.int (a % c) tk₀) ⟨hh, g, dr, tk₀ + 1, os⟩) :
    wpAny (model prog w) A (binaryOp .BitAnd (.int a t) (.int k u)) Q E ⟨hh, g, dr, tk₀, os⟩ := by
  refine and_int ?_
  rw [hk]
  exact h
theorem shr_lit {c : Int} (hn : 0 ≤ n) (hc : (2 : Int) ^ n.toNat = c) (hp : 0 < c) (h : Q (.int (a / c) tk₀) ⟨hh, g, dr, tk₀ + 1, os⟩) :
    wpAny (model prog w) A (binaryOp .RShift (.int a t) (.int n u)) Q E ⟨hh, g, dr, tk₀, os⟩ := by
  subst hc
  refine rshift_int hn ?_
  rw [Int.fdiv_eq_ediv_of_nonneg _ (Int.le_of_lt hp)]
  exact h
theorem addM (h : Q (.int (a + b) tk₀) ⟨hh, g, dr, tk₀ + 1, os⟩) : wpAny (model prog w) A (binaryOp .Add (.int a t) (.int b u)) Q E ⟨hh, g, dr, tk₀, os⟩ := add_int h
theorem subM (h : Q (.int (a - b) tk₀) ⟨hh, g, dr, tk₀ + 1, os⟩) : wpAny (model prog w) A (binaryOp .Sub (.int a t) (.int b u)) Q E ⟨hh, g, dr, tk₀, os⟩ := sub_int h
theorem constIntM {env : Env} {i : Int} {k : Nat} {pos : Pos} (h : Q (.int i tk₀) ⟨hh, g, dr, tk₀ + 1, os⟩) : wpAny (model prog w) A (eval (.Constant (.int i) k pos) env) Q E ⟨hh, g, dr, tk₀, os⟩ := wpAny_Constant_int h
end

noncomputable def mp (l : List (Str × Value)) (y : Str) : Option Value := l.lookup y
inductive MSet (x : Str) (v : Value) : List (Str × Value) → List (Str × Value) → Prop
  | nil : MSet x v [] [(x, v)]
  | head {u r} : MSet x v ((x, u) :: r) ((x, v) :: r)
  | tail {y u r r'} : (y == x) = false → MSet x v r r' → MSet x v ((y, u) :: r) ((y, u) :: r')
theorem MSet.eq {x : Str} {v : Value} {l l' : List (Str × Value)} (h : MSet x v l l') : (fun y => if y = x then some v else mp l y) = mp l' := by
  induction h with
  | nil =>
    funext y
    by_cases h : y = x
    · subst h; simp [mp]
    · have : (y == x) = false := by simpa using h
      simp [mp, h, List.lookup, this]
  | @head u r =>
    funext y
    by_cases h : y = x
    · subst h; simp [mp]
    · have : (y == x) = false := by simpa using h
      simp [mp, h, List.lookup, this]
  | @tail z u r r' hz hr ih =>
    funext y
    have ih := congrFun ih y
    have hzx : z ≠ x := by simpa using hz
    by_cases h : y = z
    · subst h; simp [mp, hzx]
    · have e : (y == z) = false := by simpa using h
      simp only [mp, List.lookup, e] at ih ⊢
      exact ih
theorem Fr.mset {h₀ h : Heap} {L : Addr} {x : Str} {v : Value} {l l' : List (Str × Value)} (F : Fr h₀ L h (fun y => if y = x then some v else mp l y)) (e : MSet x v l l') : Fr h₀ L h (mp l') := e.eq ▸ F

section
variable {M : Model} {A : Around} {E : Value → Shared → Prop} {hh : Heap} {g : Array GenState} {dr : Drawn} {tk₀ : Nat} {os : OsState} {name : Str} {scope : Scope} {L a : Addr} {cd : Value} {h₀ : Heap} {l l' : List (Str × Value)} {news : List (Addr × Obj)} {x : Str} {Q : Unit → Shared → Prop}
theorem stM {v : Value} (F : Fr h₀ L hh (mp l)) (N : Led h₀ L hh news) (e : MSet x v l l')
    (h : ∀ h' tk, Fr h₀ L h' (mp l') → Led h₀ L h' news → Q () ⟨h', g, dr, tk, os⟩)
    (hk : scope.kind = .function) (hl : (envOf name scope L a cd).kindOf x = some .local) :
    wpAny M A (storeName (envOf name scope L a cd) x v) Q E ⟨hh, g, dr, tk₀, os⟩ :=
  stN F N.N (fun h' F' N' => h h' _ (Mine.Fr.mset F' e) ⟨N', N.nd⟩) hk hl
theorem stMq {v : Value} (F : Fr h₀ L hh (mp l)) (N : Led h₀ L hh news) (e : MSet x v l l')
    (h : ∀ h' tk, Fr h₀ L h' (mp l') → Led h₀ L h' news → Q () ⟨h', g, dr, tk, os⟩) (k : okS (envOf name scope L a cd) x = true) :
    wpAny M A (storeName (envOf name scope L a cd) x v) Q E ⟨hh, g, dr, tk₀, os⟩ := stM F N e h (okS.kind k) (okS.loc k)
theorem stMiq {n : Int} {t : Tok} {l' : Tok → List (Str × Value)} (F : Fr h₀ L hh (mp l)) (N : Led h₀ L hh news) (e : ∀ t, MSet x (.int n t) l (l' t))
    (h : ∀ t h' tk, Fr h₀ L h' (mp (l' t)) → Led h₀ L h' news → Q () ⟨h', g, dr, tk, os⟩) (k : okS (envOf name scope L a cd) x = true) :
    wpAny M A (storeName (envOf name scope L a cd) x (.int n t)) Q E ⟨hh, g, dr, tk₀, os⟩ := stM F N (e t) (h t) (okS.kind k) (okS.loc k)
theorem stMbq {n : Array UInt8} {t : Tok} {l' : Tok → List (Str × Value)} (F : Fr h₀ L hh (mp l)) (N : Led h₀ L hh news) (e : ∀ t, MSet x (.bytes n t) l (l' t))
    (h : ∀ t h' tk, Fr h₀ L h' (mp (l' t)) → Led h₀ L h' news → Q () ⟨h', g, dr, tk, os⟩) (k : okS (envOf name scope L a cd) x = true) :
    wpAny M A (storeName (envOf name scope L a cd) x (.bytes n t)) Q E ⟨hh, g, dr, tk₀, os⟩ := stM F N (e t) (h t) (okS.kind k) (okS.loc k)
end

section
variable {prog : Program} {w : World} {A : Around} {E : Value → Shared → Prop} {g : Array GenState} {dr : Drawn} {os : OsState} {env : Env} {h₀ : Heap} {x : Str} {body : List Stmt} {Q : Flow → Shared → Prop}
noncomputable def BEnd (h₀ : Heap) (L : Addr) (g : Array GenState) (dr : Drawn) (os : OsState) (I : Addr) (it : Obj) (rest : List (Str × Value) → List (Addr × Obj) → Prop) (s₂ : Shared) : Prop :=
  ∃ h' tk l' news', s₂ = ⟨h', g, dr, tk, os⟩ ∧ Fr h₀ L h' (mp l') ∧ Led h₀ L h' ((I, it) :: news') ∧ rest l' news'
theorem BEnd.intro {L I : Addr} {it : Obj} {rest : List (Str × Value) → List (Addr × Obj) → Prop} {h' : Heap} {tk : Nat} {l' news'} (F : Fr h₀ L h' (mp l')) (N : Led h₀ L h' ((I, it) :: news')) (r : rest l' news') :
    BEnd h₀ L g dr os I it rest ⟨h', g, dr, tk, os⟩ := ⟨h', tk, l', news', rfl, F, N, r⟩
noncomputable def BPost (h₀ : Heap) (L : Addr) (g : Array GenState) (dr : Drawn) (os : OsState) (I : Addr) (it : Obj) (rest : List (Str × Value) → List (Addr × Obj) → Prop) (Q : Flow → Shared → Prop) (f : Flow) (s₂ : Shared) : Prop :=
  match f with
  | .ret v => Q (.ret v) s₂
  | .brk => Q .next s₂
  | _ => BEnd h₀ L g dr os I it rest s₂
noncomputable def BRest (prog : Program) (w : World) (A : Around) (E : Value → Shared → Prop) (h₀ : Heap) (env : Env) (x : Str) (body : List Stmt) (Q : Flow → Shared → Prop) (g : Array GenState) (dr : Drawn) (os : OsState) (I : Addr) : List Int → List (Str × Value) → List (Addr × Obj) → Prop
  | [], l, news => ∀ h tk, Fr h₀ env.locals h (mp l) → Led h₀ env.locals h news → Q .next ⟨h, g, dr, tk, os⟩
  | c :: r, l, news => ∃ l₁ : Tok → List (Str × Value), (∀ u, MSet x (.int c u) l (l₁ u)) ∧ ∀ (u : Tok) (it : Obj) h tk, Fr h₀ env.locals h (mp (l₁ u)) → Led h₀ env.locals h ((I, it) :: news) →
      wpAny (model prog w) A (execs body env) (BPost h₀ env.locals g dr os I it (BRest prog w A E h₀ env x body Q g dr os I r) Q) E ⟨h, g, dr, tk, os⟩
theorem BRest.to {hh : Heap} {tk₀ : Nat} {I : Addr} : ∀ {ks : List Int} {l news}, (news.map (·.1)).Nodup → (∀ p ∈ news, p.1 ≠ I) → BRest prog w A E h₀ env x body Q g dr os I ks l news → BytesRest prog w A E h₀ env x body Q ⟨hh, g, dr, tk₀, os⟩ I ks (mp l) news
  | [], _, _, nd, _, H => fun h tk F N => H h tk F ⟨N, nd⟩
  | c :: r, l, news, nd, of, H => fun _ _ u it h tk F N => by
    obtain ⟨l₁, e, H⟩ := H
    refine wpAny_mono (H u it h tk (Mine.Fr.mset F (e u)) (Led.cons N nd of)) (fun f s₂ q => ?_) fun _ _ e => e
    have fin : BEnd h₀ env.locals g dr os I it (BRest prog w A E h₀ env x body Q g dr os I r) s₂ → UnrEnd h₀ env.locals { heap := h, gens := g, drawn := dr, toks := tk, os := os } I it (BytesRest prog w A E h₀ env x body Q ⟨hh, g, dr, tk₀, os⟩ I r) s₂ := by
      rintro ⟨h', tk', l', news', e, F', N', r'⟩
      exact ⟨h', tk', mp l', news', e, F', N'.N, N'.off, BRest.to N'.tail.nd N'.off r'⟩
    cases f with
    | ret v => exact q
    | brk => exact q
    | next => exact fin q
    | cont => exact fin q
theorem iter_bytesM {hh : Heap} {tk₀ : Nat} {b : Array UInt8} {t : Tok} {ks : List Int} {l : List (Str × Value)} {news : List (Addr × Obj)} (hA : A.handled = none) (F : Fr h₀ env.locals hh (mp l)) (N : Led h₀ env.locals hh news)
    (hx : KBw.bInts b = ks) (rest₀ : ∀ I : Addr, BRest prog w A E h₀ env x body Q g dr os I ks l news) :
    wpAny (model prog w) A (pyIter (.bytes b t)) (fun it s₂ => LoopAtV prog w A h₀ env x body Q E it s₂) E ⟨hh, g, dr, tk₀, os⟩ :=
  iter_bytesUnr hA F N.N hx fun I hI => BRest.to N.nd (fun p hp => Nat.ne_of_lt (hI p hp)) (rest₀ I)
end
noncomputable def bval (c : Int) : Int := if 65 ≤ c ∧ c ≤ 90 then c - 65 else if 97 ≤ c ∧ c ≤ 122 then c - 71 else if 48 ≤ c ∧ c ≤ 57 then c + 4 else if c = 43 then 62 else if c = 47 then 63 else 64
theorem test_lastE {M : Model} {A : Around} {E : Value → Shared → Prop} {s : Shared} {env : Env} {pos : Pos} {a : Value} {op : CmpOp} {r : Sem Value} {Q : Bool → Shared → Prop}
    (h : wpAny M A r (fun b s₁ => wpAny M A (compareOp op a b) (fun c s₂ => wpAny M A (truthy c) Q E s₂) E s₁) E s) : wpAny M A (testChain pos a [op] (r :: evalEach [] env)) Q E s := test_last h
section
variable {M : Model} {A : Around} {E : Value → Shared → Prop} {s : Shared} {h₀ : Heap} {L : Addr} {m : Str → Option Value} {news : List (Addr × Obj)}
theorem newList_M {hh : Heap} {g : Array GenState} {dr : Drawn} {tk₀ : Nat} {os : OsState} {vs : List Value} {Q : Value → Shared → Prop} (F : Fr h₀ L hh m) (N : Led h₀ L hh news)
    (h : ∀ a h', Fr h₀ L h' m → Led h₀ L h' ((a, listOf vs.toArray 0) :: news) → Q (.ref a) ⟨h', g, dr, tk₀, os⟩) (hsz : vs.length ≤ sizeLine := by size_fits) :
    wpAny M A (newList vs) Q E ⟨hh, g, dr, tk₀, os⟩ := newList_N F N.N (fun h' F' N' => h _ h' F' (Led.cons N' N.nd fun p hp => Nat.ne_of_lt (Heap.lt_size (N.N p hp).1))) hsz
end
section
variable {prog : Program} {w : World} {A : Around} {E : Value → Shared → Prop} {h₀ : Heap} {L D : Addr} {m : Str → Option Value} {news : List (Addr × Obj)} {hh : Heap} {g : Array GenState} {dr : Drawn} {tk₀ : Nat} {os : OsState}
theorem appendM {its : Array Value} {n : Nat} {x : Value} {Q : Value → Shared → Prop} (F : Fr h₀ L hh m) (N : Led h₀ L hh news) {news' : List (Addr × Obj)} (e : SetAt D (listOf its n) (listOf (its.push x) (n + 1)) news news')
    (h : ∀ h', Fr h₀ L h' m → Led h₀ L h' news' → Q .none ⟨h', g, dr, tk₀, os⟩) (hsz : its.size ≤ sizeLine := by size_fits) : wpAny (model prog w) A (call (.builtin "list.append") [.ref D, x]) Q E ⟨hh, g, dr, tk₀, os⟩ :=
  append_at (hsz := hsz) (N.N _ e.mem).1 fun h' hs ho' => h h' (N.set F e hs ho').1 (N.set F e hs ho').2
theorem listMethM {its : Array Value} {n : Nat} {name : Str} {id : String} {pl : Sem Bool} {Q : Value × List Value → Shared → Prop} (N : Led h₀ L hh news) (hm : (D, listOf its n) ∈ news) (slot : Slot "list" name id) (hty : typeOf (.builtin id) = pure (.type "method_descriptor"))
    (h : Q (.builtin id, [.ref D]) ⟨hh, g, dr, tk₀, os⟩) : wpAny (model prog w) A (getMethod (.ref D) name pl) Q E ⟨hh, g, dr, tk₀, os⟩ := listMethod_K N.N hm slot hty h
end
theorem sgn_in (i : Int) : 0 ≤ sgn i ∧ sgn i < 256 := KBw.getD_in (ks := b64ks) (j := i.toNat) (by decide)
section
variable {prog : Program} {w : World} {A : Around} {E : Value → Shared → Prop} {hh : Heap} {g : Array GenState} {dr : Drawn} {tk₀ : Nat} {os : OsState} {Q : Value → Shared → Prop}
theorem b64itemM {n : Str} {p p' : Pos} {l r : Expr} {op : Operator} {b : Array UInt8} {t u : Tok} {i : Int} (hk : KBw.bInts b = b64ks) (h0 : 0 ≤ i) (h1 : i < 64)
    (h : ∀ t' tk', Q (.int (sgn i) t') ⟨hh, g, dr, tk', os⟩) : wpAny (model prog w) A (subscriptTail (.Name n p) (.BinOp l op r p') (.bytes b t) (.int i u)) Q E ⟨hh, g, dr, tk₀, os⟩ :=
  KBw.item_K hk (by decide) h0 (by simpa [b64ks] using h1) (fun t' k _ _ => h t' k) rfl (fun _ => rfl)
end
section
variable {prog : Program} {w : World} {A : Around} {E : Value → Shared → Prop} {h₀ : Heap} {L D : Addr} {m : Str → Option Value} {news : List (Addr × Obj)} {hh : Heap} {g : Array GenState} {dr : Drawn} {tk₀ : Nat} {os : OsState} {Q : Value → Shared → Prop}
theorem bytesM {its : Array Value} {n : Nat} {ns : List Int} (F : Fr h₀ L hh m) (N : Led h₀ L hh news) (hA : A.handled = none) (hm : (D, listOf its n) ∈ news) (hi : IntsAre its.toList ns) (hr : KBa.In ns) (hn : ns.length ≤ 16777216)
    (h : ∀ c h' t' k, Fr h₀ L h' m → Led h₀ L h' news → KBw.bInts c = ns → Q (.bytes c t') ⟨h', g, dr, k, os⟩) :
    wpAny (model prog w) A (call (.type "bytes") [.ref D]) Q E ⟨hh, g, dr, tk₀, os⟩ := by
  have hl : hh.IsList D its.toList.toArray := ⟨_, (N.N _ hm).1, rfl, n, by simp⟩
  exact KBa.make_K F N.N hA hl hi hr hn fun h' t' k F' N' _ => h _ h' t' k F' ⟨N', N.nd⟩ (KBa.ints_make hr)
end
inductive MGet (x : Str) (v : Value) : List (Str × Value) → Prop
  | head {r} : MGet x v ((x, v) :: r)
  | tail {y u r} : (x == y) = false → MGet x v r → MGet x v ((y, u) :: r)
theorem MGet.eq {x : Str} {v : Value} {l : List (Str × Value)} (h : MGet x v l) : mp l x = some v := by
  induction h with
  | head => simp [mp]
  | tail h r ih =>
    simp only [mp, List.lookup, h] at ih ⊢
    exact ih
section
variable {M : Model} {A : Around} {E : Value → Shared → Prop} {s : Shared} {name : Str} {scope : Scope} {L a : Addr} {cd : Value} {h₀ : Heap} {l : List (Str × Value)}
theorem ldM {x : Str} {pos : Pos} {v : Value} {Q : Value → Shared → Prop} (F : Fr h₀ L s.heap (mp l)) (hv : MGet x v l) (h : Q v s)
    (hk : scope.kind = .function) (hl : (envOf name scope L a cd).kindOf x = some .local) (hd : (x == ("__debug__" : Str)) = false) :
    wpAny M A (eval (.Name x pos) (envOf name scope L a cd)) Q E s := ld F hv.eq h hk hl hd
theorem ldMq {x : Str} {pos : Pos} {v : Value} {Q : Value → Shared → Prop} (F : Fr h₀ L s.heap (mp l)) (hv : MGet x v l) (h : Q v s) (k : okL (envOf name scope L a cd) x = true) :
    wpAny M A (eval (.Name x pos) (envOf name scope L a cd)) Q E s := ldM F hv h (okS.kind (okL.toS k)) (okS.loc (okL.toS k)) (okL.dbg k)
end
section
variable {prog : Program} {w : World} {A : Around} {E : Value → Shared → Prop} {hh : Heap} {g : Array GenState} {dr : Drawn} {tk₀ : Nat} {os : OsState} {a b n : Int} {t u : Tok} {Q : Value → Shared → Prop}
theorem shl8 (ha : 0 ≤ a) (hb : a < 65536) (h : Q (.int (a * 256) tk₀) ⟨hh, g, dr, tk₀ + 1, os⟩) : wpAny (model prog w) A (binaryOp .LShift (.int a t) (.int 8 u)) Q E ⟨hh, g, dr, tk₀, os⟩ := shl_lit (by decide) (by decide) (by decide) ha hb h
theorem shl6 (ha : 0 ≤ a) (hb : a < 65536) (h : Q (.int (a * 64) tk₀) ⟨hh, g, dr, tk₀ + 1, os⟩) : wpAny (model prog w) A (binaryOp .LShift (.int a t) (.int 6 u)) Q E ⟨hh, g, dr, tk₀, os⟩ := shl_lit (by decide) (by decide) (by decide) ha hb h
theorem shl4 (ha : 0 ≤ a) (hb : a < 65536) (h : Q (.int (a * 16) tk₀) ⟨hh, g, dr, tk₀ + 1, os⟩) : wpAny (model prog w) A (binaryOp .LShift (.int a t) (.int 4 u)) Q E ⟨hh, g, dr, tk₀, os⟩ := shl_lit (by decide) (by decide) (by decide) ha hb h
theorem shl2 (ha : 0 ≤ a) (hb : a < 65536) (h : Q (.int (a * 4) tk₀) ⟨hh, g, dr, tk₀ + 1, os⟩) : wpAny (model prog w) A (binaryOp .LShift (.int a t) (.int 2 u)) Q E ⟨hh, g, dr, tk₀, os⟩ := shl_lit (by decide) (by decide) (by decide) ha hb h
theorem shr2 (hn : n = 2) (h : Q (.int (a / 4) tk₀) ⟨hh, g, dr, tk₀ + 1, os⟩) : wpAny (model prog w) A (binaryOp .RShift (.int a t) (.int n u)) Q E ⟨hh, g, dr, tk₀, os⟩ := by subst hn; exact shr_lit (by decide) (by decide) (by decide) h
theorem shr4 (hn : n = 4) (h : Q (.int (a / 16) tk₀) ⟨hh, g, dr, tk₀ + 1, os⟩) : wpAny (model prog w) A (binaryOp .RShift (.int a t) (.int n u)) Q E ⟨hh, g, dr, tk₀, os⟩ := by subst hn; exact shr_lit (by decide) (by decide) (by decide) h
theorem shr6 (hn : n = 6) (h : Q (.int (a / 64) tk₀) ⟨hh, g, dr, tk₀ + 1, os⟩) : wpAny (model prog w) A (binaryOp .RShift (.int a t) (.int n u)) Q E ⟨hh, g, dr, tk₀, os⟩ := by subst hn; exact shr_lit (by decide) (by decide) (by decide) h
theorem shr0 (hn : n = 0) (h : Q (.int (a / 1) tk₀) ⟨hh, g, dr, tk₀ + 1, os⟩) : wpAny (model prog w) A (binaryOp .RShift (.int a t) (.int n u)) Q E ⟨hh, g, dr, tk₀, os⟩ := by subst hn; exact shr_lit (by decide) (by decide) (by decide) h
theorem bor8 (ha : 0 ≤ a) (hb : 0 ≤ b) (hj : b < 256) (h : Q (.int (a * 256 + b) tk₀) ⟨hh, g, dr, tk₀ + 1, os⟩) : wpAny (model prog w) A (binaryOp .BitOr (.int (a * 256) t) (.int b u)) Q E ⟨hh, g, dr, tk₀, os⟩ := bor_lit 8 (by decide) ha hb hj h
theorem bor6 (ha : 0 ≤ a) (hb : 0 ≤ b) (hj : b < 64) (h : Q (.int (a * 64 + b) tk₀) ⟨hh, g, dr, tk₀ + 1, os⟩) : wpAny (model prog w) A (binaryOp .BitOr (.int (a * 64) t) (.int b u)) Q E ⟨hh, g, dr, tk₀, os⟩ := bor_lit 6 (by decide) ha hb hj h
theorem bor4 (ha : 0 ≤ a) (hb : 0 ≤ b) (hj : b < 16) (h : Q (.int (a * 16 + b) tk₀) ⟨hh, g, dr, tk₀ + 1, os⟩) : wpAny (model prog w) A (binaryOp .BitOr (.int (a * 16) t) (.int b u)) Q E ⟨hh, g, dr, tk₀, os⟩ := bor_lit 4 (by decide) ha hb hj h
theorem bor2 (ha : 0 ≤ a) (hb : 0 ≤ b) (hj : b < 4) (h : Q (.int (a * 4 + b) tk₀) ⟨hh, g, dr, tk₀ + 1, os⟩) : wpAny (model prog w) A (binaryOp .BitOr (.int (a * 4) t) (.int b u)) Q E ⟨hh, g, dr, tk₀, os⟩ := bor_lit 2 (by decide) ha hb hj h
theorem band16 (h : Q (.int (a % 65536) tk₀) ⟨hh, g, dr, tk₀ + 1, os⟩) : wpAny (model prog w) A (binaryOp .BitAnd (.int a t) (.int 65535 u)) Q E ⟨hh, g, dr, tk₀, os⟩ := band_lit (bitAnd_m16 _) h
theorem band6 (h : Q (.int (a % 64) tk₀) ⟨hh, g, dr, tk₀ + 1, os⟩) : wpAny (model prog w) A (binaryOp .BitAnd (.int a t) (.int 63 u)) Q E ⟨hh, g, dr, tk₀, os⟩ := band_lit (bitAnd_m6 _) h
theorem band4 (h : Q (.int (a % 16) tk₀) ⟨hh, g, dr, tk₀ + 1, os⟩) : wpAny (model prog w) A (binaryOp .BitAnd (.int a t) (.int 15 u)) Q E ⟨hh, g, dr, tk₀, os⟩ := band_lit (bitAnd_m4 _) h
theorem band2 (h : Q (.int (a % 4) tk₀) ⟨hh, g, dr, tk₀ + 1, os⟩) : wpAny (model prog w) A (binaryOp .BitAnd (.int a t) (.int 3 u)) Q E ⟨hh, g, dr, tk₀, os⟩ := band_lit (bitAnd_m2 _) h
end
end Mine
end
section
open PySem PySem.W PySem.Calls PyProof.Rows
namespace Mine
noncomputable abbrev topA (dp un : Nat) (gd : Option (List Code)) (outer : List Env) : Around := { handled := none, depth := dp, frames := some outer, guards := gd, units := un }

noncomputable def PureFn (w : World) (loose : List Str) (mean : ExcName → Option Value) (mg mb : Str → Option Value) (k : Nat) (f : Addr) (pos : List Value) (kw : List (Str × Value)) (pre : Heap → Prop) (ok : Value → Heap → Prop) : Prop :=
  ∀ (dp un : Nat) (gd : Option (List Code)) (outer : List Env) (base : Heap) (s : Shared) (Q E : Value → Shared → Prop),
    Below (topA dp un gd outer) base outer s.heap → (hd.heap_39 w.params).In s.heap → Top hd.view_39 loose mean mg mb s.heap →
    dp + k < recursionLimit → un + 8 * k < cLine → pre s.heap →
    (∀ (v : Value) (h' : Heap) (tk' : Nat), ok v h' → (∀ b o, s.heap.get? b = some o → h'.get? b = some o) → Q v { s with heap := h', toks := tk' }) →
    wpAny (model PySem.Challenge.rw_oy0258_01.row.prog w) (topA dp un gd outer) (call (.ref f) pos kw) Q E s

theorem keepFr {h₀ h h' : Heap} {L : Addr} {m : Str → Option Value} (F : Fr h₀ L h m) (k : ∀ b o, h.get? b = some o → h'.get? b = some o) : Fr h₀ L h' m :=
  ⟨F.ns.keeps k, fun b o e => k b o (F.keep b o e), F.above⟩
theorem keepLed {h₀ h h' : Heap} {L : Addr} {news : List (Addr × Obj)} (N : Led h₀ L h news) (k : ∀ b o, h.get? b = some o → h'.get? b = some o) : Led h₀ L h' news :=
  ⟨fun p hp => ⟨k _ _ (N.N p hp).1, (N.N p hp).2⟩, N.nd⟩

theorem PureFn.use {w : World} {loose : List Str} {mean : ExcName → Option Value} {mg mb : Str → Option Value} {k : Nat} {f : Addr} {pos : List Value} {kw : List (Str × Value)} {pre : Heap → Prop} {ok : Value → Heap → Prop}
    (C : PureFn w loose mean mg mb k f pos kw pre ok) {dp un : Nat} {gd : Option (List Code)} {outer : List Env} {base h₀ : Heap} {L a : Addr} {m : Str → Option Value} {news : List (Addr × Obj)} {hh : Heap} {g : Array GenState} {dr : Drawn} {tk₀ : Nat} {os : OsState} {Q E : Value → Shared → Prop} {cn : Str} {cs : Scope} {ccd : Value}
    (B : Below (topA dp un gd outer) base outer h₀) (F : Fr h₀ L hh m) (X : (hd.heap_39 w.params).In h₀) (T : Top hd.view_39 loose mean mg mb h₀) (N : Led h₀ L hh news)
    (hd : dp + (k + 1) < recursionLimit) (hu : un + 8 * (k + 1) < cLine) (hp : pre hh)
    (h : ∀ (v : Value) (h' : Heap) (tk' : Nat), ok v h' → Fr h₀ L h' m → Led h₀ L h' news → (∀ b o, hh.get? b = some o → h'.get? b = some o) → Q v ⟨h', g, dr, tk', os⟩)
    (hck : cs.kind = .function := by rfl) :
    wpAny (model PySem.Challenge.rw_oy0258_01.row.prog w) ((topA dp un gd outer).deeper (envOf cn cs L a ccd)) (call (.ref f) pos kw) Q E ⟨hh, g, dr, tk₀, os⟩ :=
  C (dp + 1) (un + 3) gd (envOf cn cs L a ccd :: outer) base ⟨hh, g, dr, tk₀, os⟩ Q E (B.push F hck) (X.keeps F.keep) (T.keeps F.keep) (by omega) (by omega) hp
    fun v h' tk' o kp => h v h' tk' o (keepFr F kp) (keepLed N kp) kp
end Mine
end
section
open PySem PySem.W PySem.Calls PyProof.Rows
namespace Mine
theorem fc_mkt (w : World) : findCls (hd.heap_39 w.params) (.type "bytes") (.type "type") (PySem.Str.ofString "maketrans") = some (.val (.builtin "bytes.maketrans")) := by kernel_rfl
theorem hi_mkt : handedIn (.builtin "bytes.maketrans") = true := by kernel_rfl
section
variable {prog : Program} {w : World} {A : Around} {E : Value → Shared → Prop} {h₀ : Heap} {L : Addr} {m : Str → Option Value} {hh : Heap} {g : Array GenState} {dr : Drawn} {tk₀ : Nat} {os : OsState}
theorem getm_mkt {pl : Sem Bool} {Q : Value × List Value → Shared → Prop} (F : Fr h₀ L hh m) (X₀ : (hd.heap_39 w.params).In h₀)
    (h : ∀ tk', Q (.builtin "bytes.maketrans", []) ⟨hh, g, dr, tk', os⟩) :
    wpAny (model prog w) A (getMethod (.type "bytes") (PySem.Str.ofString "maketrans") pl) Q E ⟨hh, g, dr, tk₀, os⟩ := by
  have X := X₀.keeps F.keep
  have hstub : opaqueClassAbove (.type "bytes") = pure none := by unfold opaqueClassAbove; dsimp only; rw [show Manifest.isStub "bytes" = false by decide +kernel]; rfl
  have ht : typeOf (.type "bytes") = pure (.type "type") := by first | rfl | kernel_rfl
  have L0 : Looks (model prog w) hh (typeOf (.type "bytes")) (.type "type") := Looks.of_pure ht
  have hg : findIn (hd.heap_39 w.params) (.type "type") "__getattribute__" = some (some (.builtin "type.__getattribute__")) := type_tga
  unfold getMethod specialOf
  refine wpAny_bind (wpAny_bind (L0.here ((looks_findIn X hg).here ?_)))
  dsimp only
  rw [if_pos canon_tga]
  refine wpAny_bind (wpAny_mono (Q := fun v => Q (v, [])) (E := E) ?_ (fun _ _ z => wpAny_pure z) fun _ _ z => z)
  have LO : Looks (model prog w) hh (opaqueClassAbove (.type "bytes")) none := Looks.of_pure hstub
  refine cls_open X LO L0 hg (looks_hook X (r := none) (by rfl)) (by show subIn _ _ _ = _; rfl) (fc_mkt w) ?_
  exact wpAny_pure (handed_on hi_mkt (h _))
end

noncomputable def tblOf (f o : Array UInt8) : Array UInt8 := (f.toList.zip o.toList).foldl (fun t (f, x) => t.setIfInBounds f.toNat x) ((Array.range 256).map (·.toUInt8))
theorem entry_mkt : entryFor table "bytes.maketrans" = some Builtin.«bytes.maketrans» := entryFor_of_tree (by kernel_rfl)
theorem plain_mkt : plainId "bytes.maketrans" = true := by decide +kernel
theorem chk_mkt (a b : Value) : checkBuiltinCall "bytes.maketrans" ⟨[a, b], []⟩ = pure () := by kernel_rfl
theorem run_mkt (f o : Array UInt8) (t u : Tok) (h : f.size = o.size) : Builtin.«bytes.maketrans» ⟨[.bytes f t, .bytes o u], []⟩ = (mkBytes (tblOf f o) >>= fun v => ret v) := by
  show Builtin.Bytes.maketransM .bytes _ = _
  unfold Builtin.Bytes.maketransM
  show (Builtin.Bytes.bytesLike _ (.bytes f t) >>= fun frm => Builtin.Bytes.bytesLike _ (.bytes o u) >>= fun to => _) = _
  rw [KBd.like_eq, KBd.like_eq]
  simp only [pure_bind, h]
  rw [show (o.size != o.size) = false by simp]
  rfl
section
variable {prog : Program} {w : World} {A : Around} {E : Value → Shared → Prop} {hh : Heap} {g : Array GenState} {dr : Drawn} {tk₀ : Nat} {os : OsState} {Q : Value → Shared → Prop}
theorem call_chk {s : Shared} {id : String} {b : Builtin} {args : List Value} (hq : checkBuiltinCall id ⟨args, []⟩ = pure ()) (hp : plainId id = true) (hb : entryFor table id = some b)
    (hc : wpAny (model prog w) A.in1 (b ⟨args, []⟩) (fun fin s' => ∃ v, fin = .done (.ret v) ∧ Q v s') E s) : wpAny (model prog w) A (call (.builtin id) args) Q E s := by
  refine wpAny_call (codeAny_call_builtin hp hb ?_)
  rw [hq]
  exact wpAny_pure (wpAny_mono hc (fun fin s' h' => by obtain ⟨v, rfl, hv⟩ := h'; exact hv) fun _ _ h' => h')
theorem maketransM' {f o : Array UInt8} {t u : Tok} (h1 : f.size = o.size) (h : ∀ t' tk', Q (.bytes (tblOf f o) t') ⟨hh, g, dr, tk', os⟩) :
    wpAny (model prog w) A (call (.builtin "bytes.maketrans") [.bytes f t, .bytes o u]) Q E ⟨hh, g, dr, tk₀, os⟩ := by
  refine call_chk (chk_mkt _ _) plain_mkt entry_mkt ?_
  rw [run_mkt f o t u h1]
  refine wpAny_bind ?_
  unfold mkBytes
  have hs : (tblOf f o).size = 256 := by
    unfold tblOf
    have : ∀ (l : List (UInt8 × UInt8)) (a : Array UInt8), (l.foldl (fun t (p : UInt8 × UInt8) => t.setIfInBounds p.1.toNat p.2) a).size = a.size := by
      intro l
      induction l with
      | nil => intro a; rfl
      | cons p r ih => intro a; rw [List.foldl_cons, ih]; simp
    rw [this]; simp
  rw [if_neg (by rw [hs]; decide)]
  exact wpAny_bind (wpAny_fresh (wpAny_pure (wpAny_pure ⟨_, rfl, h _ _⟩)))
end
end Mine
end
section
open PySem PySem.W PySem.Calls PyProof.Rows
namespace Mine
theorem slot_tr : Slot "bytes" "translate" "bytes.translate" :=
  .of (owner := "bytes") (n := "translate") (by rw [typeLookup_type, builtinLookup_eq_fast]; kernel_rfl) (by decide +kernel) (by decide +kernel) (by decide +kernel)
    (by first | exact .inl (by decide +kernel) | exact .inr (by decide +kernel)) (by rw [isSubtype_type]; kernel_rfl)
theorem type_tr : typeOf (.builtin "bytes.translate") = pure (.type "method_descriptor") := by show builtinType _ = _; rw [builtinType_eq_fast]; kernel_rfl
theorem entry_tr : entryFor table "bytes.translate" = some Builtin.«bytes.translate» := entryFor_of_tree (by kernel_rfl)
theorem args_tr (a b : Value) : argsOk "bytes.translate" ⟨[a, b], []⟩ := by unfold argsOk; kernel_rfl
noncomputable def trOut (b tb : Array UInt8) : Array UInt8 := (b.filter (!(#[] : Array UInt8).contains ·)).map fun c => tb.getD c.toNat c
theorem run_tr (b tb : Array UInt8) (t u : Tok) (h : tb.size = 256) : Builtin.«bytes.translate» ⟨[.bytes b t, .bytes tb u], []⟩ =
    (if trOut b tb == b then (rule "bytes.translate.unchanged" >>= fun _ => ret (.bytes b t)) else (mkBytes (trOut b tb) >>= fun v => ret v)) := by
  show Builtin.Bytes.translateM .bytes _ = _
  unfold Builtin.Bytes.translateM
  dsimp only
  rw [if_neg (by simp), if_neg (by simp), if_neg (by simp), KBd.like_eq]
  simp only [pure_bind]
  rw [h, if_neg (by decide)]
  rfl
theorem trOut_eq (b tb : Array UInt8) : trOut b tb = b.map fun c => tb.getD c.toNat c := by
  unfold trOut
  have : b.filter (!(#[] : Array UInt8).contains ·) = b := by
    apply Array.filter_eq_self.mpr
    intro a _
    simp
  rw [this]
section
variable {prog : Program} {w : World} {A : Around} {E : Value → Shared → Prop} {hh : Heap} {g : Array GenState} {dr : Drawn} {tk₀ : Nat} {os : OsState}
theorem getm_tr {pl : Sem Bool} {b : Array UInt8} {t : Tok} {Q : Value × List Value → Shared → Prop} (h : Q (.builtin "bytes.translate", [.bytes b t]) ⟨hh, g, dr, tk₀, os⟩) :
    wpAny (model prog w) A (getMethod (.bytes b t) (PySem.Str.ofString "translate") pl) Q E ⟨hh, g, dr, tk₀, os⟩ := by
  with_reducible exact KBd.method_of (.bytes b t) (typeIs_bytes _ _ _) slot_tr type_tr KBd.noRef h
theorem translateMM {Q : Value → Shared → Prop} {b tb : Array UInt8} {t u : Tok} (ψ : Int → Int) (h256 : tb.size = 256) (hsz : b.size ≤ 1000)
    (hψ : ∀ x : UInt8, ((tb.getD x.toNat x).toNat : Int) = ψ (x.toNat : Int))
    (h : ∀ c t' tk', KBw.bInts c = (KBw.bInts b).map ψ → Q (.bytes c t') ⟨hh, g, dr, tk', os⟩) :
    wpAny (model prog w) A (call (.builtin "bytes.translate") [.bytes b t, .bytes tb u]) Q E ⟨hh, g, dr, tk₀, os⟩ := by
  have e : KBw.bInts (trOut b tb) = (KBw.bInts b).map ψ := by
    rw [trOut_eq]
    unfold KBw.bInts
    rw [Array.toList_map, List.map_map, List.map_map]
    apply List.map_congr_left
    intro x _
    exact hψ x
  refine wpAny_call_entry slot_tr (typeIs_bytes _ _ _) entry_tr ?_ (args_tr _ _)
  rw [run_tr b tb t u h256]
  refine wpAny_ite ?_
  split
  · rename_i he
    have he' : trOut b tb = b := by simpa using he
    refine wpAny_bind (wpAny_rule (wpAny_pure ⟨_, rfl, h _ _ _ ?_⟩))
    rw [← e, he']
  · refine wpAny_bind ?_
    unfold mkBytes
    have hs : (trOut b tb).size = b.size := by rw [trOut_eq]; simp
    rw [if_neg (by rw [hs]; have : sizeLine = 16777216 := rfl; lia)]
    exact wpAny_bind (wpAny_fresh (wpAny_pure (wpAny_pure ⟨_, rfl, h _ _ _ e⟩)))
end
theorem tblOf_size (f o : Array UInt8) : (tblOf f o).size = 256 := by
  unfold tblOf
  have : ∀ (l : List (UInt8 × UInt8)) (a : Array UInt8), (l.foldl (fun t (p : UInt8 × UInt8) => t.setIfInBounds p.1.toNat p.2) a).size = a.size := by
    intro l
    induction l with
    | nil => intro a; rfl
    | cons p r ih => intro a; rw [List.foldl_cons, ih]; simp
  rw [this]; simp
section
variable {prog : Program} {w : World} {A : Around} {E : Value → Shared → Prop} {hh : Heap} {g : Array GenState} {dr : Drawn} {tk₀ : Nat} {os : OsState}
theorem translateML {Q : Value → Shared → Prop} {b f o : Array UInt8} {t u : Tok} {ks : List Int} {ψ : Int → Int} (hψ : ∀ x : UInt8, (((tblOf f o).getD x.toNat x).toNat : Int) = ψ (x.toNat : Int)) (hb : KBw.bInts b = ks) (hl : ks.length ≤ 1000)
    (h : ∀ c t' tk', KBw.bInts c = ks.map ψ → Q (.bytes c t') ⟨hh, g, dr, tk', os⟩) :
    wpAny (model prog w) A (call (.builtin "bytes.translate") [.bytes b t, .bytes (tblOf f o) u]) Q E ⟨hh, g, dr, tk₀, os⟩ :=
  translateMM ψ (tblOf_size f o) (by rw [← KBw.ints_length, hb]; exact hl) hψ (by rw [hb]; exact h)
end
noncomputable def sw (a b c d : Int) (x : Int) : Int := if x = a then c else if x = b then d else x
theorem base_at (x : UInt8) : ((Array.range 256).map (·.toUInt8))[x.toNat]? = some x := by
  rw [Array.getElem?_map, Array.getElem?_eq_getElem (by rw [Array.size_range]; exact x.toNat_lt), Array.getElem_range]
  exact congrArg some UInt8.ofNat_toNat
theorem tbl_sw (a b c d x : UInt8) (h : a.toNat ≠ b.toNat) : (((tblOf #[a, b] #[c, d]).getD x.toNat x).toNat : Int) = sw a.toNat b.toNat c.toNat d.toNat (x.toNat : Int) := by
  have hx := x.toNat_lt
  have ha := a.toNat_lt
  have hb := b.toNat_lt
  show (((((((Array.range 256).map (·.toUInt8)).setIfInBounds a.toNat c).setIfInBounds b.toNat d).getD x.toNat x).toNat : Int)) = _
  rw [Array.getD_eq_getD_getElem?, Array.getElem?_setIfInBounds, Array.getElem?_setIfInBounds, base_at]
  simp only [Array.size_setIfInBounds, Array.size_map, Array.size_range]
  unfold sw
  by_cases e1 : b.toNat = x.toNat
  · rw [if_pos e1, if_pos (by omega), if_neg (by omega), if_pos (by omega)]; rfl
  · rw [if_neg e1]
    by_cases e2 : a.toNat = x.toNat
    · rw [if_pos e2, if_pos (by omega), if_pos (by omega)]; rfl
    · rw [if_neg e2, if_neg (by omega), if_neg (by omega)]; rfl
theorem tbl1 : ∀ x : UInt8, (((tblOf #[43, 47] #[46, 10]).getD x.toNat x).toNat : Int) = sw 43 47 46 10 (x.toNat : Int) := fun x => tbl_sw 43 47 46 10 x (by decide)
theorem tbl2 : ∀ x : UInt8, (((tblOf #[43, 47] #[10, 46]).getD x.toNat x).toNat : Int) = sw 43 47 10 46 (x.toNat : Int) := fun x => tbl_sw 43 47 10 46 x (by decide)
theorem tbl3 : ∀ x : UInt8, (((tblOf #[46, 10] #[43, 47]).getD x.toNat x).toNat : Int) = sw 46 10 43 47 (x.toNat : Int) := fun x => tbl_sw 46 10 43 47 x (by decide)
theorem tbl4 : ∀ x : UInt8, (((tblOf #[10, 46] #[43, 47]).getD x.toNat x).toNat : Int) = sw 10 46 43 47 (x.toNat : Int) := fun x => tbl_sw 10 46 43 47 x (by decide)
end Mine
end
section
open PySem
namespace Mine.SR
open PySem.Sre
noncomputable def code0 : Array Nat := #[14, 4, 0, 1, 1, 6, 1, 16, 46, 1]
noncomputable def mk0 (t : Array Nat) (lim s : Nat) (f : Bool) (seen : Seen) : M :=
  { code := code0, text := t, lim := lim, start := s, lastStart := lim, pc := 5, pos := s, handed := s, outermost := f, marks := #[],
    frames := [{ wait := .nextStart, pc := 5, pos := s, outermost := f }], weight := 1, seen := seen }
noncomputable def atB (t : Array Nat) (s : Nat) : Bool := s == 0 || t.getD (s - 1) 0 == 10
theorem st_at (t : Array Nat) (lim s : Nat) (f : Bool) (seen : Seen) : (mk0 t lim s f seen).step =
    (if atB t s = true then { mk0 t lim s f seen with pc := 7, seen := (seen.add 6).add 44 } else { mk0 t lim s f seen with seen := (seen.add 6).add 44, answer := some false }) := rfl
theorem st_lit (t : Array Nat) (lim s : Nat) (f : Bool) (seen : Seen) (h : s < lim) : ({ mk0 t lim s f seen with pc := 7 } : M).step =
    (if (t.getD s 0 == 46) = true then { mk0 t lim s f seen with pc := 9, pos := s + 1, seen := seen.add 16 } else { mk0 t lim s f seen with pc := 7, seen := seen.add 16, answer := some false }) := by
  have e : ({ mk0 t lim s f seen with pc := 7 } : M).step = (if s ≥ lim then { mk0 t lim s f seen with pc := 7, seen := seen.add 16, answer := some false } else
     match (Except.ok (t.getD s 0 == 46, seen.add 16) : Except String (Bool × Seen)) with
     | .error why => ({ mk0 t lim s f seen with pc := 7, seen := seen.add 16} : M).stick why
     | .ok (false, seen) => { mk0 t lim s f seen with pc := 7, seen := seen, answer := some false }
     | .ok (true, seen) => { mk0 t lim s f seen with pc := 9, pos := s + 1, seen := seen }) := rfl
  rw [e, if_neg (by omega)]
  cases (t.getD s 0 == 46) <;> rfl
theorem st_lit' (t : Array Nat) (lim s : Nat) (f : Bool) (seen : Seen) (h : ¬ s < lim) : ({ mk0 t lim s f seen with pc := 7 } : M).step =
    { mk0 t lim s f seen with pc := 7, seen := seen.add 16, answer := some false } := by
  have e : ({ mk0 t lim s f seen with pc := 7 } : M).step = (if s ≥ lim then { mk0 t lim s f seen with pc := 7, seen := seen.add 16, answer := some false } else
     match (Except.ok (t.getD s 0 == 46, seen.add 16) : Except String (Bool × Seen)) with
     | .error why => ({ mk0 t lim s f seen with pc := 7, seen := seen.add 16} : M).stick why
     | .ok (false, seen) => { mk0 t lim s f seen with pc := 7, seen := seen, answer := some false }
     | .ok (true, seen) => { mk0 t lim s f seen with pc := 9, pos := s + 1, seen := seen }) := rfl
  rw [e, if_pos (by omega)]
theorem st_ok (t : Array Nat) (lim s : Nat) (f : Bool) (seen : Seen) : ({ mk0 t lim s f seen with pc := 9, pos := s + 1 } : M).step =
    { mk0 t lim s f seen with pc := 9, pos := s + 1, handed := s + 1, seen := seen.add 1, answer := some true } := by
  have e : ({ mk0 t lim s f seen with pc := 9, pos := s + 1 } : M).step = (if (f && ((false && s + 1 != lim) || (false && s + 1 == s))) = true then { mk0 t lim s f seen with pc := 9, pos := s + 1, seen := seen.add 1, answer := some false } else { mk0 t lim s f seen with pc := 9, pos := s + 1, handed := s + 1, seen := seen.add 1, answer := some true }) := rfl
  rw [e, if_neg (by simp)]
theorem st_no (t : Array Nat) (lim s pc : Nat) (f : Bool) (seen : Seen) : ({ mk0 t lim s f seen with pc := pc, answer := some false } : M).step =
    (if s < lim then mk0 t lim (s + 1) false seen else { mk0 t lim s f seen with frames := [], weight := 0, answer := some false }) := by
  have e : ({ mk0 t lim s f seen with pc := pc, answer := some false } : M).step = (if s < lim then (if 0 + 1 + 0 > 16777216 then (({mk0 t lim s f seen with frames := [], weight := 0, start := s+1, pos := s+1} : M).stick "frames:memory") else mk0 t lim (s + 1) false seen) else { mk0 t lim s f seen with frames := [], weight := 0, answer := some false }) := rfl
  rw [e, if_neg (by omega : ¬ 0 + 1 + 0 > 16777216)]
noncomputable def Ends (m : M) (k : Nat) (r : Option Nat) : Prop :=
  ∃ n, n ≤ k ∧ ∃ m' : M, m.runFor n = m' ∧ (match r with | none => m'.outcome = some .failed | some d => m'.outcome = some .matched ∧ m'.start = d ∧ m'.handed = d + 1)
theorem Ends.step {m m' : M} {k : Nat} {r : Option Nat} (h0 : m.outcome.isSome = false) (e : m.step = m') (h : Ends m' k r) : Ends m (k + 1) r := by
  obtain ⟨n, hn, x, hx, hr⟩ := h
  refine ⟨n + 1, by omega, x, ?_, hr⟩
  show (if m.outcome.isSome then m else M.runFor n m.step) = x
  rw [if_neg (by simp [h0]), e, hx]
theorem Ends.mono {m : M} {k k' : Nat} {r : Option Nat} (h : Ends m k r) (hk : k ≤ k') : Ends m k' r := by
  obtain ⟨n, hn, x, hx, hr⟩ := h
  exact ⟨n, by omega, x, hx, hr⟩
noncomputable def nextDot (t : Array Nat) (lim : Nat) : Nat → Nat → Option Nat
  | 0, _ => none
  | k + 1, s => if (atB t s && t.getD s 0 == 46) = true then some s else nextDot t lim k (s + 1)
theorem ends_hit (t : Array Nat) (lim s : Nat) (f : Bool) (seen : Seen) (h : s < lim) (ha : atB t s = true) (hc : (t.getD s 0 == 46) = true) : Ends (mk0 t lim s f seen) 5 (some s) := by
  refine Ends.step rfl ((st_at t lim s f seen).trans (if_pos ha)) ?_
  refine Ends.step rfl ((st_lit t lim s f ((seen.add 6).add 44) h).trans (if_pos hc)) ?_
  refine Ends.step rfl (st_ok t lim s f (((seen.add 6).add 44).add 16)) ?_
  refine Ends.step rfl rfl ?_
  refine Ends.step rfl rfl ?_
  exact ⟨0, Nat.le_refl _, _, rfl, rfl, rfl, rfl⟩
theorem ends_miss (t : Array Nat) (lim s : Nat) (f : Bool) (seen : Seen) (h : s < lim) (ha : (atB t s && t.getD s 0 == 46) = false) {k : Nat} {r : Option Nat}
    (H : ∀ seen', Ends (mk0 t lim (s + 1) false seen') k r) : Ends (mk0 t lim s f seen) (k + 3) r := by
  cases hb : atB t s with
  | false =>
    refine Ends.mono (k := k + 2) ?_ (by omega)
    refine Ends.step rfl ((st_at t lim s f seen).trans (if_neg (by simp [hb]))) ?_
    exact Ends.step rfl ((st_no t lim s 5 f ((seen.add 6).add 44)).trans (if_pos h)) (H _)
  | true =>
    rw [hb] at ha
    have hc : (t.getD s 0 == 46) = false := by simpa using ha
    refine Ends.step rfl ((st_at t lim s f seen).trans (if_pos hb)) ?_
    refine Ends.step rfl ((st_lit t lim s f ((seen.add 6).add 44) h).trans (if_neg (by rw [hc]; decide))) ?_
    exact Ends.step rfl ((st_no t lim s 7 f (((seen.add 6).add 44).add 16)).trans (if_pos h)) (H _)
theorem ends_last (t : Array Nat) (lim : Nat) (f : Bool) (seen : Seen) : Ends (mk0 t lim lim f seen) 4 none := by
  cases hb : atB t lim with
  | false =>
    refine Ends.mono (k := 3) ?_ (by omega)
    refine Ends.step rfl ((st_at t lim lim f seen).trans (if_neg (by simp [hb]))) ?_
    refine Ends.step rfl ((st_no t lim lim 5 f ((seen.add 6).add 44)).trans (if_neg (by omega))) ?_
    refine Ends.step rfl rfl ?_
    exact ⟨0, Nat.le_refl _, _, rfl, rfl⟩
  | true =>
    refine Ends.step rfl ((st_at t lim lim f seen).trans (if_pos hb)) ?_
    refine Ends.step rfl (st_lit' t lim lim f ((seen.add 6).add 44) (by omega)) ?_
    refine Ends.step rfl ((st_no t lim lim 7 f (((seen.add 6).add 44).add 16)).trans (if_neg (by omega))) ?_
    refine Ends.step rfl rfl ?_
    exact ⟨0, Nat.le_refl _, _, rfl, rfl⟩
theorem ends_all (t : Array Nat) (lim : Nat) : ∀ (k s : Nat) (f : Bool) (seen : Seen), s + k = lim → Ends (mk0 t lim s f seen) (3 * k + 5) (nextDot t lim k s)
  | 0, s, f, seen, h => by
    obtain rfl : s = lim := by omega
    exact (ends_last t s f seen).mono (by omega)
  | k + 1, s, f, seen, h => by
    unfold nextDot
    split
    · rename_i hh
      have hh' := Bool.and_eq_true_iff.mp hh
      exact (ends_hit t lim s f seen (by omega) hh'.1 hh'.2).mono (by omega)
    · rename_i hh
      refine (ends_miss t lim s f seen (by omega) (by simpa using hh) (k := 3 * k + 5) (fun seen' => ends_all t lim k (s + 1) false seen' (by omega))).mono (by omega)
theorem search_eq (t : Array Nat) (s lim : Nat) (h : s < lim) : forSearch code0 t 0 s lim false = mk0 t lim s true (({} : Seen).add 14) := by
  have e : forSearch code0 t 0 s lim false = (if (decide (s > lim) || decide (lim - s < 1)) = true then ({ code := code0, text := t, lim := lim, start := s, pc := 5, pos := s, handed := s, marks := #[], seen := ({} : Seen).add 14 } : M).say false else
    (if 0 + 1 + 0 > 16777216 then ({ code := code0, text := t, lim := lim, start := s, pc := 5, pos := s, handed := s, marks := #[], seen := ({} : Seen).add 14, lastStart := lim } : M).stick "frames:memory" else mk0 t lim s true (({} : Seen).add 14))) := by
    unfold forSearch
    rfl
  rw [e, if_neg (by simp; omega), if_neg (by omega)]
theorem search_end (t : Array Nat) (lim : Nat) : Ends (forSearch code0 t 0 lim lim false) 1 none := by
  have e : forSearch code0 t 0 lim lim false = (if (decide (lim > lim) || decide (lim - lim < 1)) = true then ({ code := code0, text := t, lim := lim, start := lim, pc := 5, pos := lim, handed := lim, marks := #[], seen := ({} : Seen).add 14 } : M).say false else
    (if 0 + 1 + 0 > 16777216 then ({ code := code0, text := t, lim := lim, start := lim, pc := 5, pos := lim, handed := lim, marks := #[], seen := ({} : Seen).add 14, lastStart := lim } : M).stick "frames:memory" else mk0 t lim lim true (({} : Seen).add 14))) := by
    unfold forSearch
    rfl
  rw [e, if_pos (by simp)]
  refine Ends.step rfl rfl ?_
  exact ⟨0, Nat.le_refl _, _, rfl, rfl⟩
theorem search_all (t : Array Nat) (lim k s : Nat) (h : s + k = lim) : Ends (forSearch code0 t 0 s lim false) (3 * k + 5) (nextDot t lim k s) := by
  cases k with
  | zero => obtain rfl : s = lim := by omega
            exact (search_end t s).mono (by omega)
  | succ k => rw [search_eq t s lim (by omega)]; exact ends_all t lim (k + 1) s true _ h
end Mine.SR
end
section
open PySem PySem.W PySem.Calls PyProof.Rows
namespace Mine.SR
open PySem.Sre PySem.Builtin.Re
theorem runFor_done {m : M} (h : m.outcome.isSome = true) : ∀ n, m.runFor n = m
  | 0 => rfl
  | n + 1 => by show (if m.outcome.isSome then m else _) = m; rw [if_pos h]
theorem runFor_add : ∀ (a b : Nat) (m : M), m.runFor (a + b) = (m.runFor a).runFor b
  | 0, b, m => by rw [Nat.zero_add]; rfl
  | a + 1, b, m => by
    rw [Nat.add_right_comm]
    show (if m.outcome.isSome then m else M.runFor (a + b) m.step) = M.runFor b (if m.outcome.isSome then m else M.runFor a m.step)
    split
    · rename_i h; rw [runFor_done h]
    · exact runFor_add a b m.step
section
variable {prog : Program} {w : World} {A : Around} {E : Value → Shared → Prop} {s : Shared}
theorem drive {m' : M} {Q : M → Shared → Prop} (hq : Q m' s) : ∀ (turns n : Nat) (m : M), n < 4 * turns → m.runFor n = m' → m'.outcome.isSome = true → wpAny (model prog w) A (reDrive turns m) Q E s
  | 0, n, m, h, _, _ => by omega
  | turns + 1, n, m, h, e, ho => by
    show wpAny _ _ (if (m.runFor reTurnSteps).outcome.isSome then pure (m.runFor reTurnSteps) else (rule "sre.turn" >>= fun _ => reDrive turns (m.runFor reTurnSteps))) _ _ _
    have h4 : reTurnSteps = 4 := rfl
    rw [h4]
    by_cases hn : n ≤ 4
    · have : m.runFor 4 = m' := by
        rw [show 4 = n + (4 - n) by omega, runFor_add, e, runFor_done ho]
      rw [this, if_pos ho]
      exact wpAny_pure hq
    · by_cases hs : (m.runFor 4).outcome.isSome = true
      · rw [if_pos hs]
        have : m' = m.runFor 4 := by
          rw [← e, show n = 4 + (n - 4) by omega, runFor_add, runFor_done hs]
        rw [← this]
        exact wpAny_pure hq
      · rw [if_neg hs]
        refine wpAny_bind (wpAny_rule ?_)
        refine drive hq turns (n - 4) (m.runFor 4) (by omega) ?_ ho
        rw [← runFor_add, show 4 + (n - 4) = n by omega, e]
theorem forRules {α : Type} {Q : PUnit → Shared → Prop} (f : α → PUnit → Sem (ForInStep PUnit)) (hf : ∀ i (K : ForInStep PUnit → Shared → Prop), K (.yield ⟨⟩) s → wpAny (model prog w) A (f i ⟨⟩) K E s) (hq : Q ⟨⟩ s) :
    ∀ l : List α, wpAny (model prog w) A (forIn l PUnit.unit f) Q E s
  | [] => by rw [List.forIn_nil]; exact wpAny_pure hq
  | a :: l => by
    rw [List.forIn_cons]
    exact wpAny_bind (hf a _ (forRules f hf hq l))
theorem toEnd {m : M} {k : Nat} {r : Option Nat} {Q : Option M → Shared → Prop} (h : Ends m k r) (hk : k < 1000)
    (hn : r = none → Q none s) (hs : ∀ d x, r = some d → x.start = d → x.handed = d + 1 → Q (some x) s) : wpAny (model prog w) A (reRunToEnd m) Q E s := by
  obtain ⟨n, hn', x, hx, hr⟩ := h
  unfold reRunToEnd
  refine wpAny_bind ?_
  refine drive (m' := x) ?_ (2 ^ 64) n m (by omega) hx (by cases r with | none => simp only at hr; rw [hr]; rfl | some d => simp only at hr; rw [hr.1]; rfl)
  refine wpAny_bind (forRules _ ?_ ?_ _)
  · intro i K hK
    split
    · exact wpAny_bind (wpAny_rule (wpAny_pure hK))
    · exact wpAny_pure hK
  · cases r with
    | none => simp only at hr; rw [hr]; exact wpAny_pure (hn rfl)
    | some d => simp only at hr; rw [hr.1]; exact wpAny_pure (hs d x rfl hr.2.1 hr.2.2)
theorem nextFound {t : ReTarget} {st k : Nat} {Q : Option M → Shared → Prop} (hc : t.code = code0) (hg : t.groups = 0) (hl : st + k = t.lim) (hk : k < 300)
    (hn : nextDot t.text t.lim k st = none → Q none s) (hs : ∀ d x, nextDot t.text t.lim k st = some d → x.start = d → x.handed = d + 1 → Q (some x) s) :
    wpAny (model prog w) A (reNextFound t st false) Q E s := by
  unfold reNextFound
  rw [hc, hg]
  exact toEnd (search_all t.text t.lim k st hl) (by omega) hn hs
end
end Mine.SR
end
section
open PySem PySem.W PySem.Calls PyProof.Rows
namespace Mine.SR
open PySem.Builtin PySem.Builtin.Re
theorem take_eq (id : String) (b : Array UInt8) (t : Tok) (fl : Int) (hf : (fl == Bytes.fullReadOnly) = false) : Bytes.takeBufferQuiet? id (.bytes b t) fl = pure (some (b, none)) := by
  unfold Bytes.takeBufferQuiet? Bytes.takeBuffer?
  rw [KBy.special_eq KBy.look_buffer, KBy.own_buffer]
  rw [pure_bind, hf, KBy.buffer_eq]
  rfl
noncomputable def asV (p : Array UInt8 × Tok) : Value := .bytes p.1 p.2
section
variable {prog : Program} {w : World} {A : Around} {E : Value → Shared → Prop} {s : Shared}
theorem letGoAll {Q : Unit → Shared → Prop} (hq : Q () s) : ∀ (l : List (Array UInt8 × Tok)) (keep : List Value), wpAny (model prog w) A (Bytes.joinLetGo (l.map fun p => (asV p, none)) keep) Q E s
  | [], keep => wpAny_pure hq
  | p :: l, keep => by
    show wpAny _ _ (letGo _ _ >>= fun _ => _) _ _ _
    exact wpAny_bind (wpAny_letGo (letGoAll hq l keep))
theorem rangeLoop {β : Type} {Q : β → Shared → Prop} (f : Nat → β → Sem (ForInStep β)) (inv : Nat → β) (n : Nat)
    (hf : ∀ i (K : ForInStep β → Shared → Prop), i < n → K (.yield (inv (i + 1))) s → wpAny (model prog w) A (f i (inv i)) K E s) (hq : Q (inv n) s) :
    ∀ (k i : Nat), i + k = n → wpAny (model prog w) A (forIn (List.range' i k) (inv i) f) Q E s
  | 0, i, h => by
    obtain rfl : i = n := by omega
    show wpAny _ _ (forIn [] _ _) _ _ _
    rw [List.forIn_nil]; exact wpAny_pure hq
  | k + 1, i, h => by
    rw [List.range'_succ, List.forIn_cons]
    exact wpAny_bind (hf i _ (by omega) (rangeLoop f inv n hf hq k (i + 1) (by omega)))
theorem run_join {b0 : Array UInt8} {t0 : Tok} {D : Addr} {bs : List (Array UInt8 × Tok)} {n : Nat} {Q : Fin → Shared → Prop} (ho : s.heap.get? D = some (listOf (bs.map asV).toArray n)) (hlen : 2 ≤ bs.length)
    (hsz : ((bs.map (·.1)).toArray.foldl (· + ·.size) (b0.size * ((bs.map (·.1)).toArray.size - 1)) ≤ 1000))
    (hj : (Bytes.joined b0 (bs.map (·.1))).size ≤ 1000)
    (h : ∀ t' tk', Q (.done (.ret (.bytes (Bytes.joined b0 (bs.map (·.1))) t'))) { s with toks := tk' }) :
    wpAny (model prog w) A (Builtin.«bytes.join» ⟨[.bytes b0 t0, .ref D], []⟩) Q E s := by
  show wpAny _ _ (Bytes.joinM .bytes _) _ _ _
  unfold Bytes.joinM
  dsimp only
  refine wpAny_bind (wpAny_of_eq (a := (.bytes b0 t0, .ref D)) rfl ?_)
  rw [if_pos (by decide)]
  refine wpAny_bind ?_
  unfold Bytes.joinItems
  refine wpAny_bind (wpAny_typeOf_ref ho ?_)
  rw [if_pos (by kernel_rfl)]
  refine wpAny_pure ?_
  refine wpAny_bind (wpAny_seqItems ho rfl ?_)
  dsimp only
  rw [if_pos (by decide)]
  have hitems : (bs.map asV).toArray.size = bs.length := by simp
  rcases bs with _ | ⟨p, _ | ⟨q, r⟩⟩
  · exact absurd hlen (by decide)
  · exact absurd hlen (by simp)
  · show wpAny _ _ (forIn [:(List.map asV (p :: q :: r)).toArray.size] _ _ >>= _) _ _ _
    generalize p :: q :: r = bs at *
    rw [Std.Legacy.Range.forIn_eq_forIn_range']
    refine wpAny_bind ?_
    have e0 : ((#[], []) : Array (Array UInt8) × List (Value × Option Value)) = (((bs.take 0).map (·.1)).toArray, (bs.take 0).map fun p => (asV p, none)) := rfl
    rw [e0]
    refine rangeLoop _ (fun i => (((bs.take i).map (·.1)).toArray, (bs.take i).map fun p => (asV p, none))) bs.length ?_ ?_ _ 0 (by simp [Std.Legacy.Range.size])
    · intro i K hi hK
      refine wpAny_bind (wpAny_seqItems ho rfl ?_)
      dsimp only
      have hany : (Bytes.Kind.bytes == Bytes.Kind.bytearray || ((bs.take i).map fun p => (asV p, (none : Option Value))).any fun x => x.1.onHeap) = false := by
        rw [show (Bytes.Kind.bytes == Bytes.Kind.bytearray) = false by decide, Bool.false_or, List.any_eq_false]
        intro x hx
        obtain ⟨p, _, rfl⟩ := List.mem_map.mp hx
        show ¬ (false = true)
        decide
      rw [if_neg (by rw [hany]; decide)]
      have hg : (bs.map asV).toArray.getD i .none = asV bs[i] := by simp [Array.getD, hi]
      rw [hg]
      refine wpAny_bind (wpAny_holding (wpAny_of_eq (take_eq _ _ _ 0 (by decide +kernel)) ?_))
      dsimp only
      refine wpAny_bind (wpAny_seqItems ho rfl ?_)
      dsimp only
      rw [if_neg (by simp)]
      refine wpAny_pure ?_
      have e1 : ((bs.take (i + 1)).map (·.1)).toArray = ((bs.take i).map (·.1)).toArray.push bs[i].1 := by
        rw [List.take_succ_eq_append_getElem hi]; simp only [List.map_append, List.map_cons, List.map_nil, List.push_toArray]
      have e2 : (bs.take (i + 1)).map (fun p => (asV p, (none : Option Value))) = (bs.take i).map (fun p => (asV p, none)) ++ [(asV bs[i], none)] := by
        rw [List.take_succ_eq_append_getElem hi]; simp only [List.map_append, List.map_cons, List.map_nil]
      rw [e1, e2] at hK
      exact hK
    · rw [List.take_length]
      dsimp only
      refine wpAny_bind (wpAny_of_eq (a := b0) rfl ?_)
      rw [if_neg (by unfold Bytes.tooLong; have : sizeLine = 16777216 := rfl; simp only [decide_eq_true_eq]; omega)]
      refine wpAny_bind (wpAny_mkBytes ?_ (by have : sizeLine = 16777216 := rfl; omega))
      refine wpAny_bind (wpAny_holding (wpAny_point ?_))
      refine wpAny_bind (letGoAll ?_ _ _)
      exact wpAny_pure (h _ _)
end
end Mine.SR
end
section
open PySem PySem.W PySem.Calls PyProof.Rows
namespace Mine.SR
open PySem.Builtin PySem.Builtin.Re
noncomputable def o42 : Obj := { cls := .type "tuple", data := .seq #[.int 14 0, .int 4 0, .int 0 0, .int 1 0, .int 1 0, .int 6 0, .int 1 0, .int 16 0, .int 46 0, .int 1 0] }
noncomputable def o43 : Obj := { cls := .type "re.Pattern", data := .fields #[.bytes #[40, 63, 109, 41, 94, 92, 46] 292, .int 8 305, .int 0 0, .none, .none, .ref 42, .int 1 0] }
theorem look42 (P : Params) : (hd.heap_39 P).lookup 42 = some o42 := by kernel_rfl
theorem look43 (P : Params) : (hd.heap_39 P).lookup 43 = some o43 := by kernel_rfl
noncomputable def txt (b : Array UInt8) : Array Nat := b.map (·.toNat)
noncomputable def tgt (b : Array UInt8) (t : Tok) : ReTarget := { pattern := .ref 43, string := .bytes b t, code := code0, text := txt b, kind := 1, groups := 0, pos := 0, lim := (txt b).size }
theorem text_eq (b : Array UInt8) (t : Tok) : reTextOf (.bytes b t) = pure (txt b, 1) := by
  unfold reTextOf
  rw [show asStr? (.bytes b t) = pure none by rfl, KBy.quiet_eq]
  rfl
section
variable {prog : Program} {w : World} {A : Around} {E : Value → Shared → Prop} {s : Shared}
theorem whole {b : Array UInt8} {t : Tok} {Q : ReTarget → Shared → Prop} (h42 : s.heap.get? 42 = some o42) (h43 : s.heap.get? 43 = some o43) (h : Q (tgt b t) s) :
    wpAny (model prog w) A (reWholeTarget (.ref 43) (.bytes b t)) Q E s := by
  unfold reWholeTarget
  refine wpAny_bind (wpAny_fieldsOf h43 rfl ?_)
  refine wpAny_bind (wpAny_of_eq (text_eq b t) ?_)
  dsimp only
  rw [if_neg (by decide), if_neg (by decide)]
  unfold reNoCollectionInside
  rw [if_pos (by decide)]
  refine wpAny_bind (wpAny_bind (wpAny_of_eq KBy.isInstance_eq ?_))
  rw [if_neg (by decide)]
  refine wpAny_pure ?_
  unfold reRawItems
  refine wpAny_bind (wpAny_bind (wpAny_seqItems h42 rfl ?_))
  refine wpAny_pure (wpAny_pure ?_)
  refine Eq.mp (congrArg (fun x => Q x s) ?_) h
  first | rfl | kernel_rfl
end
noncomputable def cut (b : Array UInt8) (i j : Nat) : Array UInt8 := ((txt b).extract i j).map (·.toUInt8)
noncomputable def outs (b : Array UInt8) : Nat → Nat → List (Array UInt8)
  | 0, done => if done < (txt b).size then [cut b done (txt b).size] else []
  | f + 1, done => match nextDot (txt b) (txt b).size ((txt b).size - done) done with
    | none => if done < (txt b).size then [cut b done (txt b).size] else []
    | some d => (if done < d then [cut b done d] else []) ++ #[46, 46] :: outs b f (d + 1)
theorem nextDot_in (t : Array Nat) (lim : Nat) : ∀ (k s d : Nat), nextDot t lim k s = some d → s ≤ d ∧ d < s + k
  | 0, s, d, h => by simp [nextDot] at h
  | k + 1, s, d, h => by
    unfold nextDot at h
    split at h
    · cases h; omega
    · have := nextDot_in t lim k (s + 1) d h; omega
theorem entry_loop : entryFor table "re.Pattern.sub.loop" = some Builtin.«re.Pattern.sub.loop» := entryFor_of_tree (by kernel_rfl)
theorem plain_loop : plainId "re.Pattern.sub.loop" = true := by decide +kernel
section
variable {prog : Program} {w : World} {A : Around} {s : Shared}
theorem slice_eq {E : Value → Shared → Prop} {b : Array UInt8} {i j : Nat} {Q : Value → Shared → Prop} (hb : b.size ≤ 1000) (h : Q (.bytes (cut b i j) s.toks) { s with toks := s.toks + 1 }) : wpAny (model prog w) A (reSlice (txt b) 1 i j) Q E s := by
  unfold reSlice
  rw [if_neg (by decide)]
  refine wpAny_mkBytes h ?_
  have : sizeLine = 16777216 := rfl
  simp [txt]
  omega
theorem pushM {E : Value → Shared → Prop} {h₀ : Heap} {L D : Addr} {m : Str → Option Value} {news news' : List (Addr × Obj)} {hh : Heap} {g : Array GenState} {dr : Drawn} {tk₀ : Nat} {os : OsState} {its : Array Value} {n : Nat} {x : Value} {Q : Unit → Shared → Prop}
    (F : Fr h₀ L hh m) (N : Led h₀ L hh news) (e : SetAt D (listOf its n) (listOf (its.push x) (n + 1)) news news')
    (h : ∀ h', Fr h₀ L h' m → Led h₀ L h' news' → Q () ⟨h', g, dr, tk₀, os⟩) (hsz : its.size ≤ sizeLine) : wpAny (model prog w) A (updateSeq D (·.push x)) Q E ⟨hh, g, dr, tk₀, os⟩ := by
  have ho : hh.get? D = some (listOf its n) := (N.N _ e.mem).1
  have ho' : (hh.update D (Obj.mapSeq (·.push x))).get? D = some (listOf (its.push x) (n + 1)) := by
    rw [Heap.get?_update_self _ ho (by rw [mapSeq_push]; rfl), mapSeq_push]
  have := N.set F e (Heap.SameBut.update ..) ho'
  exact wpAny_updateSeq ho rfl (h _ this.1 this.2)
end
theorem joined_go (ps : List (Array UInt8)) : ∀ (k : Nat) (a : Array UInt8), (((ps.zipIdx k).foldl (fun out (p, i) => (if i > 0 then out ++ (#[] : Array UInt8) else out) ++ p) a)).toList = a.toList ++ (ps.map (·.toList)).flatten := by
  induction ps with
  | nil => intro k a; simp
  | cons p r ih =>
    intro k a
    rw [List.zipIdx_cons, List.foldl_cons, ih]
    simp
theorem joined_flat (ps : List (Array UInt8)) : (Bytes.joined #[] ps).toList = (ps.map (·.toList)).flatten := by
  unfold Bytes.joined
  rw [joined_go]
  simp
noncomputable def tot (ps : List (Array UInt8)) : Nat := (ps.map (·.size)).sum
theorem joined_size (ps : List (Array UInt8)) : (Bytes.joined #[] ps).size = tot ps := by
  rw [← Array.length_toList, joined_flat, List.length_flatten, List.map_map]
  rfl
theorem fold_size (ps : List (Array UInt8)) : ∀ a : Nat, ps.foldl (· + ·.size) a = a + tot ps := by
  induction ps with
  | nil => intro a; simp [tot]
  | cons p r ih => intro a; rw [List.foldl_cons, ih]; simp [tot]; omega
end Mine.SR
end
section
open PySem PySem.W PySem.Calls PyProof.Rows
namespace Mine.SR
open PySem.Builtin PySem.Builtin.Re
theorem slot_join : Slot "bytes" "join" "bytes.join" :=
  .of (owner := "bytes") (n := "join") (by rw [typeLookup_type, builtinLookup_eq_fast]; kernel_rfl) (by decide +kernel) (by decide +kernel) (by decide +kernel)
    (by first | exact .inl (by decide +kernel) | exact .inr (by decide +kernel)) (by rw [isSubtype_type]; kernel_rfl)
theorem entry_join : entryFor table "bytes.join" = some Builtin.«bytes.join» := entryFor_of_tree (by kernel_rfl)
theorem args_join (a b : Value) : argsOk "bytes.join" ⟨[a, b], []⟩ := by unfold argsOk; kernel_rfl
noncomputable def loopArgs (b : Array UInt8) (t u : Tok) (cnt : Int) (done : Nat) (D : Addr) : Args :=
  ⟨[.ref 43, .bytes b t, .bytes #[46, 46] u, rawInt 0, rawInt 0, rawInt cnt, rawInt done, rawInt done, .bool false, .ref D, .bool false], []⟩
section
variable {prog : Program} {w : World} {A : Around} {h₀ : Heap} {L D : Addr} {m : Str → Option Value} {news : List (Addr × Obj)} {g : Array GenState} {dr : Drawn} {os : OsState} {R : Result → Shared → Prop}
theorem lit_ok {E : Value → Shared → Prop} {s : Shared} {u : Tok} {Q : Unit → Shared → Prop} (h : Q () s) : wpAny (model prog w) A (reLiteralCannotBeTurned (.bytes #[46, 46] u)) Q E s := by
  unfold reLiteralCannotBeTurned
  refine wpAny_bind (wpAny_of_eq (a := none) rfl ?_)
  rw [if_pos (by decide)]
  refine wpAny_bind (wpAny_of_eq KBy.isInstance_eq ?_)
  rw [if_neg (by decide)]
  exact wpAny_pure h
theorem joined_one (x : Array UInt8) : Bytes.joined #[] [x] = x := by simp [Bytes.joined]
theorem run_join1 {E : Value → Shared → Prop} {s : Shared} {b0 : Array UInt8} {t0 : Tok} {p : Array UInt8 × Tok} {n : Nat} {Q : Fin → Shared → Prop} (ho : s.heap.get? D = some (listOf #[asV p] n)) (h : Q (.done (.ret (asV p))) s) :
    wpAny (model prog w) A (Builtin.«bytes.join» ⟨[.bytes b0 t0, .ref D], []⟩) Q E s := by
  show wpAny _ _ (Bytes.joinM .bytes _) _ _ _
  unfold Bytes.joinM
  dsimp only
  refine wpAny_bind (wpAny_of_eq (a := (.bytes b0 t0, .ref D)) rfl ?_)
  rw [if_pos (by decide)]
  refine wpAny_bind ?_
  unfold Bytes.joinItems
  refine wpAny_bind (wpAny_typeOf_ref ho ?_)
  rw [if_pos (by kernel_rfl)]
  refine wpAny_pure ?_
  refine wpAny_bind (wpAny_seqItems ho rfl ?_)
  dsimp only
  rw [if_pos (by decide)]
  refine wpAny_bind (wpAny_of_eq (a := .type "bytes") rfl ?_)
  rw [if_pos (by kernel_rfl)]
  exact wpAny_bind (wpAny_rule (wpAny_pure h))
theorem joinCall {E : Value → Shared → Prop} {s : Shared} {bs : List (Array UInt8 × Tok)} {n : Nat} {t0 : Tok} {Q : Value → Shared → Prop} (ho : s.heap.get? D = some (listOf (bs.map asV).toArray n)) (h0 : bs ≠ [])
    (hsz : ((bs.map (·.1)).toArray.foldl (· + ·.size) ((#[] : Array UInt8).size * ((bs.map (·.1)).toArray.size - 1)) ≤ 1000))
    (hj : (Bytes.joined #[] (bs.map (·.1))).size ≤ 1000) (h : ∀ t' tk', Q (.bytes (Bytes.joined #[] (bs.map (·.1))) t') { s with toks := tk' }) :
    wpAny (model prog w) A (call (.builtin "bytes.join") [.bytes #[] t0, .ref D]) Q E s := by
  refine wpAny_call_entry slot_join (typeIs_bytes _ _ _) entry_join ?_ (args_join _ _)
  rcases bs with _ | ⟨p, _ | ⟨q, r⟩⟩
  · exact absurd rfl h0
  · refine run_join1 ho ⟨_, rfl, ?_⟩
    have := h p.2 s.toks
    rw [List.map_cons, List.map_nil, joined_one] at this
    exact this
  · exact run_join ho (by simp) hsz hj fun t' tk' => ⟨_, rfl, h t' tk'⟩
theorem cut_nil (b : Array UInt8) : cut b 0 0 = #[] := by simp [cut]
theorem cut_size (b : Array UInt8) (i j : Nat) (hj : j ≤ b.size) : (cut b i j).size = j - i := by simp [cut, txt]; omega
theorem tot_append (a b : List (Array UInt8)) : tot (a ++ b) = tot a + tot b := by simp [tot]
theorem tot_one (a : Array UInt8) : tot [a] = a.size := by simp [tot]
theorem finM {E : Value → Shared → Prop} {K : Fin → Shared → Prop} {b : Array UInt8} {cnt : Int} (hb : b.size ≤ 100) {bs : List (Array UInt8 × Tok)} {n : Nat} {hh : Heap} {tk : Nat}
    (F : Fr h₀ L hh m) (N : Led h₀ L hh ((D, listOf (bs.map asV).toArray n) :: news)) (hl : tot (bs.map (·.1)) ≤ 500)
    (hR : ∀ t' tk', K (.done (.ret (.bytes (Bytes.joined #[] (bs.map (·.1))) t'))) ⟨hh, g, dr, tk', os⟩) :
    wpAny (model prog w) A (do
      let joiner ← reSlice (txt b) 1 0 0
      let xs ← seqItems? (Value.ref D)
      if (xs.getD #[]).isEmpty = true then do
          let text ← pure joiner
          if false = true then do
              let x ← holding [text] do
                    let y ← mkInt cnt
                    newTuple [text, y]
              ret x
            else ret text
        else do
          let text ← call (Value.builtin (if ((1 : Nat) == 0) = true then "str.join" else "bytes.join")) [joiner, Value.ref D]
          if false = true then do
              let x ← holding [text] do
                    let y ← mkInt cnt
                    newTuple [text, y]
              ret x
            else ret text) K E ⟨hh, g, dr, tk, os⟩ := by
  refine wpAny_bind (slice_eq (by omega) ?_)
  have ho : hh.get? D = some (listOf (bs.map asV).toArray n) := (N.N _ (.head _)).1
  refine wpAny_bind (wpAny_seqItems ho rfl ?_)
  dsimp only
  rw [cut_nil]
  by_cases hbs : bs = []
  · subst hbs
    rw [if_pos (by simp)]
    refine wpAny_bind (wpAny_pure ?_)
    rw [if_neg (by decide)]
    exact wpAny_pure (hR _ _)
  · rw [if_neg (by simpa using hbs)]
    refine wpAny_bind ?_
    rw [if_neg (by decide)]
    refine joinCall ho hbs ?_ ?_ fun t' tk' => ?_
    · rw [List.foldl_toArray', fold_size]
      · simp; omega
      · simp
    · rw [joined_size]; omega
    · rw [if_neg (by decide)]
      exact wpAny_pure (hR _ _)
theorem loopM {b : Array UInt8} {t u : Tok} (hb : b.size ≤ 100) (X₀ : (hd.heap_39 w.params).In h₀) :
    ∀ (f done : Nat) (bs : List (Array UInt8 × Tok)) (n : Nat) (cnt : Int) (hh : Heap) (tk : Nat), b.size < done + f → done ≤ b.size → bs.length ≤ 2 * done → tot (bs.map (·.1)) ≤ 2 * done →
      Fr h₀ L hh m → Led h₀ L hh ((D, listOf (bs.map asV).toArray n) :: news) →
      (∀ h' (bs' : List (Array UInt8 × Tok)) n' t' tk', Fr h₀ L h' m → Led h₀ L h' ((D, listOf (bs'.map asV).toArray n') :: news) → bs'.map (·.1) = bs.map (·.1) ++ outs b f done →
        R (.ok (.ret (.bytes (Bytes.joined #[] (bs'.map (·.1))) t'))) ⟨h', g, dr, tk', os⟩) →
      codeAny (model prog w) A (.builtin "re.Pattern.sub.loop" (loopArgs b t u cnt done D)) R ⟨hh, g, dr, tk, os⟩ := by
  intro f
  induction f with
  | zero => intro done bs n cnt hh tk h1 h2; omega
  | succ f ih =>
    intro done bs n cnt hh tk h1 h2 h3 h4 F N hR
    have X := X₀.keeps F.keep
    have hz : (txt b).size = b.size := by simp [txt]
    refine codeAny_builtin entry_loop ?_
    rw [Around.under_plainId plain_loop]
    show wpAny _ _ (Builtin.«re.Pattern.sub.loop» ⟨[.ref 43, .bytes b t, .bytes #[46, 46] u, rawInt 0, rawInt 0, rawInt cnt, rawInt done, rawInt done, .bool false, .ref D, .bool false], []⟩) _ _ _
    unfold Builtin.«re.Pattern.sub.loop»
    dsimp only [rawInt]
    refine wpAny_bind (whole (X _ _ (look42 _)) (X _ _ (look43 _)) ?_)
    rw [if_pos (by decide)]
    refine wpAny_bind (lit_ok ?_)
    rw [if_neg (by simp)]
    have push1 : ∀ (bs : List (Array UInt8 × Tok)) (p : Array UInt8 × Tok), (bs.map asV).toArray.push (asV p) = ((bs ++ [p]).map asV).toArray := by intro bs p; simp
    refine wpAny_bind (nextFound (k := (txt b).size - done) rfl rfl (by show ((done : Int).toNat) + _ = (txt b).size; simp; omega) (by omega) ?_ ?_)
    · intro hn
      dsimp only [tgt] at hn ⊢
      rw [Int.toNat_natCast] at hn ⊢
      by_cases hlt : done < (txt b).size
      · refine wpAny_ite ((if_pos hlt).mpr ?_)
        refine wpAny_bind (slice_eq (by omega) ?_)
        refine wpAny_bind (pushM (x := .bytes (cut b done (txt b).size) tk) F N SetAt.head (fun h' F' N' => ?_) (by have : sizeLine = 16777216 := rfl; simp; omega))
        have e : (bs.map asV).toArray.push (Value.bytes (cut b done (txt b).size) tk) = ((bs ++ [(cut b done (txt b).size, tk)]).map asV).toArray := push1 bs (_, _)
        rw [e] at N'
        refine finM hb F' N' ?_ fun t' tk' => ?_
        · rw [List.map_append, tot_append, List.map_cons, List.map_nil, tot_one, cut_size _ _ _ (by omega)]; omega
        · exact hR _ _ _ _ _ F' N' (by unfold outs; rw [hn]; simp [hlt])
      · refine wpAny_ite ((if_neg hlt).mpr ?_)
        refine finM hb F N (by omega) fun t' tk' => ?_
        exact hR _ _ _ _ _ F N (by unfold outs; rw [hn]; simp [hlt])
    · intro d x hd hs hx
      dsimp only [tgt] at hd ⊢
      rw [Int.toNat_natCast] at hd ⊢
      have hin := nextDot_in _ _ _ _ _ hd
      rw [hs, hx]
      have fin : ∀ (bs₁ : List (Array UInt8 × Tok)) (n₁ : Nat) (hh₁ : Heap) (tk₁ : Nat), Fr h₀ L hh₁ m → Led h₀ L hh₁ ((D, listOf (bs₁.map asV).toArray n₁) :: news) → bs₁.length ≤ 2 * done + 1 → tot (bs₁.map (·.1)) ≤ 2 * done + (d - done) →
          bs₁.map (·.1) = bs.map (·.1) ++ (if done < d then [cut b done d] else []) →
          wpAny (model prog w) A.in1 (do
            let item ← pure (Value.bytes #[46, 46] u)
            if (item != Value.none) = true then do
              updateSeq D (·.push item)
              again (.builtin "re.Pattern.sub.loop" ⟨[.ref 43, .bytes b t, .bytes #[46, 46] u, rawInt 0, rawInt 0, rawInt (cnt + 1), rawInt (d + 1 : Nat), rawInt (d + 1 : Nat), .bool (d + 1 == d), .ref D, .bool false], []⟩)
            else again (.builtin "re.Pattern.sub.loop" ⟨[.ref 43, .bytes b t, .bytes #[46, 46] u, rawInt 0, rawInt 0, rawInt (cnt + 1), rawInt (d + 1 : Nat), rawInt (d + 1 : Nat), .bool (d + 1 == d), .ref D, .bool false], []⟩))
            (fun fin s' => match fin with | .done f => R (.ok f) s' | .again c' => c'.quiet = true ∧ codeAny (model prog w) A c' R s') (fun e s' => R (.error e) s') ⟨hh₁, g, dr, tk₁, os⟩ := by
        intro bs₁ n₁ hh₁ tk₁ F₁ N₁ hl₁ ht₁ he₁
        refine wpAny_bind (wpAny_pure ?_)
        rw [if_pos (by simp)]
        refine wpAny_bind (pushM (x := asV (#[46, 46], u)) F₁ N₁ SetAt.head (fun h' F' N' => ?_) (by have : sizeLine = 16777216 := rfl; simp; omega))
        rw [push1] at N'
        refine wpAny_pure ⟨plainId_quiet plain_loop _, ?_⟩
        rw [show (d + 1 == d) = false by simp]
        refine ih (d + 1) (bs₁ ++ [(#[46, 46], u)]) _ (cnt + 1) h' tk₁ (by omega) (by omega) (by simp; omega) ?_ F' N' ?_
        · rw [List.map_append, tot_append, List.map_cons, List.map_nil, tot_one]; simp; omega
        · intro h'' bs' n' t' tk' F'' N'' he
          refine hR _ _ _ _ _ F'' N'' ?_
          rw [he, List.map_append, he₁]
          conv => rhs; unfold outs
          rw [hd]
          simp
      by_cases hlt : done < d
      · refine wpAny_ite ((if_pos hlt).mpr ?_)
        refine wpAny_bind (slice_eq (by omega) ?_)
        refine wpAny_bind (pushM (x := .bytes (cut b done d) tk) F N SetAt.head (fun h' F' N' => ?_) (by have : sizeLine = 16777216 := rfl; simp; omega))
        have e : (bs.map asV).toArray.push (Value.bytes (cut b done d) tk) = ((bs ++ [(cut b done d, tk)]).map asV).toArray := push1 bs (_, _)
        rw [e] at N'
        exact fin _ _ _ _ F' N' (by simp; omega) (by rw [List.map_append, tot_append, List.map_cons, List.map_nil, tot_one, cut_size _ _ _ (by omega)]; omega) (by simp [hlt])
      · refine wpAny_ite ((if_neg hlt).mpr ?_)
        exact fin _ _ _ _ F N (by omega) (by omega) (by simp [hlt])
end
end Mine.SR
end
section
open PySem PySem.W PySem.Calls PyProof.Rows
namespace Mine.SR
open PySem.Builtin PySem.Builtin.Re
theorem slot_sub : Slot "re.Pattern" "sub" "re.Pattern.sub" :=
  .of (owner := "re.Pattern") (n := "sub") (by rw [typeLookup_type, builtinLookup_eq_fast]; kernel_rfl) (by decide +kernel) (by decide +kernel) (by decide +kernel)
    (by first | exact .inl (by decide +kernel) | exact .inr (by decide +kernel)) (by rw [isSubtype_type]; kernel_rfl)
theorem type_sub : typeOf (.builtin "re.Pattern.sub") = pure (.type "method_descriptor") := by show builtinType _ = _; rw [builtinType_eq_fast]; kernel_rfl
theorem entry_sub : entryFor table "re.Pattern.sub" = some Builtin.«re.Pattern.sub» := entryFor_of_tree (by kernel_rfl)
theorem args_sub (a b c : Value) : argsOk "re.Pattern.sub" ⟨[a, b, c], []⟩ := by unfold argsOk; kernel_rfl
theorem attrs_pat : PlainAttrs "re.Pattern" :=
  ⟨⟨"object.__getattribute__", by rw [typeLookup_type, builtinLookup_eq_fast]; kernel_rfl, by decide +kernel⟩, by rw [typeLookup_type, builtinLookup_eq_fast]; kernel_rfl⟩
theorem look_call_bytes : typeLookup (.type "bytes") "__call__" = pure none := by rw [typeLookup_type, builtinLookup_eq_fast]; kernel_rfl
theorem named_eq (a b : Value) : reNamed "re.Pattern.sub" "sub" ["repl", "string", "count"] 2 [a, b] [] = pure [some a, some b, none] := by kernel_rfl
theorem call_entry2 {prog : Program} {w : World} {A : Around} {E : Value → Shared → Prop} {s : Shared} {T : String} {name : Str}
    {id : String} {b : Builtin} {self : Value} {rest : List Value} {Q : Value → Shared → Prop} (h : Slot T name id) (hT : s.TypeIs self T)
    (hb : entryFor table id = some b)
    (hc : wpAny (model prog w) A.in1 (b ⟨self :: rest, []⟩) (fun fin s' => match fin with | .done f => ∃ v, f = .ret v ∧ Q v s' | .again c => c.quiet = true ∧ codeAny (model prog w) A c (fun r s'' => ∃ v, r = .ok (.ret v) ∧ Q v s'') s') E s)
    (ha : argsOk id ⟨self :: rest, []⟩) :
    wpAny (model prog w) A (call (.builtin id) (self :: rest)) Q E s := by
  refine wpAny_call (codeAny_call_builtin h.plain hb (h.check _ _ _ _ _ _ _ _ hT ha (wpAny_mono hc (fun fin s' h' => ?_) fun _ _ h' => h')))
  cases fin with
  | done f => obtain ⟨v, rfl, hv⟩ := h'; exact hv
  | again c =>
    refine ⟨h'.1, ?_⟩
    refine codeAny_mono h'.2 ?_
    rintro r s'' ⟨v, rfl, hv⟩
    exact hv
section
variable {prog : Program} {w : World} {A : Around} {E : Value → Shared → Prop} {h₀ : Heap} {L : Addr} {m : Str → Option Value} {news : List (Addr × Obj)} {g : Array GenState} {dr : Drawn} {os : OsState} {hh : Heap} {tk : Nat}
theorem getm_sub {pl : Sem Bool} {Q : Value × List Value → Shared → Prop} (F : Fr h₀ L hh m) (X₀ : (hd.heap_39 w.params).In h₀)
    (h : Q (.builtin "re.Pattern.sub", [.ref 43]) ⟨hh, g, dr, tk, os⟩) : wpAny (model prog w) A (getMethod (.ref 43) (PySem.Str.ofString "sub") pl) Q E ⟨hh, g, dr, tk, os⟩ := by
  have X := X₀.keeps F.keep
  have h43 := X _ _ (look43 _)
  exact getMethod_builtin ⟨_, h43, rfl⟩ attrs_pat slot_sub type_sub (fun a e => by cases e; exact ⟨_, h43, rfl⟩) h
theorem subM {b : Array UInt8} {t u : Tok} {Q : Value → Shared → Prop} (hb : b.size ≤ 100) (F : Fr h₀ L hh m) (N : Led h₀ L hh news) (X₀ : (hd.heap_39 w.params).In h₀)
    (h : ∀ h' t' tk' c, Fr h₀ L h' m → Led h₀ L h' news → c.toList = ((outs b (b.size + 1) 0).map (·.toList)).flatten → Q (.bytes c t') ⟨h', g, dr, tk', os⟩) :
    wpAny (model prog w) A (call (.builtin "re.Pattern.sub") [.ref 43, .bytes #[46, 46] u, .bytes b t]) Q E ⟨hh, g, dr, tk, os⟩ := by
  have X := X₀.keeps F.keep
  refine call_entry2 slot_sub ⟨_, X _ _ (look43 _), rfl⟩ entry_sub ?_ (args_sub _ _ _)
  show wpAny _ _ (Builtin.Re.reSubstitute "re.Pattern.sub" "sub" false _) _ _ _
  unfold Builtin.Re.reSubstitute
  dsimp only
  refine wpAny_bind (wpAny_of_eq (named_eq _ _) ?_)
  dsimp only
  refine wpAny_bind (wpAny_pure ?_)
  refine wpAny_bind (wpAny_of_eq (KBy.special_eq look_call_bytes) ?_)
  refine wpAny_bind (wpAny_of_eq (a := none) rfl ?_)
  dsimp only
  refine wpAny_bind (wpAny_of_eq KBy.quiet_eq ?_)
  dsimp only
  refine wpAny_bind (wpAny_pure ?_)
  refine wpAny_ite ((if_neg (by decide)).mpr ?_)
  refine wpAny_ite ((if_pos (by simp)).mpr ?_)
  refine wpAny_bind (wpAny_pure ?_)
  refine wpAny_bind (wpAny_holding (whole (X _ _ (look42 _)) (X _ _ (look43 _)) ?_))
  dsimp only
  refine wpAny_ite ((if_neg (by decide)).mpr ?_)
  refine wpAny_bind (newList_M F N fun a h' F' N' => ?_)
  refine wpAny_pure ⟨plainId_quiet plain_loop _, ?_⟩
  refine loopM hb X₀ (b.size + 1) 0 [] _ _ _ _ (by omega) (by omega) (by simp) (by simp [tot]) F' N' ?_
  intro h'' bs' n' t' tk' F'' N'' he
  refine ⟨_, rfl, h _ _ _ _ F'' N''.tail ?_⟩
  rw [joined_flat, he]
  rfl
end
end Mine.SR
end
section
open PySem PySem.W PySem.Calls PyProof.Rows
namespace Mine
section
variable {prog : Program} {w : World} {A : Around} {E : Value → Shared → Prop} {h₀ : Heap} {L D : Addr} {m : Str → Option Value} {news : List (Addr × Obj)} {hh : Heap} {g : Array GenState} {dr : Drawn} {tk₀ : Nat} {os : OsState} {env : Env} {Q : Value → Shared → Prop}
theorem evalPartNone {s : Shared} (h : Q .none s) : wpAny (model prog w) A (evalPart none env) Q E s := wpAny_pure h
theorem evalPartSome {s : Shared} {e : PySem.Expr} (h : wpAny (model prog w) A (eval e env) Q E s) : wpAny (model prog w) A (evalPart (some e) env) Q E s := h
theorem sliceM {lower upper step : Option PySem.Expr} {p : Pos} {s : Shared}
    (h : wpAny (model prog w) A (evalPart lower env) (fun l s₁ => wpAny (model prog w) A (evalPart upper env) (fun u s₂ => wpAny (model prog w) A (evalPart step env) (fun st s₃ =>
      Q (.ref s₃.heap.objs.size) ⟨s₃.heap.push { cls := .type "slice", data := .fields #[l, u, st] }, s₃.gens, s₃.drawn, s₃.toks, s₃.os⟩) E s₂) E s₁) E s) :
    wpAny (model prog w) A (eval (.Slice lower upper step p) env) Q E s := wpAny_Slice h
theorem cut4M {value slice : PySem.Expr} {b : Array UInt8} {t u : Tok} {ks : List Int} (F : Fr h₀ L hh m) (N : Led h₀ L hh news) (hk : KBw.bInts b = ks) (hz : ks.length ≤ 16777216)
    (h : ∀ c h' t' k, Fr h₀ L h' m → Led h₀ L h' news → KBw.bInts c = ks.take 4 → Q (.bytes c t') ⟨h', g, dr, k, os⟩)
    (hs : subscripted slice false (.bytes b t) (.ref hh.objs.size) = operate [.ref hh.objs.size, .bytes b t] (getItem (.bytes b t) (.ref hh.objs.size)))
    (ht : ∀ r, letTemporaryGo value (.bytes b t) r = pure ()) :
    wpAny (model prog w) A (subscriptTail value slice (.bytes b t) (.ref hh.objs.size)) Q E ⟨hh.push { cls := .type "slice", data := .fields #[.none, .int 4 u, .none] }, g, dr, tk₀, os⟩ :=
  KBc.slice_K (s := ⟨hh, g, dr, tk₀, os⟩) (lo := none) (hi := some 4) F N.N hk (by constructor) (by constructor) hz
    (fun h' t' k F' N' e => h _ h' t' k F' ⟨N', N.nd⟩ (by
      rw [e]
      simp only [Option.elim]
      rw [show clipAt ks.length 4 = min 4 ks.length from KBc.clip_lit _ _]
      simp only [List.drop_zero, Nat.sub_zero]
      rcases Nat.le_total 4 ks.length with h4 | h4
      · rw [Nat.min_eq_left h4]
      · rw [Nat.min_eq_right h4, List.take_of_length_le (Nat.le_refl _), List.take_of_length_le h4])) hs ht
end
noncomputable def pack3 (a b c d : Int) : List Int := [a * 4 + b / 16, b % 16 * 16 + c / 4, c % 4 * 64 + d]
noncomputable def qs : Int → List Int → List Int
  | _, [] => []
  | p, c :: r => (if p = 10 ∧ c = 46 then [46, 46] else [c]) ++ qs c r
namespace SR
noncomputable def gd (b : Array UInt8) : Nat → Nat → List UInt8
  | 0, _ => []
  | k + 1, s => (if (atB (txt b) s && (txt b).getD s 0 == 46) = true then [46, 46] else [b.getD s 0]) ++ gd b k (s + 1)
theorem cut_list (b : Array UInt8) (i j : Nat) : (cut b i j).toList = (b.toList.drop i).take (j - i) := by
  unfold cut txt
  rw [Array.toList_map, Array.toList_extract, Array.toList_map, List.extract_eq_take_drop, ← List.map_drop, ← List.map_take, List.map_map, show ((fun x : Nat => x.toUInt8) ∘ fun x : UInt8 => x.toNat) = id from funext fun x => UInt8.ofNat_toNat, List.map_id]
theorem at_drop (b : Array UInt8) {s : Nat} (h : s < b.size) : b.toList.drop s = b.getD s 0 :: b.toList.drop (s + 1) := by
  rw [← List.getElem_cons_drop (show s < b.toList.length from h), Array.getD, dif_pos h]; rfl
theorem gd_dot (b : Array UInt8) : ∀ (k s : Nat) (r : Option Nat), s + k = b.size → nextDot (txt b) (txt b).size k s = r →
    gd b k s = match r with
      | none => b.toList.drop s
      | some d => (b.toList.drop s).take (d - s) ++ 46 :: 46 :: gd b (b.size - (d + 1)) (d + 1)
  | 0, s, r, e, h => by
    subst h
    exact (List.drop_of_length_le (by rw [Array.length_toList]; lia)).symm
  | k + 1, s, r, e, h => by
    have hs : s < b.size := by lia
    unfold nextDot at h
    show (if _ then _ else _) ++ _ = _
    cases hc : (atB (txt b) s && (txt b).getD s 0 == 46) with
    | true =>
      rw [hc, if_pos rfl] at h
      subst h
      rw [if_pos rfl]
      show _ = (b.toList.drop s).take (s - s) ++ 46 :: 46 :: gd b (b.size - (s + 1)) (s + 1)
      rw [show b.size - (s + 1) = k by lia, Nat.sub_self]; rfl
    | false =>
      rw [hc, if_neg Bool.false_ne_true] at h
      rw [if_neg Bool.false_ne_true, gd_dot b k (s + 1) r (by lia) h]
      cases r with
      | none => exact (at_drop b hs).symm
      | some d =>
        obtain ⟨h1, h2⟩ := nextDot_in _ _ _ _ _ h
        show _ = (b.toList.drop s).take (d - s) ++ _
        rw [at_drop b hs, show d - s = d - (s + 1) + 1 by lia]; rfl
theorem outs_gd (b : Array UInt8) : ∀ (f s : Nat), b.size < s + f → s ≤ b.size → ((outs b f s).map (·.toList)).flatten = gd b (b.size - s) s
  | 0, s, h, h' => by lia
  | f + 1, s, h, h' => by
    have ht : (txt b).size = b.size := Array.size_map
    have tail : ((if s < (txt b).size then [cut b s (txt b).size] else []).map (·.toList)).flatten = b.toList.drop s := by
      split
      · show (cut b s _).toList ++ [] = _
        rw [List.append_nil, cut_list, List.take_of_length_le (by rw [List.length_drop, Array.length_toList, ht]; lia)]
      · exact (List.drop_of_length_le (by rw [Array.length_toList]; lia)).symm
    unfold outs
    cases hn : nextDot (txt b) (txt b).size ((txt b).size - s) s with
    | none => rw [ht] at hn; rw [gd_dot b _ s none (by lia) (by rw [ht]; exact hn)]; exact tail
    | some d =>
      rw [ht] at hn
      obtain ⟨h1, h2⟩ := nextDot_in _ _ _ _ _ hn
      rw [gd_dot b _ s (some d) (by lia) (by rw [ht]; exact hn)]
      show (((if s < d then [cut b s d] else []) ++ #[46, 46] :: outs b f (d + 1)).map (·.toList)).flatten = _
      rw [List.map_append, List.flatten_append]
      show _ ++ 46 :: 46 :: ((outs b f (d + 1)).map (·.toList)).flatten = _
      rw [outs_gd b f (d + 1) (by lia) (by lia)]
      congr 1
      split
      · show (cut b s d).toList ++ [] = _
        rw [List.append_nil, cut_list]
      · rw [show d - s = 0 by lia]; rfl
theorem gd_qs (b : Array UInt8) : ∀ (k s : Nat) (p : Int), s + k = b.size → (atB (txt b) s = true ↔ p = 10) → (gd b k s).map (fun x => (x.toNat : Int)) = qs p ((b.toList.drop s).map fun x => (x.toNat : Int))
  | 0, s, p, e, hp => by
    rw [List.drop_of_length_le (by rw [Array.length_toList]; lia)]; rfl
  | k + 1, s, p, e, hp => by
    have hs : s < b.size := by lia
    have hg : (txt b).getD s 0 = (b.getD s 0).toNat := by
      unfold txt; rw [Array.getD, Array.getD, dif_pos hs, dif_pos (by rw [Array.size_map]; exact hs)]; exact Array.getElem_map ..
    rw [at_drop b hs]
    show List.map _ ((if _ then _ else _) ++ _) = (if _ then _ else _) ++ _
    rw [List.map_append, gd_qs b k (s + 1) ((b.getD s 0).toNat : Int) (by lia) (by
      show ((false || (txt b).getD s 0 == 10) = true) ↔ _
      rw [Bool.false_or, hg, beq_iff_eq]; lia)]
    congr 1
    have hcc : (atB (txt b) s && (txt b).getD s 0 == 46) = true ↔ p = 10 ∧ ((b.getD s 0).toNat : Int) = 46 := by rw [hg, Bool.and_eq_true, hp, beq_iff_eq]; lia
    by_cases hc : p = 10 ∧ ((b.getD s 0).toNat : Int) = 46
    · rw [if_pos (hcc.mpr hc), if_pos hc]; rfl
    · rw [if_neg (fun x => hc (hcc.mp x)), if_neg hc]; rfl
end SR
open SR in
theorem outs_spec (b : Array UInt8) (_ : b.size = 4) : (((outs b (b.size + 1) 0).map (·.toList)).flatten).map (fun x => (x.toNat : Int)) = qs 10 (KBw.bInts b) := by
  rw [outs_gd b _ 0 (by lia) (by lia)]
  exact gd_qs b _ 0 10 (by lia) ⟨fun _ => rfl, fun _ => rfl⟩
noncomputable def grw (p q : Int) : Int → List Int → List Int
  | _, [] => []
  | v, c :: r => (if v = q ∧ c = p then [p, p] else [c]) ++ grw p q c r
noncomputable def snd4 (p q : Int) (fs : List Int) : List Int := (grw p q q fs).take 4
noncomputable def packL : List Int → List Int
  | [a, b, c, d] => pack3 a b c d
  | _ => []
noncomputable def Fig (f : Int) : Prop := 0 ≤ f ∧ f < 64
theorem grw_fig {p q : Int} (hp : Fig p) : ∀ {v : Int} {fs : List Int}, (∀ f ∈ fs, Fig f) → ∀ f ∈ grw p q v fs, Fig f
  | _, [], _, f, hf => nomatch hf
  | v, c :: r, h, f, hf => by
    unfold grw at hf
    rcases List.mem_append.mp hf with h1 | h1
    · split at h1
      · simp at h1; exact h1 ▸ hp
      · simp at h1; exact h1 ▸ h c (.head _)
    · exact grw_fig hp (fun x hx => h x (.tail _ hx)) f h1
theorem grw_len (p q : Int) : ∀ (v : Int) (fs : List Int), fs.length ≤ (grw p q v fs).length
  | _, [] => Nat.le_refl _
  | v, c :: r => by
    unfold grw
    have := grw_len p q c r
    split <;> simp <;> lia
theorem qs_grw {p q : Int} (e : Int → Int) (hp : e p = 46) (hq : ∀ f, Fig f → (e f = 46 ↔ f = p)) (hr : ∀ f, Fig f → (e f = 10 ↔ f = q)) :
    ∀ (v : Int) (w : Int) (fs : List Int), (v = 10 ↔ w = q) → (∀ f ∈ fs, Fig f) → qs v (fs.map e) = (grw p q w fs).map e
  | _, _, [], _, _ => rfl
  | v, w, c :: r, hv, h => by
    have hc := h c (.head _)
    rw [List.map_cons]
    unfold qs grw
    rw [qs_grw e hp hq hr (e c) c r (hr c hc) (fun x hx => h x (.tail _ hx)), List.map_append]
    congr 1
    by_cases h1 : w = q ∧ c = p
    · rw [if_pos h1, if_pos ⟨hv.mpr h1.1, (hq c hc).mpr h1.2⟩]
      simp [hp]
    · rw [if_neg h1, if_neg (fun h2 => h1 ⟨hv.mp h2.1, (hq c hc).mp h2.2⟩)]
      rfl
theorem all64 {P : Int → Prop} (h : ∀ n : Fin 64, P (n.val : Int)) : ∀ f, Fig f → P f := fun f hf => by
  have := h ⟨f.toNat, by have := hf.1; have := hf.2; lia⟩
  have e : ((f.toNat : Nat) : Int) = f := by have := hf.1; lia
  simpa [e] using this
theorem e1_dot : ∀ f, Fig f → (sw 43 47 46 10 (sgn f) = 46 ↔ f = 62) := all64 (by decide)
theorem e1_feed : ∀ f, Fig f → (sw 43 47 46 10 (sgn f) = 10 ↔ f = 63) := all64 (by decide)
theorem e1_back : ∀ f, Fig f → bval (sw 46 10 43 47 (sw 43 47 46 10 (sgn f))) = f := all64 (by decide)
theorem e1_no61 : ∀ f, Fig f → sw 46 10 43 47 (sw 43 47 46 10 (sgn f)) ≠ 61 := all64 (by decide)
theorem e2_dot : ∀ f, Fig f → (sw 43 47 10 46 (sgn f) = 46 ↔ f = 63) := all64 (by decide)
theorem e2_feed : ∀ f, Fig f → (sw 43 47 10 46 (sgn f) = 10 ↔ f = 62) := all64 (by decide)
theorem e2_back : ∀ f, Fig f → bval (sw 10 46 43 47 (sw 43 47 10 46 (sgn f))) = f := all64 (by decide)
theorem e2_no61 : ∀ f, Fig f → sw 10 46 43 47 (sw 43 47 10 46 (sgn f)) ≠ 61 := all64 (by decide)
theorem snd4_four {p q : Int} (hp : Fig p) {fs : List Int} (hl : fs.length = 4) (h : ∀ f ∈ fs, Fig f) : ∃ a b c d, snd4 p q fs = [a, b, c, d] ∧ Fig a ∧ Fig b ∧ Fig c ∧ Fig d := by
  have h1 : (snd4 p q fs).length = 4 := by
    unfold snd4
    have := grw_len p q q fs
    rw [List.length_take]
    lia
  have h2 : ∀ f ∈ snd4 p q fs, Fig f := fun f hf => grw_fig hp h f (List.mem_of_mem_take hf)
  match hs : snd4 p q fs, h1 with
  | [a, b, c, d], _ =>
    rw [hs] at h2
    exact ⟨a, b, c, d, rfl, h2 a (by simp), h2 b (by simp), h2 c (by simp), h2 d (by simp)⟩
theorem dq {N q k r : Int} (e : N = q * k + r) (h0 : 0 ≤ r) (h1 : r < k) : N / k = q ∧ N % k = r := by
  have hk : k ≠ 0 := fun h => by subst h; exact absurd (Int.lt_of_le_of_lt h0 h1) (by decide)
  subst e
  exact ⟨by rw [Int.add_comm, Int.add_mul_ediv_right _ _ hk, Int.ediv_eq_zero_of_lt h0 h1, Int.zero_add], by rw [Int.add_comm, Int.add_mul_emod_self_right, Int.emod_eq_of_lt h0 h1]⟩
theorem sp (f : Int) {k : Int} (hk : 0 < k) : ∃ p q, f = p * k + q ∧ 0 ≤ q ∧ q < k ∧ f / k = p ∧ f % k = q :=
  ⟨f / k, f % k, by rw [Int.mul_comm]; exact (Int.mul_ediv_add_emod f k).symm, Int.emod_nonneg _ (fun h => by rw [h] at hk; cases hk), Int.emod_lt_of_pos _ hk, rfl, rfl⟩
theorem oct1 {a b c d : Int} (hb : 0 ≤ b ∧ b < 64) (hc : 0 ≤ c ∧ c < 64) (hd : 0 ≤ d ∧ d < 64) : (a * 262144 + (b * 4096 + (c * 64 + d))) / 65536 = a * 4 + b / 16 := by
  obtain ⟨p, q, rfl, h0, h1, e, _⟩ := sp b (k := 16) (by decide)
  rw [e]; exact (dq (r := q * 4096 + (c * 64 + d)) (by lia) (by lia) (by lia)).1
theorem oct2 {a b c d : Int} (hc : 0 ≤ c ∧ c < 64) (hd : 0 ≤ d ∧ d < 64) : (a * 262144 + (b * 4096 + (c * 64 + d))) / 256 % 256 = b % 16 * 16 + c / 4 := by
  obtain ⟨p, q, rfl, h0, h1, _, e⟩ := sp b (k := 16) (by decide)
  obtain ⟨r, s, rfl, h2, h3, f, _⟩ := sp c (k := 4) (by decide)
  rw [e, f, (dq (N := a * 262144 + ((p * 16 + q) * 4096 + ((r * 4 + s) * 64 + d))) (q := (a * 4 + p) * 256 + (q * 16 + r)) (k := 256) (r := s * 64 + d) (by lia) (by lia) (by lia)).1]
  exact (dq rfl (by lia) (by lia)).2
theorem oct3 {a b c d : Int} (hd : 0 ≤ d ∧ d < 64) : (a * 262144 + (b * 4096 + (c * 64 + d))) % 256 = c % 4 * 64 + d := by
  obtain ⟨r, s, rfl, h2, h3, _, f⟩ := sp c (k := 4) (by decide)
  rw [f]; exact (dq (q := a * 1024 + b * 16 + r) (by lia) (by lia) (by lia)).2
theorem b2a0 {x : Int} (hx : 0 ≤ x ∧ x < 256) : (0 * 256 + x) % 65536 = x := by
  rw [Int.zero_mul, Int.zero_add]; exact Int.emod_eq_of_lt hx.1 (Int.lt_trans hx.2 (by decide))
theorem b2aw {x y : Int} (hx : 0 ≤ x ∧ x < 256) (hy : 0 ≤ y ∧ y < 256) : (x * 256 + y) % 65536 = x * 256 + y := Int.emod_eq_of_lt (by lia) (by lia)
theorem b2av {x y z : Int} (hy : 0 ≤ y ∧ y < 256) (hz : 0 ≤ z ∧ z < 256) : ((x * 256 + y) * 256 + z) % 65536 = y * 256 + z := (dq (q := x) (by lia) (by lia) (by lia)).2
theorem b2a1 {x : Int} (hx : 0 ≤ x ∧ x < 256) : (0 * 256 + x) % 65536 / 4 % 64 = x / 4 := by
  obtain ⟨p, q, rfl, h0, h1, e, _⟩ := sp x (k := 4) (by decide)
  rw [b2a0 hx, e]; exact Int.emod_eq_of_lt (by lia) (by lia)
theorem b2a2 {x y : Int} (hx : 0 ≤ x ∧ x < 256) (hy : 0 ≤ y ∧ y < 256) : ((0 * 256 + x) % 65536 * 256 + y) % 65536 / 16 % 64 = x % 4 * 16 + y / 16 := by
  rw [b2a0 hx, b2aw hx hy]
  obtain ⟨p, q, rfl, h0, h1, _, e⟩ := sp x (k := 4) (by decide)
  obtain ⟨r, s, rfl, h2, h3, f, _⟩ := sp y (k := 16) (by decide)
  rw [e, f, (dq (N := (p * 4 + q) * 256 + (r * 16 + s)) (q := p * 64 + (q * 16 + r)) (k := 16) (r := s) (by lia) h2 h3).1]
  exact (dq rfl (by lia) (by lia)).2
theorem b2a3 {x y z : Int} (hx : 0 ≤ x ∧ x < 256) (hy : 0 ≤ y ∧ y < 256) (hz : 0 ≤ z ∧ z < 256) : (((0 * 256 + x) % 65536 * 256 + y) % 65536 * 256 + z) % 65536 / 64 % 64 = y % 16 * 4 + z / 64 := by
  rw [b2a0 hx, b2aw hx hy, b2av hy hz]
  obtain ⟨p, q, rfl, h0, h1, _, e⟩ := sp y (k := 16) (by decide)
  obtain ⟨r, s, rfl, h2, h3, f, _⟩ := sp z (k := 64) (by decide)
  rw [e, f, (dq (N := (p * 16 + q) * 256 + (r * 64 + s)) (q := p * 64 + (q * 4 + r)) (k := 64) (r := s) (by lia) h2 h3).1]
  exact (dq rfl (by lia) (by lia)).2
theorem b2a4 {x y z : Int} (hx : 0 ≤ x ∧ x < 256) (hy : 0 ≤ y ∧ y < 256) (hz : 0 ≤ z ∧ z < 256) : (((0 * 256 + x) % 65536 * 256 + y) % 65536 * 256 + z) % 65536 / 1 % 64 = z % 64 := by
  rw [b2a0 hx, b2aw hx hy, b2av hy hz, Int.ediv_one]
  obtain ⟨r, s, rfl, h2, h3, _, f⟩ := sp z (k := 64) (by decide)
  rw [f]; exact (dq (q := y * 4 + r) (by lia) h2 h3).2
theorem uq {k a r a' r' : Int} (h : a * k + r = a' * k + r') (h0 : 0 ≤ r) (h1 : r < k) (h2 : 0 ≤ r') (h3 : r' < k) : a = a' ∧ r = r' :=
  ⟨(dq rfl h0 h1).1.symm.trans (dq h h2 h3).1, (dq rfl h0 h1).2.symm.trans (dq h h2 h3).2⟩
theorem jn {b b' k : Int} (h : b / k = b' / k) (g : b % k = b' % k) : b = b' := by
  rw [← Int.mul_ediv_add_emod b k, ← Int.mul_ediv_add_emod b' k, h, g]
theorem dlt {b k n m : Int} (h : 0 ≤ b ∧ b < m) (hk : 0 < k) (e : n * k = m) : 0 ≤ b / k ∧ b / k < n :=
  ⟨Int.ediv_nonneg h.1 (Int.le_of_lt hk), Int.ediv_lt_of_lt_mul hk (e ▸ h.2)⟩
theorem d16 {b : Int} (h : 0 ≤ b ∧ b < 64) : 0 ≤ b / 16 ∧ b / 16 < 4 := dlt h (by decide) (rfl : (4 : Int) * 16 = 64)
theorem d4 {b : Int} (h : 0 ≤ b ∧ b < 64) : 0 ≤ b / 4 ∧ b / 4 < 16 := dlt h (by decide) (rfl : (16 : Int) * 4 = 64)
end Mine
end
namespace Mine
section
open PySem.W PySem.Calls PyProof.Rows
set_option hygiene false
set_option compiler.extract_closed false
local macro_rules | `(tactic| walk_at "om") => `(tactic| (first | decide +kernel | assumption | with_reducible exact Int.natCast_nonneg _ | with_reducible exact Int.emod_nonneg _ (by decide) | omega))
local macro_rules | `(tactic| walk_at "oml") => `(tactic| (first | decide +kernel | assumption | with_reducible exact Int.natCast_nonneg _ | with_reducible exact Int.emod_nonneg _ (by decide) | lia))
local macro_rules | `(tactic| k_room) => `(tactic| ((try simp only [depth_mark, depth_under_make, depth_under_kw, depth_in1, depth_deeper, depth_caller]); (try dsimp only [topA]); (try simp only [recursionLimit] at *); omega))
local macro_rules | `(tactic| walk_at "s") => `(tactic| (first
  | (refine' SetAt.app _ ?z9a; (case z9a => walk_at "s"))
  | with_reducible exact SetAt.head
  | (refine' SetAt.tail ?z9a; (case z9a => walk_at "s"))))
local macro_rules | `(tactic| walk_at "g") => `(tactic| (first
  | with_reducible exact MGet.head
  | (refine' MGet.tail ?z9a ?z9b; (case z9a => kernel_rfl); (case z9b => walk_at "g"))))
local macro_rules | `(tactic| walk_at "m") => `(tactic| (first
  | with_reducible exact MSet.head
  | with_reducible exact MSet.nil
  | (refine' MSet.tail ?z9msA ?z9msB; (case z9msA => kernel_rfl); (case z9msB => walk_at "m"))))
local macro_rules | `(tactic| k_mem) => `(tactic| (first
  | (refine List.mem_append_left _ ?_; assumption)
  | (refine List.mem_append_right _ ?_; k_mem)))
local macro_rules | `(tactic| walk_at "o") => `(tactic| (first
  | assumption
  | exact Fr.keep (by assumption) _ _ (by assumption)
  | exact Led.get (by assumption) (by k_mem)))
local macro_rules | `(tactic| walk_at "u") => `(tactic| (first
  | (refine' List.Sublist.append_left ?z9s _; (case z9s => walk_at "u"); done)
  | exact List.Sublist.refl _
  | (refine' List.Sublist.cons_cons _ ?z9s; (case z9s => walk_at "u"); done)
  | (refine' List.Sublist.cons _ ?z9s; (case z9s => walk_at "u"); done)
  | exact List.nil_sublist _))
local macro_rules | `(tactic| walk_at "b") => `(tactic| ((have hsl : sizeLine = 16777216 := rfl); (try simp only [List.length_append, List.length_cons, List.length_nil, List.length_replicate, List.length_map, List.length_take, List.length_drop]); first | omega | (split <;> omega)))
local macro_rules | `(tactic| walk_at "a") => `(tactic| (first
  | assumption
  | (refine List.mem_append_left _ ?_; assumption)
  | exact List.Mem.head _
  | (refine List.mem_append_right _ ?_; walk_at "a"; done)
  | (refine List.Mem.tail _ ?_; walk_at "a"; done)
  | (refine List.mem_append_left _ ?_; walk_at "a"; done)))
section
section
variable (w : World) (loose : List Str) (mean : ExcName → Option Value) (mg mb : Str → Option Value)
theorem c_buffer (b : Array UInt8) (t : Tok) : PureFn w loose mean mg mb 1 85 [.bytes b t] [] (fun _ => True) (fun v _ => v = .bytes b t) := by
  unfold PureFn
  k_fill
  intro dp un gd outer base s Q E hB hX hT hdp hun hpre hret
  refine wpAny_call ?_
  refine' enterP (news := []) (binds := [(Str.ofString "data", .bytes b t)]) ?kX ?kT ?ksz ?kst ?kn ?k6 ?k7 ?k8 ?k9 ?kB ?knd ?_ ?c2 ?c3 ?c4 ?c5
  case kX => assumption
  case kT => assumption
  case ksz => exact Nat.le_refl _
  case kst => exact fun _ _ e => e
  case kn => exact fun _ hq => nomatch hq
  case knd => exact List.nodup_nil
  case k6 => k_is
  case k7 => k_is
  case k8 => k_room
  case k9 => first | exact BindsTo.of_eq (by kernel_rfl!) | exact binds_K (by k_in) rfl (by k_is) rfl rfl rfl | fail "enter: no rule for these arguments"
  case c5 => decide
  case kB => exact locs rfl
  case c2 => exact rfl
  case c3 => exact rfl
  case c4 => exact rfl
  intro L' h' F' N' l1 Q' hQ'; clear l1
  change Fr _ _ _ (mp [_]) at F'
  show wpAny _ _ (execs (_ :: _) _) _ _ _
  refine seqG ?_
  intro R' hR'
  refine wpAny_Assign_Name ?_
  refine Call_ ?_
  k_dflt (refine' name_B ‹_› (by k_asm) (by k_asm) (by k_is) (by boot_by_name) (by decide) ?_)
  refine PyProof.Rows.callWith_type1 ?_
  refine args_cons ?_
  refine' ldMq ‹_› (by walk_at "g") ?_ (by kernel_rfl)
  refine args_nil ?_
  try dsimp only [List.cons_append, List.nil_append]
  refine call_type_of (Tx := "bytes") rfl (by decide +kernel) ?_
  rename Fr _ _ _ _ => oldF
  rename Led _ _ _ _ => oldN
  refine' stMq oldF oldN (by (walk_at "m")) ?_ (by kernel_rfl)
  intro _ _ F' N'
  clear oldF oldN
  refine hR'.next ?_
  clear hR' R'
  refine seqG ?_
  intro R' hR'
  refine wpAny_If ?_
  refine wpAny_isTrue_Compare1 ?_
  refine' ldMq ‹_› (by walk_at "g") ?_ (by kernel_rfl)
  k_dflt (refine' name_B ‹_› (by k_asm) (by k_asm) (by k_is) (by boot_by_name) (by decide) ?_)
  refine wpAny_is_self (by rfl) ?_
  refine wpAny_truthy_bool ?_
  rw [if_pos rfl]
  refine oneN ?_
  refine wpAny_Return_some ?_
  refine' ldMq ‹_› (by walk_at "g") ?_ (by kernel_rfl)
  with_reducible refine hR'.other (fun hf => Flow.noConfusion hf) ?_
  clear hR' R'
  with_reducible refine hQ' _ _ ?_
  clear hQ' Q'
  refine ⟨_, _, _, by assumption, by assumption, fun kp => ?_⟩
  dsimp only
  all_goals (refine hret _ _ _ ?_ (by assumption); rfl)
theorem c_truth : PureFn w loose mean mg mb 1 92 [.bool false] [] (fun _ => True) (fun v _ => v = .bool false) := by
  unfold PureFn
  k_fill
  intro dp un gd outer base s Q E hB hX hT hdp hun hpre hret
  refine wpAny_call ?_
  refine' enterP (news := []) (binds := [(Str.ofString "x", .bool false)]) ?kX ?kT ?ksz ?kst ?kn ?k6 ?k7 ?k8 ?k9 ?kB ?knd ?_ ?c2 ?c3 ?c4 ?c5
  case kX => assumption
  case kT => assumption
  case ksz => exact Nat.le_refl _
  case kst => exact fun _ _ e => e
  case kn => exact fun _ hq => nomatch hq
  case knd => exact List.nodup_nil
  case k6 => k_is
  case k7 => k_is
  case k8 => k_room
  case k9 => first | exact BindsTo.of_eq (by kernel_rfl!) | exact binds_K (by k_in) rfl (by k_is) rfl rfl rfl | fail "enter: no rule for these arguments"
  case c5 => decide
  case kB => exact locs rfl
  case c2 => exact rfl
  case c3 => exact rfl
  case c4 => exact rfl
  intro L' h' F' N' l1 Q' hQ'; clear l1
  change Fr _ _ _ (mp [_]) at F'
  show wpAny _ _ (execs (_ :: _) _) _ _ _
  refine seqG ?_
  intro R' hR'
  refine wpAny_Assign_Name ?_
  refine Call_ ?_
  k_dflt (refine' name_B ‹_› (by k_asm) (by k_asm) (by k_is) (by boot_by_name) (by decide) ?_)
  refine PyProof.Rows.callWith_type1 ?_
  refine args_cons ?_
  refine' ldMq ‹_› (by walk_at "g") ?_ (by kernel_rfl)
  refine args_nil ?_
  try dsimp only [List.cons_append, List.nil_append]
  walk_at "call type:type"
  rename Fr _ _ _ _ => oldF
  rename Led _ _ _ _ => oldN
  refine' stMq oldF oldN (by (walk_at "m")) ?_ (by kernel_rfl)
  intro _ _ F' N'
  clear oldF oldN
  refine hR'.next ?_
  clear hR' R'
  refine seqG ?_
  intro R' hR'
  refine wpAny_If ?_
  walk_at "isTrue BoolOp"
  refine wpAny_isTrue_Compare1 ?_
  refine' ldMq ‹_› (by walk_at "g") ?_ (by kernel_rfl)
  walk_at "eval Constant none"
  refine wpAny_is_other (by rfl) (by intro hh; cases hh) ?_
  refine wpAny_truthy_bool ?_
  rw [if_neg Bool.false_ne_true]
  walk_at "isTrue BoolOp"
  refine wpAny_isTrue_Compare1 ?_
  refine' ldMq ‹_› (by walk_at "g") ?_ (by kernel_rfl)
  k_dflt (refine' name_B ‹_› (by k_asm) (by k_asm) (by k_is) (by boot_by_name) (by decide) ?_)
  refine wpAny_is_self (by rfl) ?_
  refine wpAny_truthy_bool ?_
  rw [if_pos rfl]
  rw [if_pos rfl]
  refine oneN ?_
  refine wpAny_Return_some ?_
  walk_at "eval IfExp"
  refine isTrue_plain ?_
  refine' ldMq ‹_› (by walk_at "g") ?_ (by kernel_rfl)
  refine wpAny_truthy_bool ?_
  rw [if_neg Bool.false_ne_true]
  refine Constant_bool ?_
  with_reducible refine hR'.other (fun hf => Flow.noConfusion hf) ?_
  clear hR' R'
  with_reducible refine hQ' _ _ ?_
  clear hQ' Q'
  refine ⟨_, _, _, by assumption, by assumption, fun kp => ?_⟩
  dsimp only
  all_goals (refine hret _ _ _ ?_ (by assumption); rfl)
theorem bv1 {c : Int} (h : 65 ≤ c) (h2 : c ≤ 90) : c - 65 = bval c := (if_pos ⟨h, h2⟩).symm
theorem bv2 {c : Int} (h : 97 ≤ c) (h2 : c ≤ 122) : c - 71 = bval c := ((if_neg (fun x => by omega)).trans (if_pos ⟨h, h2⟩)).symm
theorem bv3 {c : Int} (h : 48 ≤ c) (h2 : c ≤ 57) : c + 4 = bval c := ((if_neg (fun x => by omega)).trans ((if_neg (fun x => by omega)).trans (if_pos ⟨h, h2⟩))).symm
theorem bv4 {c : Int} (h : c = 43) : 62 = bval c := by subst h; rfl
theorem bv5 {c : Int} (h : c = 47) : 63 = bval c := by subst h; rfl
theorem bv6 {c : Int} (h1 : ¬(65 ≤ c ∧ c ≤ 90)) (h2 : ¬(97 ≤ c ∧ c ≤ 122)) (h3 : ¬(48 ≤ c ∧ c ≤ 57)) (h4 : c ≠ 43) (h5 : c ≠ 47) : 64 = bval c := ((if_neg h1).trans ((if_neg h2).trans ((if_neg h3).trans ((if_neg h4).trans (if_neg h5))))).symm
theorem c_bval (c : Int) (t : Tok) : PureFn w loose mean mg mb 1 99 [.int c t] [] (fun _ => True) (fun v _ => ∃ t', v = .int (bval c) t') := by
  unfold PureFn
  k_fill
  intro dp un gd outer base s Q E hB hX hT hdp hun hpre hret
  refine wpAny_call ?_
  refine' enterP (news := []) (binds := [(Str.ofString "c", .int c t)]) ?kX ?kT ?ksz ?kst ?kn ?k6 ?k7 ?k8 ?k9 ?kB ?knd ?_ ?c2 ?c3 ?c4 ?c5
  case kX => assumption
  case kT => assumption
  case ksz => exact Nat.le_refl _
  case kst => exact fun _ _ e => e
  case kn => exact fun _ hq => nomatch hq
  case knd => exact List.nodup_nil
  case k6 => k_is
  case k7 => k_is
  case k8 => k_room
  case k9 => first | exact BindsTo.of_eq (by kernel_rfl!) | exact binds_K (by k_in) rfl (by k_is) rfl rfl rfl | fail "enter: no rule for these arguments"
  case c5 => decide
  case kB => exact locs rfl
  case c2 => exact rfl
  case c3 => exact rfl
  case c4 => exact rfl
  intro L' h' F' N' l1 Q' hQ'; clear l1
  change Fr _ _ _ (mp [_]) at F'
  show wpAny _ _ (execs (_ :: _) _) _ _ _
  refine seqG ?_
  intro R' hR'
  refine wpAny_If ?_
  refine isTrue_chain ?_ (by kernel_rfl)
  refine constIntM ?_
  with_reducible refine test_link ?_
  refine' ldMq ‹_› (by walk_at "g") ?_ (by kernel_rfl)
  with_reducible refine le_int ?_
  refine wpAny_truthy_bool ?_
  focus
   refine split_dec ?_ ?_ <;> intro _
   with_reducible refine test_lastE ?_
   refine constIntM ?_
   with_reducible refine le_int ?_
   refine wpAny_truthy_bool ?_
   focus
    refine split_dec ?_ ?_ <;> intro _
    refine oneN ?_
    refine wpAny_Return_some ?_
    with_reducible refine wpAny_BinOp ?_
    refine' ldMq ‹_› (by walk_at "g") ?_ (by kernel_rfl)
    refine constIntM ?_
    with_reducible refine subM ?_
    with_reducible refine hR'.other (fun hf => Flow.noConfusion hf) ?_
    clear hR' R'
    with_reducible refine hQ' _ _ ?_
    clear hQ' Q'
    refine ⟨_, _, _, by assumption, by assumption, fun kp => ?_⟩
    dsimp only
    rotate_left
    refine wpAny_execs_nil ?_
    refine hR'.next ?_
    clear hR' R'
    refine seqG ?_
    intro R' hR'
    refine wpAny_If ?_
    refine isTrue_chain ?_ (by kernel_rfl)
    refine constIntM ?_
    with_reducible refine test_link ?_
    refine' ldMq ‹_› (by walk_at "g") ?_ (by kernel_rfl)
    with_reducible refine le_int ?_
    refine wpAny_truthy_bool ?_
    focus
     refine split_dec ?_ ?_ <;> intro _
     with_reducible refine test_lastE ?_
     refine constIntM ?_
     with_reducible refine le_int ?_
     refine wpAny_truthy_bool ?_
     focus
      refine split_dec ?_ ?_ <;> intro _
      refine oneN ?_
      refine wpAny_Return_some ?_
      with_reducible refine wpAny_BinOp ?_
      refine' ldMq ‹_› (by walk_at "g") ?_ (by kernel_rfl)
      refine constIntM ?_
      with_reducible refine subM ?_
      with_reducible refine hR'.other (fun hf => Flow.noConfusion hf) ?_
      clear hR' R'
      with_reducible refine hQ' _ _ ?_
      clear hQ' Q'
      refine ⟨_, _, _, by assumption, by assumption, fun kp => ?_⟩
      dsimp only
      rotate_left
      refine wpAny_execs_nil ?_
      refine hR'.next ?_
      clear hR' R'
      refine seqG ?_
      intro R' hR'
      refine wpAny_If ?_
      refine isTrue_chain ?_ (by kernel_rfl)
      refine constIntM ?_
      with_reducible refine test_link ?_
      refine' ldMq ‹_› (by walk_at "g") ?_ (by kernel_rfl)
      with_reducible refine le_int ?_
      refine wpAny_truthy_bool ?_
      rw [if_pos (by first | decide | (apply decide_eq_true; lia))]
      with_reducible refine test_lastE ?_
      refine constIntM ?_
      with_reducible refine le_int ?_
      refine wpAny_truthy_bool ?_
      rw [if_neg (by first | decide | (intro hh; have := of_decide_eq_true hh; lia))]
      refine wpAny_execs_nil ?_
      refine hR'.next ?_
      clear hR' R'
      refine seqG ?_
      intro R' hR'
      refine wpAny_If ?_
      refine wpAny_isTrue_Compare1 ?_
      refine' ldMq ‹_› (by walk_at "g") ?_ (by kernel_rfl)
      refine constIntM ?_
      with_reducible refine eq_int ?_
      refine wpAny_truthy_bool ?_
      rw [if_neg (by first | decide | (intro hh; have := beq_iff_eq.mp hh; lia))]
      refine wpAny_execs_nil ?_
      refine hR'.next ?_
      clear hR' R'
      refine seqG ?_
      intro R' hR'
      refine wpAny_If ?_
      refine wpAny_isTrue_Compare1 ?_
      refine' ldMq ‹_› (by walk_at "g") ?_ (by kernel_rfl)
      refine constIntM ?_
      with_reducible refine eq_int ?_
      refine wpAny_truthy_bool ?_
      rw [if_neg (by first | decide | (intro hh; have := beq_iff_eq.mp hh; lia))]
      refine wpAny_execs_nil ?_
      refine hR'.next ?_
      clear hR' R'
      refine oneN ?_
      refine wpAny_Return_some ?_
      refine constIntM ?_
      with_reducible refine hQ' _ _ ?_
      clear hQ' Q'
      refine ⟨_, _, _, by assumption, by assumption, fun kp => ?_⟩
      dsimp only
      rotate_left
     rotate_left 2
     rw [if_neg Bool.false_ne_true]
     refine wpAny_execs_nil ?_
     refine hR'.next ?_
     clear hR' R'
     refine seqG ?_
     intro R' hR'
     refine wpAny_If ?_
     refine isTrue_chain ?_ (by kernel_rfl)
     refine constIntM ?_
     with_reducible refine test_link ?_
     refine' ldMq ‹_› (by walk_at "g") ?_ (by kernel_rfl)
     with_reducible refine le_int ?_
     refine wpAny_truthy_bool ?_
     rw [if_pos (by first | decide | (apply decide_eq_true; lia))]
     with_reducible refine test_lastE ?_
     refine constIntM ?_
     with_reducible refine le_int ?_
     refine wpAny_truthy_bool ?_
     rw [if_neg (by first | decide | (intro hh; have := of_decide_eq_true hh; lia))]
     refine wpAny_execs_nil ?_
     refine hR'.next ?_
     clear hR' R'
     refine seqG ?_
     intro R' hR'
     refine wpAny_If ?_
     refine wpAny_isTrue_Compare1 ?_
     refine' ldMq ‹_› (by walk_at "g") ?_ (by kernel_rfl)
     refine constIntM ?_
     with_reducible refine eq_int ?_
     refine wpAny_truthy_bool ?_
     rw [if_neg (by first | decide | (intro hh; have := beq_iff_eq.mp hh; lia))]
     refine wpAny_execs_nil ?_
     refine hR'.next ?_
     clear hR' R'
     refine seqG ?_
     intro R' hR'
     refine wpAny_If ?_
     refine wpAny_isTrue_Compare1 ?_
     refine' ldMq ‹_› (by walk_at "g") ?_ (by kernel_rfl)
     refine constIntM ?_
     with_reducible refine eq_int ?_
     refine wpAny_truthy_bool ?_
     rw [if_neg (by first | decide | (intro hh; have := beq_iff_eq.mp hh; lia))]
     refine wpAny_execs_nil ?_
     refine hR'.next ?_
     clear hR' R'
     refine oneN ?_
     refine wpAny_Return_some ?_
     refine constIntM ?_
     with_reducible refine hQ' _ _ ?_
     clear hQ' Q'
     refine ⟨_, _, _, by assumption, by assumption, fun kp => ?_⟩
     dsimp only
     rotate_left
    rotate_left 3
   rotate_left 4
   rw [if_neg Bool.false_ne_true]
   refine wpAny_execs_nil ?_
   refine hR'.next ?_
   clear hR' R'
   refine seqG ?_
   intro R' hR'
   refine wpAny_If ?_
   refine isTrue_chain ?_ (by kernel_rfl)
   refine constIntM ?_
   with_reducible refine test_link ?_
   refine' ldMq ‹_› (by walk_at "g") ?_ (by kernel_rfl)
   with_reducible refine le_int ?_
   refine wpAny_truthy_bool ?_
   rw [if_neg (by first | decide | (intro hh; have := of_decide_eq_true hh; lia))]
   rw [if_neg Bool.false_ne_true]
   refine wpAny_execs_nil ?_
   refine hR'.next ?_
   clear hR' R'
   refine seqG ?_
   intro R' hR'
   refine wpAny_If ?_
   refine isTrue_chain ?_ (by kernel_rfl)
   refine constIntM ?_
   with_reducible refine test_link ?_
   refine' ldMq ‹_› (by walk_at "g") ?_ (by kernel_rfl)
   with_reducible refine le_int ?_
   refine wpAny_truthy_bool ?_
   focus
    refine split_dec ?_ ?_ <;> intro _
    with_reducible refine test_lastE ?_
    refine constIntM ?_
    with_reducible refine le_int ?_
    refine wpAny_truthy_bool ?_
    focus
     refine split_dec ?_ ?_ <;> intro _
     refine oneN ?_
     refine wpAny_Return_some ?_
     with_reducible refine wpAny_BinOp ?_
     refine' ldMq ‹_› (by walk_at "g") ?_ (by kernel_rfl)
     refine constIntM ?_
     with_reducible refine addM ?_
     with_reducible refine hR'.other (fun hf => Flow.noConfusion hf) ?_
     clear hR' R'
     with_reducible refine hQ' _ _ ?_
     clear hQ' Q'
     refine ⟨_, _, _, by assumption, by assumption, fun kp => ?_⟩
     dsimp only
     rotate_left
     refine wpAny_execs_nil ?_
     refine hR'.next ?_
     clear hR' R'
     refine seqG ?_
     intro R' hR'
     refine wpAny_If ?_
     refine wpAny_isTrue_Compare1 ?_
     refine' ldMq ‹_› (by walk_at "g") ?_ (by kernel_rfl)
     refine constIntM ?_
     with_reducible refine eq_int ?_
     refine wpAny_truthy_bool ?_
     rw [if_neg (by first | decide | (intro hh; have := beq_iff_eq.mp hh; lia))]
     refine wpAny_execs_nil ?_
     refine hR'.next ?_
     clear hR' R'
     refine seqG ?_
     intro R' hR'
     refine wpAny_If ?_
     refine wpAny_isTrue_Compare1 ?_
     refine' ldMq ‹_› (by walk_at "g") ?_ (by kernel_rfl)
     refine constIntM ?_
     with_reducible refine eq_int ?_
     refine wpAny_truthy_bool ?_
     rw [if_neg (by first | decide | (intro hh; have := beq_iff_eq.mp hh; lia))]
     refine wpAny_execs_nil ?_
     refine hR'.next ?_
     clear hR' R'
     refine oneN ?_
     refine wpAny_Return_some ?_
     refine constIntM ?_
     with_reducible refine hQ' _ _ ?_
     clear hQ' Q'
     refine ⟨_, _, _, by assumption, by assumption, fun kp => ?_⟩
     dsimp only
     rotate_left
    rotate_left 2
    rw [if_neg Bool.false_ne_true]
    refine wpAny_execs_nil ?_
    refine hR'.next ?_
    clear hR' R'
    refine seqG ?_
    intro R' hR'
    refine wpAny_If ?_
    refine wpAny_isTrue_Compare1 ?_
    refine' ldMq ‹_› (by walk_at "g") ?_ (by kernel_rfl)
    refine constIntM ?_
    with_reducible refine eq_int ?_
    refine wpAny_truthy_bool ?_
    focus
     refine split_bool ?_ ?_ <;> intro hb <;> (first | (have := eq_of_beq hb; clear hb) | (have := ne_of_beq_false hb; clear hb))
     refine oneN ?_
     refine wpAny_Return_some ?_
     refine constIntM ?_
     with_reducible refine hR'.other (fun hf => Flow.noConfusion hf) ?_
     clear hR' R'
     with_reducible refine hQ' _ _ ?_
     clear hQ' Q'
     refine ⟨_, _, _, by assumption, by assumption, fun kp => ?_⟩
     dsimp only
     rotate_left
     refine wpAny_execs_nil ?_
     refine hR'.next ?_
     clear hR' R'
     refine seqG ?_
     intro R' hR'
     refine wpAny_If ?_
     refine wpAny_isTrue_Compare1 ?_
     refine' ldMq ‹_› (by walk_at "g") ?_ (by kernel_rfl)
     refine constIntM ?_
     with_reducible refine eq_int ?_
     refine wpAny_truthy_bool ?_
     focus
      refine split_bool ?_ ?_ <;> intro hb <;> (first | (have := eq_of_beq hb; clear hb) | (have := ne_of_beq_false hb; clear hb))
      refine oneN ?_
      refine wpAny_Return_some ?_
      refine constIntM ?_
      with_reducible refine hR'.other (fun hf => Flow.noConfusion hf) ?_
      clear hR' R'
      with_reducible refine hQ' _ _ ?_
      clear hQ' Q'
      refine ⟨_, _, _, by assumption, by assumption, fun kp => ?_⟩
      dsimp only
      rotate_left
      refine wpAny_execs_nil ?_
      refine hR'.next ?_
      clear hR' R'
      refine oneN ?_
      refine wpAny_Return_some ?_
      refine constIntM ?_
      with_reducible refine hQ' _ _ ?_
      clear hQ' Q'
      refine ⟨_, _, _, by assumption, by assumption, fun kp => ?_⟩
      dsimp only
      rotate_left
     rotate_left 2
    rotate_left 3
   rotate_left 5
  all_goals (refine hret _ _ _ ⟨_, congrArg (fun z => Value.int z _) ?_⟩ (by assumption); first | exact bv1 (by walk_at "oml") (by walk_at "oml") | exact bv2 (by walk_at "oml") (by walk_at "oml") | exact bv3 (by walk_at "oml") (by walk_at "oml") | exact bv4 (by walk_at "oml") | exact bv5 (by walk_at "oml") | exact bv6 (by walk_at "oml") (by walk_at "oml") (by walk_at "oml") (by walk_at "oml") (by walk_at "oml"))
theorem c_bvalE (c f : Int) (t : Tok) (h : bval c = f) : PureFn w loose mean mg mb 1 99 [.int c t] [] (fun _ => True) (fun v _ => ∃ t', v = .int f t') := h ▸ c_bval w loose mean mg mb c t
end
end
section
section
variable (w : World) (loose : List Str) (mean : ExcName → Option Value) (mg mb : Str → Option Value)
theorem c_b2a (b : Array UInt8) (x y z : Int) (t : Tok) (hx : 0 ≤ x ∧ x < 256) (hy : 0 ≤ y ∧ y < 256) (hz : 0 ≤ z ∧ z < 256) (hb : KBw.bInts b = [x,y,z]) :
   PureFn w loose mean mg mb 2 115 [.bytes b t] [(Str.ofString "newline", .bool false)] (fun _ => True)
     (fun v _ => ∃ c u, v = .bytes c u ∧ KBw.bInts c = [sgn (x / 4), sgn (x % 4 * 16 + y / 16), sgn (y % 16 * 4 + z / 64), sgn (z % 64)]) := by
  unfold PureFn
  k_fill
  intro dp un gd outer base s Q E hB hX hT hdp hun hpre hret
  refine wpAny_call ?_
  refine' enterP (news := []) (binds := [(Str.ofString "data", .bytes b t), (Str.ofString "newline", .bool false)]) ?kX ?kT ?ksz ?kst ?kn ?k6 ?k7 ?k8 ?k9 ?kB ?knd ?_ ?c2 ?c3 ?c4 ?c5
  case kX => assumption
  case kT => assumption
  case ksz => exact Nat.le_refl _
  case kst => exact fun _ _ e => e
  case kn => exact fun _ hq => nomatch hq
  case knd => exact List.nodup_nil
  case k6 => k_is
  case k7 => k_is
  case k8 => k_room
  case k9 => first | exact BindsTo.of_eq (by kernel_rfl!) | exact binds_K (by k_in) rfl (by k_is) rfl rfl rfl | fail "enter: no rule for these arguments"
  case c5 => decide
  case kB => exact locs rfl
  case c2 => exact rfl
  case c3 => exact rfl
  case c4 => exact rfl
  intro L' h' F' N' l1 Q' hQ'; clear l1
  change Fr _ _ _ (mp [_, _]) at F'
  show wpAny _ _ (execs (_ :: _) _) _ _ _
  refine seqG ?_
  intro R' hR'
  refine wpAny_Assign_Name ?_
  refine Call_ ?_
  k_dflt (refine' name_K ‹_› (by k_asm) (by k_asm) (by k_is) ?_)
  k_dflt (refine' callWith_K (by k_asm) (by k_is) ?_)
  refine args_cons ?_
  refine' ldMq ‹_› (by walk_at "g") ?_ (by kernel_rfl)
  refine args_nil ?_
  try dsimp only [List.cons_append, List.nil_append]
  refine ⟨by k_in, ?_⟩
  try dsimp only [List.nil_append, List.cons_append]
  rename Fr _ _ _ _ => oldF
  rename Led _ _ _ _ => oldN
  refine' PureFn.use (c_buffer _ _ _ _ _ _ _) ?hB oldF ?hX ?hT oldN ?hd ?hu (trivial) ?_
  case hB => assumption
  case hX => assumption
  case hT => assumption
  case hd => omega
  case hu => omega
  intro v' h' tk' hv F' N' kk
  clear oldF oldN
  subst hv
  rename Fr _ _ _ _ => oldF
  rename Led _ _ _ _ => oldN
  refine' stMbq oldF oldN (by (intro t; walk_at "m")) ?_ (by kernel_rfl)
  intro _ _ _ F' N'
  clear oldF oldN
  refine hR'.next ?_
  clear hR' R'
  refine seqG ?_
  intro R' hR'
  refine wpAny_Assign_Name ?_
  refine Call_ ?_
  k_dflt (refine' name_K ‹_› (by k_asm) (by k_asm) (by k_is) ?_)
  k_dflt (refine' callWith_K (by k_asm) (by k_is) ?_)
  refine args_cons ?_
  refine' ldMq ‹_› (by walk_at "g") ?_ (by kernel_rfl)
  refine args_nil ?_
  try dsimp only [List.cons_append, List.nil_append]
  refine ⟨by k_in, ?_⟩
  try dsimp only [List.nil_append, List.cons_append]
  rename Fr _ _ _ _ => oldF
  rename Led _ _ _ _ => oldN
  refine' PureFn.use (c_truth _ _ _ _ _) ?hB oldF ?hX ?hT oldN ?hd ?hu (trivial) ?_
  case hB => assumption
  case hX => assumption
  case hT => assumption
  case hd => omega
  case hu => omega
  intro v' h' tk' hv F' N' kk
  clear oldF oldN
  subst hv
  rename Fr _ _ _ _ => oldF
  rename Led _ _ _ _ => oldN
  refine' stMq oldF oldN (by (walk_at "m")) ?_ (by kernel_rfl)
  intro _ _ F' N'
  clear oldF oldN
  refine hR'.next ?_
  clear hR' R'
  refine seqG ?_
  intro R' hR'
  refine wpAny_Assign_Name ?_
  refine List_ ?_
  refine args_nil ?_
  try dsimp only [List.cons_append, List.nil_append]
  rename Fr _ _ _ _ => oldF
  rename Led _ _ _ _ => oldN
  refine newList_M oldF oldN ?_
  intro a' h' F' N'
  clear oldF oldN
  rename Fr _ _ _ _ => oldF
  rename Led _ _ _ _ => oldN
  refine' stMq oldF oldN (by (walk_at "m")) ?_ (by kernel_rfl)
  intro _ _ F' N'
  clear oldF oldN
  refine hR'.next ?_
  clear hR' R'
  refine seqG ?_
  intro R' hR'
  refine wpAny_Assign_Name ?_
  refine constIntM ?_
  rename Fr _ _ _ _ => oldF
  rename Led _ _ _ _ => oldN
  refine' stMiq oldF oldN (by (intro t; walk_at "m")) ?_ (by kernel_rfl)
  intro _ _ _ F' N'
  clear oldF oldN
  refine hR'.next ?_
  clear hR' R'
  refine seqG ?_
  intro R' hR'
  refine wpAny_Assign_Name ?_
  refine constIntM ?_
  rename Fr _ _ _ _ => oldF
  rename Led _ _ _ _ => oldN
  refine' stMiq oldF oldN (by (intro t; walk_at "m")) ?_ (by kernel_rfl)
  intro _ _ _ F' N'
  clear oldF oldN
  refine hR'.next ?_
  clear hR' R'
  refine seqG ?_
  intro R' hR'
  refine For_invVF (by assumption) rfl rfl ?_
  refine' ldMq ‹_› (by walk_at "g") ?_ (by kernel_rfl)
  rename Fr _ _ _ _ => oldF
  rename Led _ _ _ _ => oldN
  refine iter_bytesM (by rfl) oldF oldN (by assumption) ?_
  clear oldF oldN
  intro I'
  refine' ⟨_, fun t => ?z9e, ?_⟩
  case z9e => walk_at "m"
  intro u' it' h' tk' F' N'
  refine nameQ ?_
  intro Q' hQ'
  refine seqG ?_
  intro R' hR'
  refine wpAny_Assign_Name ?_
  with_reducible refine wpAny_BinOp ?_
  with_reducible refine wpAny_BinOp ?_
  with_reducible refine wpAny_BinOp ?_
  refine' ldMq ‹_› (by walk_at "g") ?_ (by kernel_rfl)
  refine constIntM ?_
  with_reducible refine shl8 (by walk_at "om") (by walk_at "om") ?_
  refine' ldMq ‹_› (by walk_at "g") ?_ (by kernel_rfl)
  with_reducible refine bor8 (by walk_at "om") (by walk_at "om") (by walk_at "om") ?_
  refine constIntM ?_
  with_reducible refine band16 ?_
  rename Fr _ _ _ _ => oldF
  rename Led _ _ _ _ => oldN
  refine' stMiq oldF oldN (by (intro t; walk_at "m")) ?_ (by kernel_rfl)
  intro _ _ _ F' N'
  clear oldF oldN
  refine hR'.next ?_
  clear hR' R'
  refine seqG ?_
  intro R' hR'
  refine wpAny_Assign_Name ?_
  with_reducible refine wpAny_BinOp ?_
  refine' ldMq ‹_› (by walk_at "g") ?_ (by kernel_rfl)
  refine constIntM ?_
  with_reducible refine addM ?_
  rename Fr _ _ _ _ => oldF
  rename Led _ _ _ _ => oldN
  refine' stMiq oldF oldN (by (intro t; walk_at "m")) ?_ (by kernel_rfl)
  intro _ _ _ F' N'
  clear oldF oldN
  refine hR'.next ?_
  clear hR' R'
  refine oneN ?_
  refine whl_start 100 ?_
  refine whl_turn (by passes_own) ?_
  refine wpAny_isTrue_Compare1 ?_
  refine' ldMq ‹_› (by walk_at "g") ?_ (by kernel_rfl)
  refine constIntM ?_
  with_reducible refine ge_int ?_
  refine wpAny_truthy_bool ?_
  refine WhlIf.yes (by decide) ?_
  refine seqG ?_
  intro R' hR'
  refine wpAny_Expr_any ?_
  refine MethodCall_ ?_
  refine' ldMq ‹_› (by walk_at "g") ?_ (by kernel_rfl)
  refine listMethM (by assumption) (by k_mem) PySem.F.slot_list_append PySem.F.type_list_append ?_
  refine callWith_method1 ?_
  refine args_cons ?_
  refine Subscript_ ?_
  k_dflt (refine' name_K ‹_› (by k_asm) (by k_asm) (by k_is) ?_)
  with_reducible refine wpAny_BinOp ?_
  with_reducible refine wpAny_BinOp ?_
  refine' ldMq ‹_› (by walk_at "g") ?_ (by kernel_rfl)
  with_reducible refine wpAny_BinOp ?_
  refine' ldMq ‹_› (by walk_at "g") ?_ (by kernel_rfl)
  refine constIntM ?_
  with_reducible refine subM ?_
  with_reducible refine shr2 (by decide) ?_
  refine constIntM ?_
  with_reducible refine band6 ?_
  refine b64itemM (by kernel_rfl) (by walk_at "om") (by walk_at "om") ?_
  intro _ _
  refine args_nil ?_
  try dsimp only [List.cons_append, List.nil_append]
  rename Fr _ _ _ _ => oldF
  rename Led _ _ _ _ => oldN
  refine' appendM oldF oldN (by walk_at "s") ?_ (by k_size)
  intro h' F' N'
  clear oldF oldN
  refine hR'.next ?_
  clear hR' R'
  refine oneN ?_
  refine wpAny_Assign_Name ?_
  with_reducible refine wpAny_BinOp ?_
  refine' ldMq ‹_› (by walk_at "g") ?_ (by kernel_rfl)
  refine constIntM ?_
  with_reducible refine subM ?_
  rename Fr _ _ _ _ => oldF
  rename Led _ _ _ _ => oldN
  refine' stMiq oldF oldN (by (intro t; walk_at "m")) ?_ (by kernel_rfl)
  intro _ _ _ F' N'
  clear oldF oldN
  dsimp only [WhlPost]
  refine whl_turn (by passes_own) ?_
  refine wpAny_isTrue_Compare1 ?_
  refine' ldMq ‹_› (by walk_at "g") ?_ (by kernel_rfl)
  refine constIntM ?_
  with_reducible refine ge_int ?_
  refine wpAny_truthy_bool ?_
  refine WhlIf.no (by decide) ?_
  refine wpAny_execs_nil ?_
  with_reducible refine hQ' _ _ ?_
  clear hQ' Q'
  dsimp only [BPost]
  refine BEnd.intro (by assumption) (by assumption) ?_
  try (rename Fr _ _ _ _ => oldF; rename Led _ _ _ _ => oldN; clear oldF oldN)
  refine' ⟨_, fun t => ?z9e, ?_⟩
  case z9e => walk_at "m"
  intro u' it' h' tk' F' N'
  refine nameQ ?_
  intro Q' hQ'
  refine seqG ?_
  intro R' hR'
  refine wpAny_Assign_Name ?_
  with_reducible refine wpAny_BinOp ?_
  with_reducible refine wpAny_BinOp ?_
  with_reducible refine wpAny_BinOp ?_
  refine' ldMq ‹_› (by walk_at "g") ?_ (by kernel_rfl)
  refine constIntM ?_
  with_reducible refine shl8 (by walk_at "om") (by walk_at "om") ?_
  refine' ldMq ‹_› (by walk_at "g") ?_ (by kernel_rfl)
  with_reducible refine bor8 (by walk_at "om") (by walk_at "om") (by walk_at "om") ?_
  refine constIntM ?_
  with_reducible refine band16 ?_
  rename Fr _ _ _ _ => oldF
  rename Led _ _ _ _ => oldN
  refine' stMiq oldF oldN (by (intro t; walk_at "m")) ?_ (by kernel_rfl)
  intro _ _ _ F' N'
  clear oldF oldN
  refine hR'.next ?_
  clear hR' R'
  refine seqG ?_
  intro R' hR'
  refine wpAny_Assign_Name ?_
  with_reducible refine wpAny_BinOp ?_
  refine' ldMq ‹_› (by walk_at "g") ?_ (by kernel_rfl)
  refine constIntM ?_
  with_reducible refine addM ?_
  rename Fr _ _ _ _ => oldF
  rename Led _ _ _ _ => oldN
  refine' stMiq oldF oldN (by (intro t; walk_at "m")) ?_ (by kernel_rfl)
  intro _ _ _ F' N'
  clear oldF oldN
  refine hR'.next ?_
  clear hR' R'
  refine oneN ?_
  refine whl_start 100 ?_
  refine whl_turn (by passes_own) ?_
  refine wpAny_isTrue_Compare1 ?_
  refine' ldMq ‹_› (by walk_at "g") ?_ (by kernel_rfl)
  refine constIntM ?_
  with_reducible refine ge_int ?_
  refine wpAny_truthy_bool ?_
  refine WhlIf.yes (by decide) ?_
  refine seqG ?_
  intro R' hR'
  refine wpAny_Expr_any ?_
  refine MethodCall_ ?_
  refine' ldMq ‹_› (by walk_at "g") ?_ (by kernel_rfl)
  refine listMethM (by assumption) (by k_mem) PySem.F.slot_list_append PySem.F.type_list_append ?_
  refine callWith_method1 ?_
  refine args_cons ?_
  refine Subscript_ ?_
  k_dflt (refine' name_K ‹_› (by k_asm) (by k_asm) (by k_is) ?_)
  with_reducible refine wpAny_BinOp ?_
  with_reducible refine wpAny_BinOp ?_
  refine' ldMq ‹_› (by walk_at "g") ?_ (by kernel_rfl)
  with_reducible refine wpAny_BinOp ?_
  refine' ldMq ‹_› (by walk_at "g") ?_ (by kernel_rfl)
  refine constIntM ?_
  with_reducible refine subM ?_
  with_reducible refine shr4 (by decide) ?_
  refine constIntM ?_
  with_reducible refine band6 ?_
  refine b64itemM (by kernel_rfl) (by walk_at "om") (by walk_at "om") ?_
  intro _ _
  refine args_nil ?_
  try dsimp only [List.cons_append, List.nil_append]
  rename Fr _ _ _ _ => oldF
  rename Led _ _ _ _ => oldN
  refine' appendM oldF oldN (by walk_at "s") ?_ (by k_size)
  intro h' F' N'
  clear oldF oldN
  refine hR'.next ?_
  clear hR' R'
  refine oneN ?_
  refine wpAny_Assign_Name ?_
  with_reducible refine wpAny_BinOp ?_
  refine' ldMq ‹_› (by walk_at "g") ?_ (by kernel_rfl)
  refine constIntM ?_
  with_reducible refine subM ?_
  rename Fr _ _ _ _ => oldF
  rename Led _ _ _ _ => oldN
  refine' stMiq oldF oldN (by (intro t; walk_at "m")) ?_ (by kernel_rfl)
  intro _ _ _ F' N'
  clear oldF oldN
  dsimp only [WhlPost]
  refine whl_turn (by passes_own) ?_
  refine wpAny_isTrue_Compare1 ?_
  refine' ldMq ‹_› (by walk_at "g") ?_ (by kernel_rfl)
  refine constIntM ?_
  with_reducible refine ge_int ?_
  refine wpAny_truthy_bool ?_
  refine WhlIf.no (by decide) ?_
  refine wpAny_execs_nil ?_
  with_reducible refine hQ' _ _ ?_
  clear hQ' Q'
  dsimp only [BPost]
  refine BEnd.intro (by assumption) (by assumption) ?_
  try (rename Fr _ _ _ _ => oldF; rename Led _ _ _ _ => oldN; clear oldF oldN)
  refine' ⟨_, fun t => ?z9e, ?_⟩
  case z9e => walk_at "m"
  intro u' it' h' tk' F' N'
  refine nameQ ?_
  intro Q' hQ'
  refine seqG ?_
  intro R' hR'
  refine wpAny_Assign_Name ?_
  with_reducible refine wpAny_BinOp ?_
  with_reducible refine wpAny_BinOp ?_
  with_reducible refine wpAny_BinOp ?_
  refine' ldMq ‹_› (by walk_at "g") ?_ (by kernel_rfl)
  refine constIntM ?_
  with_reducible refine shl8 (by walk_at "om") (by walk_at "om") ?_
  refine' ldMq ‹_› (by walk_at "g") ?_ (by kernel_rfl)
  with_reducible refine bor8 (by walk_at "om") (by walk_at "om") (by walk_at "om") ?_
  refine constIntM ?_
  with_reducible refine band16 ?_
  rename Fr _ _ _ _ => oldF
  rename Led _ _ _ _ => oldN
  refine' stMiq oldF oldN (by (intro t; walk_at "m")) ?_ (by kernel_rfl)
  intro _ _ _ F' N'
  clear oldF oldN
  refine hR'.next ?_
  clear hR' R'
  refine seqG ?_
  intro R' hR'
  refine wpAny_Assign_Name ?_
  with_reducible refine wpAny_BinOp ?_
  refine' ldMq ‹_› (by walk_at "g") ?_ (by kernel_rfl)
  refine constIntM ?_
  with_reducible refine addM ?_
  rename Fr _ _ _ _ => oldF
  rename Led _ _ _ _ => oldN
  refine' stMiq oldF oldN (by (intro t; walk_at "m")) ?_ (by kernel_rfl)
  intro _ _ _ F' N'
  clear oldF oldN
  refine hR'.next ?_
  clear hR' R'
  refine oneN ?_
  refine whl_start 100 ?_
  refine whl_turn (by passes_own) ?_
  refine wpAny_isTrue_Compare1 ?_
  refine' ldMq ‹_› (by walk_at "g") ?_ (by kernel_rfl)
  refine constIntM ?_
  with_reducible refine ge_int ?_
  refine wpAny_truthy_bool ?_
  refine WhlIf.yes (by decide) ?_
  refine seqG ?_
  intro R' hR'
  refine wpAny_Expr_any ?_
  refine MethodCall_ ?_
  refine' ldMq ‹_› (by walk_at "g") ?_ (by kernel_rfl)
  refine listMethM (by assumption) (by k_mem) PySem.F.slot_list_append PySem.F.type_list_append ?_
  refine callWith_method1 ?_
  refine args_cons ?_
  refine Subscript_ ?_
  k_dflt (refine' name_K ‹_› (by k_asm) (by k_asm) (by k_is) ?_)
  with_reducible refine wpAny_BinOp ?_
  with_reducible refine wpAny_BinOp ?_
  refine' ldMq ‹_› (by walk_at "g") ?_ (by kernel_rfl)
  with_reducible refine wpAny_BinOp ?_
  refine' ldMq ‹_› (by walk_at "g") ?_ (by kernel_rfl)
  refine constIntM ?_
  with_reducible refine subM ?_
  with_reducible refine shr6 (by decide) ?_
  refine constIntM ?_
  with_reducible refine band6 ?_
  refine b64itemM (by kernel_rfl) (by walk_at "om") (by walk_at "om") ?_
  intro _ _
  refine args_nil ?_
  try dsimp only [List.cons_append, List.nil_append]
  rename Fr _ _ _ _ => oldF
  rename Led _ _ _ _ => oldN
  refine' appendM oldF oldN (by walk_at "s") ?_ (by k_size)
  intro h' F' N'
  clear oldF oldN
  refine hR'.next ?_
  clear hR' R'
  refine oneN ?_
  refine wpAny_Assign_Name ?_
  with_reducible refine wpAny_BinOp ?_
  refine' ldMq ‹_› (by walk_at "g") ?_ (by kernel_rfl)
  refine constIntM ?_
  with_reducible refine subM ?_
  rename Fr _ _ _ _ => oldF
  rename Led _ _ _ _ => oldN
  refine' stMiq oldF oldN (by (intro t; walk_at "m")) ?_ (by kernel_rfl)
  intro _ _ _ F' N'
  clear oldF oldN
  dsimp only [WhlPost]
  refine whl_turn (by passes_own) ?_
  refine wpAny_isTrue_Compare1 ?_
  refine' ldMq ‹_› (by walk_at "g") ?_ (by kernel_rfl)
  refine constIntM ?_
  with_reducible refine ge_int ?_
  refine wpAny_truthy_bool ?_
  refine WhlIf.yes (by decide) ?_
  refine seqG ?_
  intro R' hR'
  refine wpAny_Expr_any ?_
  refine MethodCall_ ?_
  refine' ldMq ‹_› (by walk_at "g") ?_ (by kernel_rfl)
  refine listMethM (by assumption) (by k_mem) PySem.F.slot_list_append PySem.F.type_list_append ?_
  refine callWith_method1 ?_
  refine args_cons ?_
  refine Subscript_ ?_
  k_dflt (refine' name_K ‹_› (by k_asm) (by k_asm) (by k_is) ?_)
  with_reducible refine wpAny_BinOp ?_
  with_reducible refine wpAny_BinOp ?_
  refine' ldMq ‹_› (by walk_at "g") ?_ (by kernel_rfl)
  with_reducible refine wpAny_BinOp ?_
  refine' ldMq ‹_› (by walk_at "g") ?_ (by kernel_rfl)
  refine constIntM ?_
  with_reducible refine subM ?_
  with_reducible refine shr0 (by decide) ?_
  refine constIntM ?_
  with_reducible refine band6 ?_
  refine b64itemM (by kernel_rfl) (by walk_at "om") (by walk_at "om") ?_
  intro _ _
  refine args_nil ?_
  try dsimp only [List.cons_append, List.nil_append]
  rename Fr _ _ _ _ => oldF
  rename Led _ _ _ _ => oldN
  refine' appendM oldF oldN (by walk_at "s") ?_ (by k_size)
  intro h' F' N'
  clear oldF oldN
  refine hR'.next ?_
  clear hR' R'
  refine oneN ?_
  refine wpAny_Assign_Name ?_
  with_reducible refine wpAny_BinOp ?_
  refine' ldMq ‹_› (by walk_at "g") ?_ (by kernel_rfl)
  refine constIntM ?_
  with_reducible refine subM ?_
  rename Fr _ _ _ _ => oldF
  rename Led _ _ _ _ => oldN
  refine' stMiq oldF oldN (by (intro t; walk_at "m")) ?_ (by kernel_rfl)
  intro _ _ _ F' N'
  clear oldF oldN
  dsimp only [WhlPost]
  refine whl_turn (by passes_own) ?_
  refine wpAny_isTrue_Compare1 ?_
  refine' ldMq ‹_› (by walk_at "g") ?_ (by kernel_rfl)
  refine constIntM ?_
  with_reducible refine ge_int ?_
  refine wpAny_truthy_bool ?_
  refine WhlIf.no (by decide) ?_
  refine wpAny_execs_nil ?_
  with_reducible refine hQ' _ _ ?_
  clear hQ' Q'
  dsimp only [BPost]
  refine BEnd.intro (by assumption) (by assumption) ?_
  try (rename Fr _ _ _ _ => oldF; rename Led _ _ _ _ => oldN; clear oldF oldN)
  intro h' tk' F' N'
  refine hR'.next ?_
  clear hR' R'
  refine seqG ?_
  intro R' hR'
  refine wpAny_If ?_
  refine wpAny_isTrue_Compare1 ?_
  refine' ldMq ‹_› (by walk_at "g") ?_ (by kernel_rfl)
  refine constIntM ?_
  with_reducible refine eq_int ?_
  refine wpAny_truthy_bool ?_
  rw [if_neg (by first | decide | (intro hh; have := beq_iff_eq.mp hh; omega))]
  refine oneN ?_
  refine wpAny_If ?_
  refine wpAny_isTrue_Compare1 ?_
  refine' ldMq ‹_› (by walk_at "g") ?_ (by kernel_rfl)
  refine constIntM ?_
  with_reducible refine eq_int ?_
  refine wpAny_truthy_bool ?_
  rw [if_neg (by first | decide | (intro hh; have := beq_iff_eq.mp hh; omega))]
  refine wpAny_execs_nil ?_
  refine hR'.next ?_
  clear hR' R'
  refine seqG ?_
  intro R' hR'
  refine wpAny_If ?_
  refine isTrue_plain ?_
  refine' ldMq ‹_› (by walk_at "g") ?_ (by kernel_rfl)
  refine wpAny_truthy_bool ?_
  rw [if_neg Bool.false_ne_true]
  refine wpAny_execs_nil ?_
  refine hR'.next ?_
  clear hR' R'
  refine oneN ?_
  refine wpAny_Return_some ?_
  refine Call_ ?_
  k_dflt (refine' name_B ‹_› (by k_asm) (by k_asm) (by k_is) (by boot_by_name) (by decide) ?_)
  refine PyProof.Rows.callWith_type1 ?_
  refine args_cons ?_
  refine' ldMq ‹_› (by walk_at "g") ?_ (by kernel_rfl)
  refine args_nil ?_
  try dsimp only [List.cons_append, List.nil_append]
  rename Fr _ _ _ _ => oldF
  rename Led _ _ _ _ => oldN
  refine' bytesM oldF oldN rfl (by k_mem) (by (first | (show IntsAre [_, _, _, _] _; exact IntsAre.cons _ _ (IntsAre.cons _ _ (IntsAre.cons _ _ (IntsAre.cons _ _ IntsAre.nil)))) | (show IntsAre [_, _, _] _; exact IntsAre.cons _ _ (IntsAre.cons _ _ (IntsAre.cons _ _ IntsAre.nil))))) (by (intro q hq; simp only [List.mem_cons, List.not_mem_nil, or_false] at hq; (first | (rcases hq with h1 | h1 | h1 | h1 <;> (subst h1; first | exact sgn_in _ | omega)) | (rcases hq with h1 | h1 | h1 <;> (subst h1; omega))))) (by (simp only [List.length_cons, List.length_nil]; decide)) ?_
  intro c' h' t' k' F' N' hc'
  clear oldF oldN
  with_reducible refine hQ' _ _ ?_
  clear hQ' Q'
  refine ⟨_, _, _, by assumption, by assumption, fun kp => ?_⟩
  dsimp only
  all_goals (refine hret _ _ _ ⟨_, _, rfl, ?_⟩ (by assumption); rename KBw.bInts _ = _ => hc; rw [hc]; congr 1; · congr 1; exact b2a1 hx
             congr 1; · congr 1; exact b2a2 hx hy
             congr 1; · congr 1; exact b2a3 hx hy hz
             congr 1; · congr 1; exact b2a4 hx hy hz)
end
end
section
section
variable (w : World) (loose : List Str) (mean : ExcName → Option Value) (mg mb : Str → Option Value)
theorem c_bfdd (b : Array UInt8) (t : Tok) : PureFn w loose mean mg mb 1 58 [.bytes b t] [] (fun _ => True) (fun v _ => v = .bytes b t) := by
  unfold PureFn
  k_fill
  intro dp un gd outer base s Q E hB hX hT hdp hun hpre hret
  refine wpAny_call ?_
  refine' enterP (news := []) (binds := [(Str.ofString "s", .bytes b t)]) ?kX ?kT ?ksz ?kst ?kn ?k6 ?k7 ?k8 ?k9 ?kB ?knd ?_ ?c2 ?c3 ?c4 ?c5
  case kX => assumption
  case kT => assumption
  case ksz => exact Nat.le_refl _
  case kst => exact fun _ _ e => e
  case kn => exact fun _ hq => nomatch hq
  case knd => exact List.nodup_nil
  case k6 => k_is
  case k7 => k_is
  case k8 => k_room
  case k9 => first | exact BindsTo.of_eq (by kernel_rfl!) | exact binds_K (by k_in) rfl (by k_is) rfl rfl rfl | fail "enter: no rule for these arguments"
  case c5 => decide
  case kB => exact locs rfl
  case c2 => exact rfl
  case c3 => exact rfl
  case c4 => exact rfl
  intro L' h' F' N' l1 Q' hQ'; clear l1
  change Fr _ _ _ (mp [_]) at F'
  show wpAny _ _ (execs (_ :: _) _) _ _ _
  refine seqG ?_
  intro R' hR'
  refine wpAny_If ?_
  refine isTrue_plain ?_
  refine Call_ ?_
  k_dflt (refine' name_B ‹_› (by k_asm) (by k_asm) (by k_is) (by boot_by_name) (by decide) ?_)
  refine callWith_method1 ?_
  refine args_cons ?_
  refine' ldMq ‹_› (by walk_at "g") ?_ (by kernel_rfl)
  refine args_cons ?_
  k_dflt (refine' name_B ‹_› (by k_asm) (by k_asm) (by k_is) (by boot_by_name) (by decide) ?_)
  refine args_nil ?_
  try dsimp only [List.cons_append, List.nil_append]
  walk_at "call builtin:isinstance"
  refine wpAny_truthy_bool ?_
  rw [if_neg Bool.false_ne_true]
  refine wpAny_execs_nil ?_
  refine hR'.next ?_
  clear hR' R'
  refine seqG ?_
  intro R' hR'
  refine wpAny_If ?_
  refine isTrue_plain ?_
  refine Call_ ?_
  k_dflt (refine' name_B ‹_› (by k_asm) (by k_asm) (by k_is) (by boot_by_name) (by decide) ?_)
  refine callWith_method1 ?_
  refine args_cons ?_
  refine' ldMq ‹_› (by walk_at "g") ?_ (by kernel_rfl)
  refine args_cons ?_
  k_dflt (refine' name_K ‹_› (by k_asm) (by k_asm) (by k_is) ?_)
  refine args_nil ?_
  try dsimp only [List.cons_append, List.nil_append]
  walk_at "call builtin:isinstance"
  refine wpAny_truthy_bool ?_
  rw [if_pos rfl]
  refine oneN ?_
  refine wpAny_Return_some ?_
  refine' ldMq ‹_› (by walk_at "g") ?_ (by kernel_rfl)
  with_reducible refine hR'.other (fun hf => Flow.noConfusion hf) ?_
  clear hR' R'
  with_reducible refine hQ' _ _ ?_
  clear hQ' Q'
  refine ⟨_, _, _, by assumption, by assumption, fun kp => ?_⟩
  dsimp only
  all_goals (refine hret _ _ _ ?_ (by assumption); rfl)
theorem c_ascii (b : Array UInt8) (t : Tok) : PureFn w loose mean mg mb 1 78 [.bytes b t] [] (fun _ => True) (fun v _ => v = .bytes b t) := by
  unfold PureFn
  k_fill
  intro dp un gd outer base s Q E hB hX hT hdp hun hpre hret
  refine wpAny_call ?_
  refine' enterP (news := []) (binds := [(Str.ofString "data", .bytes b t)]) ?kX ?kT ?ksz ?kst ?kn ?k6 ?k7 ?k8 ?k9 ?kB ?knd ?_ ?c2 ?c3 ?c4 ?c5
  case kX => assumption
  case kT => assumption
  case ksz => exact Nat.le_refl _
  case kst => exact fun _ _ e => e
  case kn => exact fun _ hq => nomatch hq
  case knd => exact List.nodup_nil
  case k6 => k_is
  case k7 => k_is
  case k8 => k_room
  case k9 => first | exact BindsTo.of_eq (by kernel_rfl!) | exact binds_K (by k_in) rfl (by k_is) rfl rfl rfl | fail "enter: no rule for these arguments"
  case c5 => decide
  case kB => exact locs rfl
  case c2 => exact rfl
  case c3 => exact rfl
  case c4 => exact rfl
  intro L' h' F' N' l1 Q' hQ'; clear l1
  change Fr _ _ _ (mp [_]) at F'
  show wpAny _ _ (execs (_ :: _) _) _ _ _
  refine seqG ?_
  intro R' hR'
  refine wpAny_Assign_Name ?_
  refine Call_ ?_
  k_dflt (refine' name_B ‹_› (by k_asm) (by k_asm) (by k_is) (by boot_by_name) (by decide) ?_)
  refine PyProof.Rows.callWith_type1 ?_
  refine args_cons ?_
  refine' ldMq ‹_› (by walk_at "g") ?_ (by kernel_rfl)
  refine args_nil ?_
  try dsimp only [List.cons_append, List.nil_append]
  refine call_type_of (Tx := "bytes") rfl (by decide +kernel) ?_
  rename Fr _ _ _ _ => oldF
  rename Led _ _ _ _ => oldN
  refine' stMq oldF oldN (by (walk_at "m")) ?_ (by kernel_rfl)
  intro _ _ F' N'
  clear oldF oldN
  refine hR'.next ?_
  clear hR' R'
  refine seqG ?_
  intro R' hR'
  refine wpAny_If ?_
  refine wpAny_isTrue_Compare1 ?_
  refine' ldMq ‹_› (by walk_at "g") ?_ (by kernel_rfl)
  k_dflt (refine' name_B ‹_› (by k_asm) (by k_asm) (by k_is) (by boot_by_name) (by decide) ?_)
  refine wpAny_is_other (by rfl) (by decide) ?_
  refine wpAny_truthy_bool ?_
  rw [if_neg Bool.false_ne_true]
  refine wpAny_execs_nil ?_
  refine hR'.next ?_
  clear hR' R'
  refine seqG ?_
  intro R' hR'
  refine wpAny_If ?_
  refine wpAny_isTrue_Compare1 ?_
  refine' ldMq ‹_› (by walk_at "g") ?_ (by kernel_rfl)
  k_dflt (refine' name_B ‹_› (by k_asm) (by k_asm) (by k_is) (by boot_by_name) (by decide) ?_)
  refine wpAny_is_self (by rfl) ?_
  refine wpAny_truthy_bool ?_
  rw [if_pos rfl]
  refine oneN ?_
  refine wpAny_Return_some ?_
  refine' ldMq ‹_› (by walk_at "g") ?_ (by kernel_rfl)
  with_reducible refine hR'.other (fun hf => Flow.noConfusion hf) ?_
  clear hR' R'
  with_reducible refine hQ' _ _ ?_
  clear hQ' Q'
  refine ⟨_, _, _, by assumption, by assumption, fun kp => ?_⟩
  dsimp only
  all_goals (refine hret _ _ _ ?_ (by assumption); rfl)
end
end
section
section
variable (w : World) (loose : List Str) (mean : ExcName → Option Value) (mg mb : Str → Option Value)
theorem c_a2b (b : Array UInt8) (c0 c1 c2 c3 f0 f1 f2 f3 : Int) (t : Tok) (hb : KBw.bInts b = [c0, c1, c2, c3])
   (hc : c0 ≠ 61 ∧ c1 ≠ 61 ∧ c2 ≠ 61 ∧ c3 ≠ 61) (h0 : bval c0 = f0) (h1 : bval c1 = f1) (h2 : bval c2 = f2) (h3 : bval c3 = f3)
   (hf : (0 ≤ f0 ∧ f0 < 64) ∧ (0 ≤ f1 ∧ f1 < 64) ∧ (0 ≤ f2 ∧ f2 < 64) ∧ (0 ≤ f3 ∧ f3 < 64)) :
   PureFn w loose mean mg mb 2 107 [.bytes b t] [(Str.ofString "strict_mode", .bool false)] (fun _ => True)
     (fun v _ => ∃ c u, v = .bytes c u ∧ KBw.bInts c = [f0 * 4 + f1 / 16, f1 % 16 * 16 + f2 / 4, f2 % 4 * 64 + f3]) := by
  unfold PureFn
  k_fill
  intro dp un gd outer base s Q E hB hX hT hdp hun hpre hret
  refine wpAny_call ?_
  refine' enterP (news := []) (binds := [(Str.ofString "data", .bytes b t), (Str.ofString "strict_mode", .bool false)]) ?kX ?kT ?ksz ?kst ?kn ?k6 ?k7 ?k8 ?k9 ?kB ?knd ?_ ?c2 ?c3 ?c4 ?c5
  case kX => assumption
  case kT => assumption
  case ksz => exact Nat.le_refl _
  case kst => exact fun _ _ e => e
  case kn => exact fun _ hq => nomatch hq
  case knd => exact List.nodup_nil
  case k6 => k_is
  case k7 => k_is
  case k8 => k_room
  case k9 => first | exact BindsTo.of_eq (by kernel_rfl!) | exact binds_K (by k_in) rfl (by k_is) rfl rfl rfl | fail "enter: no rule for these arguments"
  case c5 => decide
  case kB => exact locs rfl
  case c2 => exact rfl
  case c3 => exact rfl
  case c4 => exact rfl
  intro L' h' F' N' l1 Q' hQ'; clear l1
  change Fr _ _ _ (mp [_, _]) at F'
  show wpAny _ _ (execs (_ :: _) _) _ _ _
  refine seqG ?_
  intro R' hR'
  refine wpAny_Assign_Name ?_
  refine Call_ ?_
  k_dflt (refine' name_K ‹_› (by k_asm) (by k_asm) (by k_is) ?_)
  k_dflt (refine' callWith_K (by k_asm) (by k_is) ?_)
  refine args_cons ?_
  refine' ldMq ‹_› (by walk_at "g") ?_ (by kernel_rfl)
  refine args_nil ?_
  try dsimp only [List.cons_append, List.nil_append]
  refine ⟨by k_in, ?_⟩
  try dsimp only [List.nil_append, List.cons_append]
  rename Fr _ _ _ _ => oldF
  rename Led _ _ _ _ => oldN
  refine' PureFn.use (c_ascii _ _ _ _ _ _ _) ?hB oldF ?hX ?hT oldN ?hd ?hu (trivial) ?_
  case hB => assumption
  case hX => assumption
  case hT => assumption
  case hd => omega
  case hu => omega
  intro v' h' tk' hv F' N' kk
  clear oldF oldN
  subst hv
  rename Fr _ _ _ _ => oldF
  rename Led _ _ _ _ => oldN
  refine' stMbq oldF oldN (by (intro t; walk_at "m")) ?_ (by kernel_rfl)
  intro _ _ _ F' N'
  clear oldF oldN
  refine hR'.next ?_
  clear hR' R'
  refine seqG ?_
  intro R' hR'
  refine wpAny_Assign_Name ?_
  refine Call_ ?_
  k_dflt (refine' name_K ‹_› (by k_asm) (by k_asm) (by k_is) ?_)
  k_dflt (refine' callWith_K (by k_asm) (by k_is) ?_)
  refine args_cons ?_
  refine' ldMq ‹_› (by walk_at "g") ?_ (by kernel_rfl)
  refine args_nil ?_
  try dsimp only [List.cons_append, List.nil_append]
  refine ⟨by k_in, ?_⟩
  try dsimp only [List.nil_append, List.cons_append]
  rename Fr _ _ _ _ => oldF
  rename Led _ _ _ _ => oldN
  refine' PureFn.use (c_truth _ _ _ _ _) ?hB oldF ?hX ?hT oldN ?hd ?hu (trivial) ?_
  case hB => assumption
  case hX => assumption
  case hT => assumption
  case hd => omega
  case hu => omega
  intro v' h' tk' hv F' N' kk
  clear oldF oldN
  subst hv
  rename Fr _ _ _ _ => oldF
  rename Led _ _ _ _ => oldN
  refine' stMq oldF oldN (by (walk_at "m")) ?_ (by kernel_rfl)
  intro _ _ F' N'
  clear oldF oldN
  refine hR'.next ?_
  clear hR' R'
  refine seqG ?_
  intro R' hR'
  refine wpAny_Assign_Name ?_
  refine List_ ?_
  refine args_nil ?_
  try dsimp only [List.cons_append, List.nil_append]
  rename Fr _ _ _ _ => oldF
  rename Led _ _ _ _ => oldN
  refine newList_M oldF oldN ?_
  intro a' h' F' N'
  clear oldF oldN
  rename Fr _ _ _ _ => oldF
  rename Led _ _ _ _ => oldN
  refine' stMq oldF oldN (by (walk_at "m")) ?_ (by kernel_rfl)
  intro _ _ F' N'
  clear oldF oldN
  refine hR'.next ?_
  clear hR' R'
  refine seqG ?_
  intro R' hR'
  refine wpAny_Assign_Name ?_
  refine constIntM ?_
  rename Fr _ _ _ _ => oldF
  rename Led _ _ _ _ => oldN
  refine' stMiq oldF oldN (by (intro t; walk_at "m")) ?_ (by kernel_rfl)
  intro _ _ _ F' N'
  clear oldF oldN
  refine hR'.next ?_
  clear hR' R'
  refine seqG ?_
  intro R' hR'
  refine wpAny_Assign_Name ?_
  refine constIntM ?_
  rename Fr _ _ _ _ => oldF
  rename Led _ _ _ _ => oldN
  refine' stMiq oldF oldN (by (intro t; walk_at "m")) ?_ (by kernel_rfl)
  intro _ _ _ F' N'
  clear oldF oldN
  refine hR'.next ?_
  clear hR' R'
  refine seqG ?_
  intro R' hR'
  refine wpAny_Assign_Name ?_
  refine constIntM ?_
  rename Fr _ _ _ _ => oldF
  rename Led _ _ _ _ => oldN
  refine' stMiq oldF oldN (by (intro t; walk_at "m")) ?_ (by kernel_rfl)
  intro _ _ _ F' N'
  clear oldF oldN
  refine hR'.next ?_
  clear hR' R'
  refine seqG ?_
  intro R' hR'
  refine wpAny_Assign_Name ?_
  refine constIntM ?_
  rename Fr _ _ _ _ => oldF
  rename Led _ _ _ _ => oldN
  refine' stMiq oldF oldN (by (intro t; walk_at "m")) ?_ (by kernel_rfl)
  intro _ _ _ F' N'
  clear oldF oldN
  refine hR'.next ?_
  clear hR' R'
  refine seqG ?_
  intro R' hR'
  refine For_invVF (by assumption) rfl rfl ?_
  refine' ldMq ‹_› (by walk_at "g") ?_ (by kernel_rfl)
  rename Fr _ _ _ _ => oldF
  rename Led _ _ _ _ => oldN
  refine iter_bytesM (by rfl) oldF oldN (by assumption) ?_
  clear oldF oldN
  intro I'
  refine' ⟨_, fun t => ?z9e, ?_⟩
  case z9e => walk_at "m"
  intro u' it' h' tk' F' N'
  refine nameQ ?_
  intro Q' hQ'
  refine seqG ?_
  intro R' hR'
  refine wpAny_If ?_
  refine wpAny_isTrue_Compare1 ?_
  refine' ldMq ‹_› (by walk_at "g") ?_ (by kernel_rfl)
  refine constIntM ?_
  with_reducible refine eq_int ?_
  refine wpAny_truthy_bool ?_
  rw [if_neg (by first | decide | (intro hh; have := beq_iff_eq.mp hh; omega))]
  refine wpAny_execs_nil ?_
  refine hR'.next ?_
  clear hR' R'
  refine seqG ?_
  intro R' hR'
  refine wpAny_Assign_Name ?_
  refine Call_ ?_
  k_dflt (refine' name_K ‹_› (by k_asm) (by k_asm) (by k_is) ?_)
  k_dflt (refine' callWith_K (by k_asm) (by k_is) ?_)
  refine args_cons ?_
  refine' ldMq ‹_› (by walk_at "g") ?_ (by kernel_rfl)
  refine args_nil ?_
  try dsimp only [List.cons_append, List.nil_append]
  refine ⟨by k_in, ?_⟩
  try dsimp only [List.nil_append, List.cons_append]
  rename Fr _ _ _ _ => oldF
  rename Led _ _ _ _ => oldN
  refine' PureFn.use (c_bvalE _ _ _ _ _ _ _ _ ?q1) ?hB oldF ?hX ?hT oldN ?hd ?hu (trivial) ?_
  case hB => assumption
  case hX => assumption
  case hT => assumption
  case hd => omega
  case hu => omega
  case q1 => assumption
  intro v' h' tk' hv F' N' kk
  clear oldF oldN
  obtain ⟨t2, hv⟩ := hv
  subst hv
  rename Fr _ _ _ _ => oldF
  rename Led _ _ _ _ => oldN
  refine' stMiq oldF oldN (by (intro t; walk_at "m")) ?_ (by kernel_rfl)
  intro _ _ _ F' N'
  clear oldF oldN
  refine hR'.next ?_
  clear hR' R'
  refine seqG ?_
  intro R' hR'
  refine wpAny_If ?_
  refine wpAny_isTrue_Compare1 ?_
  refine' ldMq ‹_› (by walk_at "g") ?_ (by kernel_rfl)
  refine constIntM ?_
  with_reducible refine ge_int ?_
  refine wpAny_truthy_bool ?_
  rw [if_neg (by first | decide | (intro hh; have := of_decide_eq_true hh; omega))]
  refine wpAny_execs_nil ?_
  refine hR'.next ?_
  clear hR' R'
  refine seqG ?_
  intro R' hR'
  refine wpAny_If ?_
  walk_at "isTrue BoolOp"
  refine isTrue_plain ?_
  refine' ldMq ‹_› (by walk_at "g") ?_ (by kernel_rfl)
  walk_at "truthy int"
  rw [if_neg (by decide)]
  rw [if_neg Bool.false_ne_true]
  refine wpAny_execs_nil ?_
  refine hR'.next ?_
  clear hR' R'
  refine seqG ?_
  intro R' hR'
  refine wpAny_Assign_Name ?_
  refine constIntM ?_
  rename Fr _ _ _ _ => oldF
  rename Led _ _ _ _ => oldN
  refine' stMiq oldF oldN (by (intro t; walk_at "m")) ?_ (by kernel_rfl)
  intro _ _ _ F' N'
  clear oldF oldN
  refine hR'.next ?_
  clear hR' R'
  refine seqG ?_
  intro R' hR'
  refine wpAny_If ?_
  refine wpAny_isTrue_Compare1 ?_
  refine' ldMq ‹_› (by walk_at "g") ?_ (by kernel_rfl)
  refine constIntM ?_
  with_reducible refine eq_int ?_
  refine wpAny_truthy_bool ?_
  rw [if_pos (by first | decide | (apply beq_iff_eq.mpr; omega))]
  refine seqG ?_
  intro R' hR'
  refine wpAny_Assign_Name ?_
  refine constIntM ?_
  rename Fr _ _ _ _ => oldF
  rename Led _ _ _ _ => oldN
  refine' stMiq oldF oldN (by (intro t; walk_at "m")) ?_ (by kernel_rfl)
  intro _ _ _ F' N'
  clear oldF oldN
  refine hR'.next ?_
  clear hR' R'
  refine oneN ?_
  refine wpAny_Assign_Name ?_
  refine' ldMq ‹_› (by walk_at "g") ?_ (by kernel_rfl)
  rename Fr _ _ _ _ => oldF
  rename Led _ _ _ _ => oldN
  refine' stMiq oldF oldN (by (intro t; walk_at "m")) ?_ (by kernel_rfl)
  intro _ _ _ F' N'
  clear oldF oldN
  refine hR'.next ?_
  clear hR' R'
  refine oneN ?_
  refine wpAny_Assign_Name ?_
  with_reducible refine wpAny_BinOp ?_
  refine' ldMq ‹_› (by walk_at "g") ?_ (by kernel_rfl)
  refine constIntM ?_
  with_reducible refine addM ?_
  rename Fr _ _ _ _ => oldF
  rename Led _ _ _ _ => oldN
  refine' stMiq oldF oldN (by (intro t; walk_at "m")) ?_ (by kernel_rfl)
  intro _ _ _ F' N'
  clear oldF oldN
  with_reducible refine hQ' _ _ ?_
  clear hQ' Q'
  dsimp only [BPost]
  refine BEnd.intro (by assumption) (by assumption) ?_
  try (rename Fr _ _ _ _ => oldF; rename Led _ _ _ _ => oldN; clear oldF oldN)
  refine' ⟨_, fun t => ?z9e, ?_⟩
  case z9e => walk_at "m"
  intro u' it' h' tk' F' N'
  refine nameQ ?_
  intro Q' hQ'
  refine seqG ?_
  intro R' hR'
  refine wpAny_If ?_
  refine wpAny_isTrue_Compare1 ?_
  refine' ldMq ‹_› (by walk_at "g") ?_ (by kernel_rfl)
  refine constIntM ?_
  with_reducible refine eq_int ?_
  refine wpAny_truthy_bool ?_
  rw [if_neg (by first | decide | (intro hh; have := beq_iff_eq.mp hh; omega))]
  refine wpAny_execs_nil ?_
  refine hR'.next ?_
  clear hR' R'
  refine seqG ?_
  intro R' hR'
  refine wpAny_Assign_Name ?_
  refine Call_ ?_
  k_dflt (refine' name_K ‹_› (by k_asm) (by k_asm) (by k_is) ?_)
  k_dflt (refine' callWith_K (by k_asm) (by k_is) ?_)
  refine args_cons ?_
  refine' ldMq ‹_› (by walk_at "g") ?_ (by kernel_rfl)
  refine args_nil ?_
  try dsimp only [List.cons_append, List.nil_append]
  refine ⟨by k_in, ?_⟩
  try dsimp only [List.nil_append, List.cons_append]
  rename Fr _ _ _ _ => oldF
  rename Led _ _ _ _ => oldN
  refine' PureFn.use (c_bvalE _ _ _ _ _ _ _ _ ?q1) ?hB oldF ?hX ?hT oldN ?hd ?hu (trivial) ?_
  case hB => assumption
  case hX => assumption
  case hT => assumption
  case hd => omega
  case hu => omega
  case q1 => assumption
  intro v' h' tk' hv F' N' kk
  clear oldF oldN
  obtain ⟨t2, hv⟩ := hv
  subst hv
  rename Fr _ _ _ _ => oldF
  rename Led _ _ _ _ => oldN
  refine' stMiq oldF oldN (by (intro t; walk_at "m")) ?_ (by kernel_rfl)
  intro _ _ _ F' N'
  clear oldF oldN
  refine hR'.next ?_
  clear hR' R'
  refine seqG ?_
  intro R' hR'
  refine wpAny_If ?_
  refine wpAny_isTrue_Compare1 ?_
  refine' ldMq ‹_› (by walk_at "g") ?_ (by kernel_rfl)
  refine constIntM ?_
  with_reducible refine ge_int ?_
  refine wpAny_truthy_bool ?_
  rw [if_neg (by first | decide | (intro hh; have := of_decide_eq_true hh; omega))]
  refine wpAny_execs_nil ?_
  refine hR'.next ?_
  clear hR' R'
  refine seqG ?_
  intro R' hR'
  refine wpAny_If ?_
  walk_at "isTrue BoolOp"
  refine isTrue_plain ?_
  refine' ldMq ‹_› (by walk_at "g") ?_ (by kernel_rfl)
  walk_at "truthy int"
  rw [if_neg (by decide)]
  rw [if_neg Bool.false_ne_true]
  refine wpAny_execs_nil ?_
  refine hR'.next ?_
  clear hR' R'
  refine seqG ?_
  intro R' hR'
  refine wpAny_Assign_Name ?_
  refine constIntM ?_
  rename Fr _ _ _ _ => oldF
  rename Led _ _ _ _ => oldN
  refine' stMiq oldF oldN (by (intro t; walk_at "m")) ?_ (by kernel_rfl)
  intro _ _ _ F' N'
  clear oldF oldN
  refine hR'.next ?_
  clear hR' R'
  refine seqG ?_
  intro R' hR'
  refine wpAny_If ?_
  refine wpAny_isTrue_Compare1 ?_
  refine' ldMq ‹_› (by walk_at "g") ?_ (by kernel_rfl)
  refine constIntM ?_
  with_reducible refine eq_int ?_
  refine wpAny_truthy_bool ?_
  rw [if_neg (by first | decide | (intro hh; have := beq_iff_eq.mp hh; omega))]
  refine oneN ?_
  refine wpAny_If ?_
  refine wpAny_isTrue_Compare1 ?_
  refine' ldMq ‹_› (by walk_at "g") ?_ (by kernel_rfl)
  refine constIntM ?_
  with_reducible refine eq_int ?_
  refine wpAny_truthy_bool ?_
  rw [if_pos (by first | decide | (apply beq_iff_eq.mpr; omega))]
  refine seqG ?_
  intro R' hR'
  refine wpAny_Assign_Name ?_
  refine constIntM ?_
  rename Fr _ _ _ _ => oldF
  rename Led _ _ _ _ => oldN
  refine' stMiq oldF oldN (by (intro t; walk_at "m")) ?_ (by kernel_rfl)
  intro _ _ _ F' N'
  clear oldF oldN
  refine hR'.next ?_
  clear hR' R'
  refine seqG ?_
  intro R' hR'
  refine wpAny_Expr_any ?_
  refine MethodCall_ ?_
  refine' ldMq ‹_› (by walk_at "g") ?_ (by kernel_rfl)
  refine listMethM (by assumption) (by k_mem) PySem.F.slot_list_append PySem.F.type_list_append ?_
  refine callWith_method1 ?_
  refine args_cons ?_
  with_reducible refine wpAny_BinOp ?_
  with_reducible refine wpAny_BinOp ?_
  refine' ldMq ‹_› (by walk_at "g") ?_ (by kernel_rfl)
  refine constIntM ?_
  with_reducible refine shl2 (by walk_at "om") (by walk_at "om") ?_
  with_reducible refine wpAny_BinOp ?_
  refine' ldMq ‹_› (by walk_at "g") ?_ (by kernel_rfl)
  refine constIntM ?_
  with_reducible refine shr4 (by decide) ?_
  with_reducible refine bor2 (by walk_at "om") (by walk_at "om") (by walk_at "om") ?_
  refine args_nil ?_
  try dsimp only [List.cons_append, List.nil_append]
  rename Fr _ _ _ _ => oldF
  rename Led _ _ _ _ => oldN
  refine' appendM oldF oldN (by walk_at "s") ?_ (by k_size)
  intro h' F' N'
  clear oldF oldN
  refine hR'.next ?_
  clear hR' R'
  refine oneN ?_
  refine wpAny_Assign_Name ?_
  with_reducible refine wpAny_BinOp ?_
  refine' ldMq ‹_› (by walk_at "g") ?_ (by kernel_rfl)
  refine constIntM ?_
  with_reducible refine band4 ?_
  rename Fr _ _ _ _ => oldF
  rename Led _ _ _ _ => oldN
  refine' stMiq oldF oldN (by (intro t; walk_at "m")) ?_ (by kernel_rfl)
  intro _ _ _ F' N'
  clear oldF oldN
  refine hR'.next ?_
  clear hR' R'
  refine oneN ?_
  refine wpAny_Assign_Name ?_
  with_reducible refine wpAny_BinOp ?_
  refine' ldMq ‹_› (by walk_at "g") ?_ (by kernel_rfl)
  refine constIntM ?_
  with_reducible refine addM ?_
  rename Fr _ _ _ _ => oldF
  rename Led _ _ _ _ => oldN
  refine' stMiq oldF oldN (by (intro t; walk_at "m")) ?_ (by kernel_rfl)
  intro _ _ _ F' N'
  clear oldF oldN
  with_reducible refine hQ' _ _ ?_
  clear hQ' Q'
  dsimp only [BPost]
  refine BEnd.intro (by assumption) (by assumption) ?_
  try (rename Fr _ _ _ _ => oldF; rename Led _ _ _ _ => oldN; clear oldF oldN)
  refine' ⟨_, fun t => ?z9e, ?_⟩
  case z9e => walk_at "m"
  intro u' it' h' tk' F' N'
  refine nameQ ?_
  intro Q' hQ'
  refine seqG ?_
  intro R' hR'
  refine wpAny_If ?_
  refine wpAny_isTrue_Compare1 ?_
  refine' ldMq ‹_› (by walk_at "g") ?_ (by kernel_rfl)
  refine constIntM ?_
  with_reducible refine eq_int ?_
  refine wpAny_truthy_bool ?_
  rw [if_neg (by first | decide | (intro hh; have := beq_iff_eq.mp hh; omega))]
  refine wpAny_execs_nil ?_
  refine hR'.next ?_
  clear hR' R'
  refine seqG ?_
  intro R' hR'
  refine wpAny_Assign_Name ?_
  refine Call_ ?_
  k_dflt (refine' name_K ‹_› (by k_asm) (by k_asm) (by k_is) ?_)
  k_dflt (refine' callWith_K (by k_asm) (by k_is) ?_)
  refine args_cons ?_
  refine' ldMq ‹_› (by walk_at "g") ?_ (by kernel_rfl)
  refine args_nil ?_
  try dsimp only [List.cons_append, List.nil_append]
  refine ⟨by k_in, ?_⟩
  try dsimp only [List.nil_append, List.cons_append]
  rename Fr _ _ _ _ => oldF
  rename Led _ _ _ _ => oldN
  refine' PureFn.use (c_bvalE _ _ _ _ _ _ _ _ ?q1) ?hB oldF ?hX ?hT oldN ?hd ?hu (trivial) ?_
  case hB => assumption
  case hX => assumption
  case hT => assumption
  case hd => omega
  case hu => omega
  case q1 => assumption
  intro v' h' tk' hv F' N' kk
  clear oldF oldN
  obtain ⟨t2, hv⟩ := hv
  subst hv
  rename Fr _ _ _ _ => oldF
  rename Led _ _ _ _ => oldN
  refine' stMiq oldF oldN (by (intro t; walk_at "m")) ?_ (by kernel_rfl)
  intro _ _ _ F' N'
  clear oldF oldN
  refine hR'.next ?_
  clear hR' R'
  refine seqG ?_
  intro R' hR'
  refine wpAny_If ?_
  refine wpAny_isTrue_Compare1 ?_
  refine' ldMq ‹_› (by walk_at "g") ?_ (by kernel_rfl)
  refine constIntM ?_
  with_reducible refine ge_int ?_
  refine wpAny_truthy_bool ?_
  rw [if_neg (by first | decide | (intro hh; have := of_decide_eq_true hh; omega))]
  refine wpAny_execs_nil ?_
  refine hR'.next ?_
  clear hR' R'
  refine seqG ?_
  intro R' hR'
  refine wpAny_If ?_
  walk_at "isTrue BoolOp"
  refine isTrue_plain ?_
  refine' ldMq ‹_› (by walk_at "g") ?_ (by kernel_rfl)
  walk_at "truthy int"
  rw [if_neg (by decide)]
  rw [if_neg Bool.false_ne_true]
  refine wpAny_execs_nil ?_
  refine hR'.next ?_
  clear hR' R'
  refine seqG ?_
  intro R' hR'
  refine wpAny_Assign_Name ?_
  refine constIntM ?_
  rename Fr _ _ _ _ => oldF
  rename Led _ _ _ _ => oldN
  refine' stMiq oldF oldN (by (intro t; walk_at "m")) ?_ (by kernel_rfl)
  intro _ _ _ F' N'
  clear oldF oldN
  refine hR'.next ?_
  clear hR' R'
  refine seqG ?_
  intro R' hR'
  refine wpAny_If ?_
  refine wpAny_isTrue_Compare1 ?_
  refine' ldMq ‹_› (by walk_at "g") ?_ (by kernel_rfl)
  refine constIntM ?_
  with_reducible refine eq_int ?_
  refine wpAny_truthy_bool ?_
  rw [if_neg (by first | decide | (intro hh; have := beq_iff_eq.mp hh; omega))]
  refine oneN ?_
  refine wpAny_If ?_
  refine wpAny_isTrue_Compare1 ?_
  refine' ldMq ‹_› (by walk_at "g") ?_ (by kernel_rfl)
  refine constIntM ?_
  with_reducible refine eq_int ?_
  refine wpAny_truthy_bool ?_
  rw [if_neg (by first | decide | (intro hh; have := beq_iff_eq.mp hh; omega))]
  refine oneN ?_
  refine wpAny_If ?_
  refine wpAny_isTrue_Compare1 ?_
  refine' ldMq ‹_› (by walk_at "g") ?_ (by kernel_rfl)
  refine constIntM ?_
  with_reducible refine eq_int ?_
  refine wpAny_truthy_bool ?_
  rw [if_pos (by first | decide | (apply beq_iff_eq.mpr; omega))]
  refine seqG ?_
  intro R' hR'
  refine wpAny_Assign_Name ?_
  refine constIntM ?_
  rename Fr _ _ _ _ => oldF
  rename Led _ _ _ _ => oldN
  refine' stMiq oldF oldN (by (intro t; walk_at "m")) ?_ (by kernel_rfl)
  intro _ _ _ F' N'
  clear oldF oldN
  refine hR'.next ?_
  clear hR' R'
  refine seqG ?_
  intro R' hR'
  refine wpAny_Expr_any ?_
  refine MethodCall_ ?_
  refine' ldMq ‹_› (by walk_at "g") ?_ (by kernel_rfl)
  refine listMethM (by assumption) (by k_mem) PySem.F.slot_list_append PySem.F.type_list_append ?_
  refine callWith_method1 ?_
  refine args_cons ?_
  with_reducible refine wpAny_BinOp ?_
  with_reducible refine wpAny_BinOp ?_
  refine' ldMq ‹_› (by walk_at "g") ?_ (by kernel_rfl)
  refine constIntM ?_
  with_reducible refine shl4 (by walk_at "om") (by walk_at "om") ?_
  with_reducible refine wpAny_BinOp ?_
  refine' ldMq ‹_› (by walk_at "g") ?_ (by kernel_rfl)
  refine constIntM ?_
  with_reducible refine shr2 (by decide) ?_
  with_reducible refine bor4 (by walk_at "om") (by walk_at "om") (by walk_at "om") ?_
  refine args_nil ?_
  try dsimp only [List.cons_append, List.nil_append]
  rename Fr _ _ _ _ => oldF
  rename Led _ _ _ _ => oldN
  refine' appendM oldF oldN (by walk_at "s") ?_ (by k_size)
  intro h' F' N'
  clear oldF oldN
  refine hR'.next ?_
  clear hR' R'
  refine oneN ?_
  refine wpAny_Assign_Name ?_
  with_reducible refine wpAny_BinOp ?_
  refine' ldMq ‹_› (by walk_at "g") ?_ (by kernel_rfl)
  refine constIntM ?_
  with_reducible refine band2 ?_
  rename Fr _ _ _ _ => oldF
  rename Led _ _ _ _ => oldN
  refine' stMiq oldF oldN (by (intro t; walk_at "m")) ?_ (by kernel_rfl)
  intro _ _ _ F' N'
  clear oldF oldN
  refine hR'.next ?_
  clear hR' R'
  refine oneN ?_
  refine wpAny_Assign_Name ?_
  with_reducible refine wpAny_BinOp ?_
  refine' ldMq ‹_› (by walk_at "g") ?_ (by kernel_rfl)
  refine constIntM ?_
  with_reducible refine addM ?_
  rename Fr _ _ _ _ => oldF
  rename Led _ _ _ _ => oldN
  refine' stMiq oldF oldN (by (intro t; walk_at "m")) ?_ (by kernel_rfl)
  intro _ _ _ F' N'
  clear oldF oldN
  with_reducible refine hQ' _ _ ?_
  clear hQ' Q'
  dsimp only [BPost]
  refine BEnd.intro (by assumption) (by assumption) ?_
  try (rename Fr _ _ _ _ => oldF; rename Led _ _ _ _ => oldN; clear oldF oldN)
  refine' ⟨_, fun t => ?z9e, ?_⟩
  case z9e => walk_at "m"
  intro u' it' h' tk' F' N'
  refine nameQ ?_
  intro Q' hQ'
  refine seqG ?_
  intro R' hR'
  refine wpAny_If ?_
  refine wpAny_isTrue_Compare1 ?_
  refine' ldMq ‹_› (by walk_at "g") ?_ (by kernel_rfl)
  refine constIntM ?_
  with_reducible refine eq_int ?_
  refine wpAny_truthy_bool ?_
  rw [if_neg (by first | decide | (intro hh; have := beq_iff_eq.mp hh; omega))]
  refine wpAny_execs_nil ?_
  refine hR'.next ?_
  clear hR' R'
  refine seqG ?_
  intro R' hR'
  refine wpAny_Assign_Name ?_
  refine Call_ ?_
  k_dflt (refine' name_K ‹_› (by k_asm) (by k_asm) (by k_is) ?_)
  k_dflt (refine' callWith_K (by k_asm) (by k_is) ?_)
  refine args_cons ?_
  refine' ldMq ‹_› (by walk_at "g") ?_ (by kernel_rfl)
  refine args_nil ?_
  try dsimp only [List.cons_append, List.nil_append]
  refine ⟨by k_in, ?_⟩
  try dsimp only [List.nil_append, List.cons_append]
  rename Fr _ _ _ _ => oldF
  rename Led _ _ _ _ => oldN
  refine' PureFn.use (c_bvalE _ _ _ _ _ _ _ _ ?q1) ?hB oldF ?hX ?hT oldN ?hd ?hu (trivial) ?_
  case hB => assumption
  case hX => assumption
  case hT => assumption
  case hd => omega
  case hu => omega
  case q1 => assumption
  intro v' h' tk' hv F' N' kk
  clear oldF oldN
  obtain ⟨t2, hv⟩ := hv
  subst hv
  rename Fr _ _ _ _ => oldF
  rename Led _ _ _ _ => oldN
  refine' stMiq oldF oldN (by (intro t; walk_at "m")) ?_ (by kernel_rfl)
  intro _ _ _ F' N'
  clear oldF oldN
  refine hR'.next ?_
  clear hR' R'
  refine seqG ?_
  intro R' hR'
  refine wpAny_If ?_
  refine wpAny_isTrue_Compare1 ?_
  refine' ldMq ‹_› (by walk_at "g") ?_ (by kernel_rfl)
  refine constIntM ?_
  with_reducible refine ge_int ?_
  refine wpAny_truthy_bool ?_
  rw [if_neg (by first | decide | (intro hh; have := of_decide_eq_true hh; omega))]
  refine wpAny_execs_nil ?_
  refine hR'.next ?_
  clear hR' R'
  refine seqG ?_
  intro R' hR'
  refine wpAny_If ?_
  walk_at "isTrue BoolOp"
  refine isTrue_plain ?_
  refine' ldMq ‹_› (by walk_at "g") ?_ (by kernel_rfl)
  walk_at "truthy int"
  rw [if_neg (by decide)]
  rw [if_neg Bool.false_ne_true]
  refine wpAny_execs_nil ?_
  refine hR'.next ?_
  clear hR' R'
  refine seqG ?_
  intro R' hR'
  refine wpAny_Assign_Name ?_
  refine constIntM ?_
  rename Fr _ _ _ _ => oldF
  rename Led _ _ _ _ => oldN
  refine' stMiq oldF oldN (by (intro t; walk_at "m")) ?_ (by kernel_rfl)
  intro _ _ _ F' N'
  clear oldF oldN
  refine hR'.next ?_
  clear hR' R'
  refine seqG ?_
  intro R' hR'
  refine wpAny_If ?_
  refine wpAny_isTrue_Compare1 ?_
  refine' ldMq ‹_› (by walk_at "g") ?_ (by kernel_rfl)
  refine constIntM ?_
  with_reducible refine eq_int ?_
  refine wpAny_truthy_bool ?_
  rw [if_neg (by first | decide | (intro hh; have := beq_iff_eq.mp hh; omega))]
  refine oneN ?_
  refine wpAny_If ?_
  refine wpAny_isTrue_Compare1 ?_
  refine' ldMq ‹_› (by walk_at "g") ?_ (by kernel_rfl)
  refine constIntM ?_
  with_reducible refine eq_int ?_
  refine wpAny_truthy_bool ?_
  rw [if_neg (by first | decide | (intro hh; have := beq_iff_eq.mp hh; omega))]
  refine oneN ?_
  refine wpAny_If ?_
  refine wpAny_isTrue_Compare1 ?_
  refine' ldMq ‹_› (by walk_at "g") ?_ (by kernel_rfl)
  refine constIntM ?_
  with_reducible refine eq_int ?_
  refine wpAny_truthy_bool ?_
  rw [if_neg (by first | decide | (intro hh; have := beq_iff_eq.mp hh; omega))]
  refine seqG ?_
  intro R' hR'
  refine wpAny_Assign_Name ?_
  refine constIntM ?_
  rename Fr _ _ _ _ => oldF
  rename Led _ _ _ _ => oldN
  refine' stMiq oldF oldN (by (intro t; walk_at "m")) ?_ (by kernel_rfl)
  intro _ _ _ F' N'
  clear oldF oldN
  refine hR'.next ?_
  clear hR' R'
  refine seqG ?_
  intro R' hR'
  refine wpAny_Expr_any ?_
  refine MethodCall_ ?_
  refine' ldMq ‹_› (by walk_at "g") ?_ (by kernel_rfl)
  refine listMethM (by assumption) (by k_mem) PySem.F.slot_list_append PySem.F.type_list_append ?_
  refine callWith_method1 ?_
  refine args_cons ?_
  with_reducible refine wpAny_BinOp ?_
  with_reducible refine wpAny_BinOp ?_
  refine' ldMq ‹_› (by walk_at "g") ?_ (by kernel_rfl)
  refine constIntM ?_
  with_reducible refine shl6 (by walk_at "om") (by walk_at "om") ?_
  refine' ldMq ‹_› (by walk_at "g") ?_ (by kernel_rfl)
  with_reducible refine bor6 (by walk_at "om") (by walk_at "om") (by walk_at "om") ?_
  refine args_nil ?_
  try dsimp only [List.cons_append, List.nil_append]
  rename Fr _ _ _ _ => oldF
  rename Led _ _ _ _ => oldN
  refine' appendM oldF oldN (by walk_at "s") ?_ (by k_size)
  intro h' F' N'
  clear oldF oldN
  refine hR'.next ?_
  clear hR' R'
  refine oneN ?_
  refine wpAny_Assign_Name ?_
  refine constIntM ?_
  rename Fr _ _ _ _ => oldF
  rename Led _ _ _ _ => oldN
  refine' stMiq oldF oldN (by (intro t; walk_at "m")) ?_ (by kernel_rfl)
  intro _ _ _ F' N'
  clear oldF oldN
  refine hR'.next ?_
  clear hR' R'
  refine oneN ?_
  refine wpAny_Assign_Name ?_
  with_reducible refine wpAny_BinOp ?_
  refine' ldMq ‹_› (by walk_at "g") ?_ (by kernel_rfl)
  refine constIntM ?_
  with_reducible refine addM ?_
  rename Fr _ _ _ _ => oldF
  rename Led _ _ _ _ => oldN
  refine' stMiq oldF oldN (by (intro t; walk_at "m")) ?_ (by kernel_rfl)
  intro _ _ _ F' N'
  clear oldF oldN
  with_reducible refine hQ' _ _ ?_
  clear hQ' Q'
  dsimp only [BPost]
  refine BEnd.intro (by assumption) (by assumption) ?_
  try (rename Fr _ _ _ _ => oldF; rename Led _ _ _ _ => oldN; clear oldF oldN)
  intro h' tk' F' N'
  refine hR'.next ?_
  clear hR' R'
  refine seqG ?_
  intro R' hR'
  refine wpAny_If ?_
  refine wpAny_isTrue_Compare1 ?_
  refine' ldMq ‹_› (by walk_at "g") ?_ (by kernel_rfl)
  refine constIntM ?_
  with_reducible refine eq_int ?_
  refine wpAny_truthy_bool ?_
  rw [if_neg (by first | decide | (intro hh; have := beq_iff_eq.mp hh; omega))]
  refine wpAny_execs_nil ?_
  refine hR'.next ?_
  clear hR' R'
  refine seqG ?_
  intro R' hR'
  refine wpAny_If ?_
  walk_at "isTrue BoolOp"
  refine wpAny_isTrue_Compare1 ?_
  refine' ldMq ‹_› (by walk_at "g") ?_ (by kernel_rfl)
  refine constIntM ?_
  with_reducible refine ne_int ?_
  refine wpAny_truthy_bool ?_
  rw [if_neg (by decide)]
  rw [if_neg Bool.false_ne_true]
  refine wpAny_execs_nil ?_
  refine hR'.next ?_
  clear hR' R'
  refine oneN ?_
  refine wpAny_Return_some ?_
  refine Call_ ?_
  k_dflt (refine' name_B ‹_› (by k_asm) (by k_asm) (by k_is) (by boot_by_name) (by decide) ?_)
  refine PyProof.Rows.callWith_type1 ?_
  refine args_cons ?_
  refine' ldMq ‹_› (by walk_at "g") ?_ (by kernel_rfl)
  refine args_nil ?_
  try dsimp only [List.cons_append, List.nil_append]
  rename Fr _ _ _ _ => oldF
  rename Led _ _ _ _ => oldN
  refine' bytesM oldF oldN rfl (by k_mem) (by (first | (show IntsAre [_, _, _, _] _; exact IntsAre.cons _ _ (IntsAre.cons _ _ (IntsAre.cons _ _ (IntsAre.cons _ _ IntsAre.nil)))) | (show IntsAre [_, _, _] _; exact IntsAre.cons _ _ (IntsAre.cons _ _ (IntsAre.cons _ _ IntsAre.nil))))) (by (intro q hq; simp only [List.mem_cons, List.not_mem_nil, or_false] at hq; (first | (rcases hq with h1 | h1 | h1 | h1 <;> (subst h1; first | exact sgn_in _ | omega)) | (rcases hq with h1 | h1 | h1 <;> (subst h1; omega))))) (by (simp only [List.length_cons, List.length_nil]; decide)) ?_
  intro c' h' t' k' F' N' hc'
  clear oldF oldN
  with_reducible refine hQ' _ _ ?_
  clear hQ' Q'
  refine ⟨_, _, _, by assumption, by assumption, fun kp => ?_⟩
  dsimp only
  all_goals (refine hret _ _ _ ⟨_, _, rfl, ?_⟩ (by assumption); rename KBw.bInts _ = [_, _, _] => hc2; rw [hc2])
end
end
section
section
variable (w : World) (loose : List Str) (mean : ExcName → Option Value) (mg mb : Str → Option Value)
theorem c_enc0 (b : Array UInt8) (x y z : Int) (t : Tok) (hx : 0 ≤ x ∧ x < 256) (hy : 0 ≤ y ∧ y < 256) (hz : 0 ≤ z ∧ z < 256) (hb : KBw.bInts b = [x,y,z]) :
   PureFn w loose mean mg mb 3 123 [.bytes b t] [] (fun _ => True)
     (fun v _ => ∃ c u, v = .bytes c u ∧ KBw.bInts c = [sgn (x / 4), sgn (x % 4 * 16 + y / 16), sgn (y % 16 * 4 + z / 64), sgn (z % 64)]) := by
  unfold PureFn
  k_fill
  intro dp un gd outer base s Q E hB hX hT hdp hun hpre hret
  refine wpAny_call ?_
  refine' enterP (news := []) (binds := [(Str.ofString "s", .bytes b t), (Str.ofString "altchars", .none)]) ?kX ?kT ?ksz ?kst ?kn ?k6 ?k7 ?k8 ?k9 ?kB ?knd ?_ ?c2 ?c3 ?c4 ?c5
  case kX => assumption
  case kT => assumption
  case ksz => exact Nat.le_refl _
  case kst => exact fun _ _ e => e
  case kn => exact fun _ hq => nomatch hq
  case knd => exact List.nodup_nil
  case k6 => k_is
  case k7 => k_is
  case k8 => k_room
  case k9 => first | exact BindsTo.of_eq (by kernel_rfl!) | exact binds_K (by k_in) rfl (by k_is) rfl rfl rfl | fail "enter: no rule for these arguments"
  case c5 => decide
  case kB => exact locs rfl
  case c2 => exact rfl
  case c3 => exact rfl
  case c4 => exact rfl
  intro L' h' F' N' l1 Q' hQ'; clear l1
  change Fr _ _ _ (mp [_, _]) at F'
  show wpAny _ _ (execs (_ :: _) _) _ _ _
  refine seqG ?_
  intro R' hR'
  refine wpAny_Assign_Name ?_
  refine wpAny_Call_Name_kw ?_
  k_dflt (refine' name_K ‹_› (by k_asm) (by k_asm) (by k_is) ?_)
  k_dflt (refine' callWith_KW (by k_asm) (by k_is) rfl ?_)
  refine args_cons ?_
  refine' ldMq ‹_› (by walk_at "g") ?_ (by kernel_rfl)
  refine args_nil ?_
  try dsimp only [List.cons_append, List.nil_append]
  refine kwAll_cons ?_
  refine Constant_bool ?_
  refine kwAll_nil ?_
  skip
  refine ⟨by k_in, ?_⟩
  try dsimp only [List.nil_append, List.cons_append]
  rename Fr _ _ _ _ => oldF
  rename Led _ _ _ _ => oldN
  refine' PureFn.use (c_b2a _ _ _ _ _ _ _ _ _ _ ?q1 ?q2 ?q3 ?q4) ?hB oldF ?hX ?hT oldN ?hd ?hu (trivial) ?_
  case hB => assumption
  case hX => assumption
  case hT => assumption
  case hd => omega
  case hu => omega
  case q4 => assumption
  case q1 => assumption
  case q2 => assumption
  case q3 => assumption
  intro v' h' tk' hv F' N' kk
  clear oldF oldN
  refine nameG fun GG hGG => ?_
  obtain ⟨b2, t2, hv, hb2⟩ := hv
  refine hGG ?_; clear hGG GG
  subst hv
  rename Fr _ _ _ _ => oldF
  rename Led _ _ _ _ => oldN
  refine' stMbq oldF oldN (by (intro t; walk_at "m")) ?_ (by kernel_rfl)
  intro _ _ _ F' N'
  clear oldF oldN
  refine hR'.next ?_
  clear hR' R'
  refine seqG ?_
  intro R' hR'
  refine wpAny_If ?_
  refine wpAny_isTrue_Compare1 ?_
  refine' ldMq ‹_› (by walk_at "g") ?_ (by kernel_rfl)
  walk_at "eval Constant none"
  refine wpAny_isNot_self (by rfl) ?_
  refine wpAny_truthy_bool ?_
  rw [if_neg Bool.false_ne_true]
  refine wpAny_execs_nil ?_
  refine hR'.next ?_
  clear hR' R'
  refine oneN ?_
  refine wpAny_Return_some ?_
  refine' ldMq ‹_› (by walk_at "g") ?_ (by kernel_rfl)
  with_reducible refine hQ' _ _ ?_
  clear hQ' Q'
  refine ⟨_, _, _, by assumption, by assumption, fun kp => ?_⟩
  dsimp only
  all_goals (refine hret _ _ _ ⟨_, _, rfl, ?_⟩ (by assumption); assumption)
theorem c_enc1 (b al : Array UInt8) (x y z p q : Int) (t u : Tok) (ψ : Int → Int) (hx : 0 ≤ x ∧ x < 256) (hy : 0 ≤ y ∧ y < 256) (hz : 0 ≤ z ∧ z < 256) (hb : KBw.bInts b = [x,y,z])
   (hal : KBw.bInts al = [p, q]) (hψ : ∀ x : UInt8, (((tblOf #[43, 47] al).getD x.toNat x).toNat : Int) = ψ (x.toNat : Int)) :
   PureFn w loose mean mg mb 3 123 [.bytes b t, .bytes al u] [] (fun _ => True)
     (fun v _ => ∃ c u, v = .bytes c u ∧ KBw.bInts c = [ψ (sgn (x / 4)), ψ (sgn (x % 4 * 16 + y / 16)), ψ (sgn (y % 16 * 4 + z / 64)), ψ (sgn (z % 64))]) := by
  unfold PureFn
  k_fill
  intro dp un gd outer base s Q E hB hX hT hdp hun hpre hret
  have hsz : al.size = 2 := by rw [← KBw.ints_length, hal]; rfl
  refine wpAny_call ?_
  refine' enterP (news := []) (binds := [(Str.ofString "s", .bytes b t), (Str.ofString "altchars", .bytes al u)]) ?kX ?kT ?ksz ?kst ?kn ?k6 ?k7 ?k8 ?k9 ?kB ?knd ?_ ?c2 ?c3 ?c4 ?c5
  case kX => assumption
  case kT => assumption
  case ksz => exact Nat.le_refl _
  case kst => exact fun _ _ e => e
  case kn => exact fun _ hq => nomatch hq
  case knd => exact List.nodup_nil
  case k6 => k_is
  case k7 => k_is
  case k8 => k_room
  case k9 => first | exact BindsTo.of_eq (by kernel_rfl!) | exact binds_K (by k_in) rfl (by k_is) rfl rfl rfl | fail "enter: no rule for these arguments"
  case c5 => decide
  case kB => exact locs rfl
  case c2 => exact rfl
  case c3 => exact rfl
  case c4 => exact rfl
  intro L' h' F' N' l1 Q' hQ'; clear l1
  change Fr _ _ _ (mp [_, _]) at F'
  show wpAny _ _ (execs (_ :: _) _) _ _ _
  refine seqG ?_
  intro R' hR'
  refine wpAny_Assign_Name ?_
  refine wpAny_Call_Name_kw ?_
  k_dflt (refine' name_K ‹_› (by k_asm) (by k_asm) (by k_is) ?_)
  k_dflt (refine' callWith_KW (by k_asm) (by k_is) rfl ?_)
  refine args_cons ?_
  refine' ldMq ‹_› (by walk_at "g") ?_ (by kernel_rfl)
  refine args_nil ?_
  try dsimp only [List.cons_append, List.nil_append]
  refine kwAll_cons ?_
  refine Constant_bool ?_
  refine kwAll_nil ?_
  skip
  refine ⟨by k_in, ?_⟩
  try dsimp only [List.nil_append, List.cons_append]
  rename Fr _ _ _ _ => oldF
  rename Led _ _ _ _ => oldN
  refine' PureFn.use (c_b2a _ _ _ _ _ _ _ _ _ _ ?q1 ?q2 ?q3 ?q4) ?hB oldF ?hX ?hT oldN ?hd ?hu (trivial) ?_
  case hB => assumption
  case hX => assumption
  case hT => assumption
  case hd => omega
  case hu => omega
  case q4 => assumption
  case q1 => assumption
  case q2 => assumption
  case q3 => assumption
  intro v' h' tk' hv F' N' kk
  clear oldF oldN
  refine nameG fun GG hGG => ?_
  obtain ⟨b2, t2, hv, hb2⟩ := hv
  refine hGG ?_; clear hGG GG
  subst hv
  rename Fr _ _ _ _ => oldF
  rename Led _ _ _ _ => oldN
  refine' stMbq oldF oldN (by (intro t; walk_at "m")) ?_ (by kernel_rfl)
  intro _ _ _ F' N'
  clear oldF oldN
  refine hR'.next ?_
  clear hR' R'
  refine seqG ?_
  intro R' hR'
  refine wpAny_If ?_
  refine wpAny_isTrue_Compare1 ?_
  refine' ldMq ‹_› (by walk_at "g") ?_ (by kernel_rfl)
  walk_at "eval Constant none"
  refine wpAny_isNot_other (by rfl) (by intro hh; cases hh) ?_
  refine wpAny_truthy_bool ?_
  rw [if_pos rfl]
  refine seqG ?_
  intro R' hR'
  refine wpAny_Assert_holds ?_
  refine wpAny_isTrue_Compare1 ?_
  refine Call_ ?_
  k_dflt (refine' name_B ‹_› (by k_asm) (by k_asm) (by k_is) (by boot_by_name) (by decide) ?_)
  refine callWith_method1 ?_
  refine args_cons ?_
  refine' ldMq ‹_› (by walk_at "g") ?_ (by kernel_rfl)
  refine args_nil ?_
  try dsimp only [List.cons_append, List.nil_append]
  walk_at "call builtin:len"
  refine constIntM ?_
  with_reducible refine eq_int ?_
  refine wpAny_truthy_bool ?_
  refine ⟨by rfl, ?_⟩
  refine hR'.next ?_
  clear hR' R'
  refine oneN ?_
  refine wpAny_Return_some ?_
  refine MethodCall_ ?_
  refine' ldMq ‹_› (by walk_at "g") ?_ (by kernel_rfl)
  refine getm_tr ?_
  refine callWith_method1 ?_
  refine args_cons ?_
  refine MethodCall_ ?_
  k_dflt (refine' name_B ‹_› (by k_asm) (by k_asm) (by k_is) (by boot_by_name) (by decide) ?_)
  refine getm_mkt (by assumption) (by assumption) ?_
  intro _
  refine callWith_method1 ?_
  refine args_cons ?_
  refine Constant_bytes ?_
  refine args_cons ?_
  refine' ldMq ‹_› (by walk_at "g") ?_ (by kernel_rfl)
  refine args_nil ?_
  try dsimp only [List.cons_append, List.nil_append]
  refine maketransM' (by first | rfl | (simp only [List.size_toArray, List.length_cons, List.length_nil]; omega)) ?_
  intro _ _
  refine args_nil ?_
  try dsimp only [List.cons_append, List.nil_append]
  refine' translateML ‹_› ‹_› (by (simp only [List.length_cons, List.length_nil]; decide)) ?_
  intro _ _ _ hc2
  simp only [List.map_cons, List.map_nil] at hc2
  with_reducible refine hR'.other (fun hf => Flow.noConfusion hf) ?_
  clear hR' R'
  with_reducible refine hQ' _ _ ?_
  clear hQ' Q'
  refine ⟨_, _, _, by assumption, by assumption, fun kp => ?_⟩
  dsimp only
  all_goals (refine hret _ _ _ ⟨_, _, rfl, ?_⟩ (by assumption); assumption)
end
end
section
section
variable (w : World) (loose : List Str) (mean : ExcName → Option Value) (mg mb : Str → Option Value)
theorem c_dec (b al : Array UInt8) (c0 c1 c2 c3 f0 f1 f2 f3 p q : Int) (t u : Tok) (ψ : Int → Int) (hb : KBw.bInts b = [c0, c1, c2, c3]) (hal : KBw.bInts al = [p, q])
   (hψ : ∀ x : UInt8, (((tblOf al #[43, 47]).getD x.toNat x).toNat : Int) = ψ (x.toNat : Int))
   (hc : ψ c0 ≠ 61 ∧ ψ c1 ≠ 61 ∧ ψ c2 ≠ 61 ∧ ψ c3 ≠ 61) (h0 : bval (ψ c0) = f0) (h1 : bval (ψ c1) = f1) (h2 : bval (ψ c2) = f2) (h3 : bval (ψ c3) = f3)
   (hf : (0 ≤ f0 ∧ f0 < 64) ∧ (0 ≤ f1 ∧ f1 < 64) ∧ (0 ≤ f2 ∧ f2 < 64) ∧ (0 ≤ f3 ∧ f3 < 64)) :
   PureFn w loose mean mg mb 3 131 [.bytes b t, .bytes al u] [] (fun _ => True)
     (fun v _ => ∃ c u, v = .bytes c u ∧ KBw.bInts c = [f0 * 4 + f1 / 16, f1 % 16 * 16 + f2 / 4, f2 % 4 * 64 + f3]) := by
  unfold PureFn
  k_fill
  intro dp un gd outer base s Q E hB hX hT hdp hun hpre hret
  have hsz : al.size = 2 := by rw [← KBw.ints_length, hal]; rfl
  refine wpAny_call ?_
  refine' enterP (news := []) (binds := [(Str.ofString "s", .bytes b t), (Str.ofString "altchars", .bytes al u), (Str.ofString "validate", .bool false)]) ?kX ?kT ?ksz ?kst ?kn ?k6 ?k7 ?k8 ?k9 ?kB ?knd ?_ ?c2 ?c3 ?c4 ?c5
  case kX => assumption
  case kT => assumption
  case ksz => exact Nat.le_refl _
  case kst => exact fun _ _ e => e
  case kn => exact fun _ hq => nomatch hq
  case knd => exact List.nodup_nil
  case k6 => k_is
  case k7 => k_is
  case k8 => k_room
  case k9 => first | exact BindsTo.of_eq (by kernel_rfl!) | exact binds_K (by k_in) rfl (by k_is) rfl rfl rfl | fail "enter: no rule for these arguments"
  case c5 => decide
  case kB => exact locs rfl
  case c2 => exact rfl
  case c3 => exact rfl
  case c4 => exact rfl
  intro L' h' F' N' l1 Q' hQ'; clear l1
  change Fr _ _ _ (mp [_, _, _]) at F'
  show wpAny _ _ (execs (_ :: _) _) _ _ _
  refine seqG ?_
  intro R' hR'
  refine wpAny_Assign_Name ?_
  refine Call_ ?_
  k_dflt (refine' name_K ‹_› (by k_asm) (by k_asm) (by k_is) ?_)
  k_dflt (refine' callWith_K (by k_asm) (by k_is) ?_)
  refine args_cons ?_
  refine' ldMq ‹_› (by walk_at "g") ?_ (by kernel_rfl)
  refine args_nil ?_
  try dsimp only [List.cons_append, List.nil_append]
  refine ⟨by k_in, ?_⟩
  try dsimp only [List.nil_append, List.cons_append]
  rename Fr _ _ _ _ => oldF
  rename Led _ _ _ _ => oldN
  refine' PureFn.use (c_bfdd _ _ _ _ _ _ _) ?hB oldF ?hX ?hT oldN ?hd ?hu (trivial) ?_
  case hB => assumption
  case hX => assumption
  case hT => assumption
  case hd => omega
  case hu => omega
  intro v' h' tk' hv F' N' kk
  clear oldF oldN
  subst hv
  rename Fr _ _ _ _ => oldF
  rename Led _ _ _ _ => oldN
  refine' stMbq oldF oldN (by (intro t; walk_at "m")) ?_ (by kernel_rfl)
  intro _ _ _ F' N'
  clear oldF oldN
  refine hR'.next ?_
  clear hR' R'
  refine seqG ?_
  intro R' hR'
  refine wpAny_If ?_
  refine wpAny_isTrue_Compare1 ?_
  refine' ldMq ‹_› (by walk_at "g") ?_ (by kernel_rfl)
  walk_at "eval Constant none"
  refine wpAny_isNot_other (by rfl) (by intro hh; cases hh) ?_
  refine wpAny_truthy_bool ?_
  rw [if_pos rfl]
  refine seqG ?_
  intro R' hR'
  refine wpAny_Assign_Name ?_
  refine Call_ ?_
  k_dflt (refine' name_K ‹_› (by k_asm) (by k_asm) (by k_is) ?_)
  k_dflt (refine' callWith_K (by k_asm) (by k_is) ?_)
  refine args_cons ?_
  refine' ldMq ‹_› (by walk_at "g") ?_ (by kernel_rfl)
  refine args_nil ?_
  try dsimp only [List.cons_append, List.nil_append]
  refine ⟨by k_in, ?_⟩
  try dsimp only [List.nil_append, List.cons_append]
  rename Fr _ _ _ _ => oldF
  rename Led _ _ _ _ => oldN
  refine' PureFn.use (c_bfdd _ _ _ _ _ _ _) ?hB oldF ?hX ?hT oldN ?hd ?hu (trivial) ?_
  case hB => assumption
  case hX => assumption
  case hT => assumption
  case hd => omega
  case hu => omega
  intro v' h' tk' hv F' N' kk
  clear oldF oldN
  subst hv
  rename Fr _ _ _ _ => oldF
  rename Led _ _ _ _ => oldN
  refine' stMbq oldF oldN (by (intro t; walk_at "m")) ?_ (by kernel_rfl)
  intro _ _ _ F' N'
  clear oldF oldN
  refine hR'.next ?_
  clear hR' R'
  refine seqG ?_
  intro R' hR'
  refine wpAny_Assert_holds ?_
  refine wpAny_isTrue_Compare1 ?_
  refine Call_ ?_
  k_dflt (refine' name_B ‹_› (by k_asm) (by k_asm) (by k_is) (by boot_by_name) (by decide) ?_)
  refine callWith_method1 ?_
  refine args_cons ?_
  refine' ldMq ‹_› (by walk_at "g") ?_ (by kernel_rfl)
  refine args_nil ?_
  try dsimp only [List.cons_append, List.nil_append]
  walk_at "call builtin:len"
  refine constIntM ?_
  with_reducible refine eq_int ?_
  refine wpAny_truthy_bool ?_
  refine ⟨by rfl, ?_⟩
  refine hR'.next ?_
  clear hR' R'
  refine oneN ?_
  refine wpAny_Assign_Name ?_
  refine MethodCall_ ?_
  refine' ldMq ‹_› (by walk_at "g") ?_ (by kernel_rfl)
  refine getm_tr ?_
  refine callWith_method1 ?_
  refine args_cons ?_
  refine MethodCall_ ?_
  k_dflt (refine' name_B ‹_› (by k_asm) (by k_asm) (by k_is) (by boot_by_name) (by decide) ?_)
  refine getm_mkt (by assumption) (by assumption) ?_
  intro _
  refine callWith_method1 ?_
  refine args_cons ?_
  refine' ldMq ‹_› (by walk_at "g") ?_ (by kernel_rfl)
  refine args_cons ?_
  refine Constant_bytes ?_
  refine args_nil ?_
  try dsimp only [List.cons_append, List.nil_append]
  refine maketransM' (by first | rfl | (simp only [List.size_toArray, List.length_cons, List.length_nil]; omega)) ?_
  intro _ _
  refine args_nil ?_
  try dsimp only [List.cons_append, List.nil_append]
  refine' translateML ‹_› ‹_› (by (simp only [List.length_cons, List.length_nil]; decide)) ?_
  intro _ _ _ hc2
  simp only [List.map_cons, List.map_nil] at hc2
  rename Fr _ _ _ _ => oldF
  rename Led _ _ _ _ => oldN
  refine' stMbq oldF oldN (by (intro t; walk_at "m")) ?_ (by kernel_rfl)
  intro _ _ _ F' N'
  clear oldF oldN
  refine hR'.next ?_
  clear hR' R'
  refine oneN ?_
  refine wpAny_Return_some ?_
  refine wpAny_Call_Name_kw ?_
  k_dflt (refine' name_K ‹_› (by k_asm) (by k_asm) (by k_is) ?_)
  k_dflt (refine' callWith_KW (by k_asm) (by k_is) rfl ?_)
  refine args_cons ?_
  refine' ldMq ‹_› (by walk_at "g") ?_ (by kernel_rfl)
  refine args_nil ?_
  try dsimp only [List.cons_append, List.nil_append]
  refine kwAll_cons ?_
  refine' ldMq ‹_› (by walk_at "g") ?_ (by kernel_rfl)
  refine kwAll_nil ?_
  skip
  refine ⟨by k_in, ?_⟩
  try dsimp only [List.nil_append, List.cons_append]
  rename Fr _ _ _ _ => oldF
  rename Led _ _ _ _ => oldN
  refine' PureFn.use (c_a2b _ _ _ _ _ _ _ _ _ _ _ _ _ _ _ ?q1 ?q2 ?q3 ?q4 ?q5 ?q6 ?q7) ?hB oldF ?hX ?hT oldN ?hd ?hu (trivial) ?_
  case hB => assumption
  case hX => assumption
  case hT => assumption
  case hd => omega
  case hu => omega
  case q1 => assumption
  case q2 => assumption
  case q3 => assumption
  case q4 => assumption
  case q5 => assumption
  case q6 => assumption
  case q7 => assumption
  intro v' h' tk' hv F' N' kk
  clear oldF oldN
  refine nameG fun GG hGG => ?_
  obtain ⟨b2, t2, hv, hb2⟩ := hv
  refine hGG ?_; clear hGG GG
  subst hv
  with_reducible refine hQ' _ _ ?_
  clear hQ' Q'
  refine ⟨_, _, _, by assumption, by assumption, fun kp => ?_⟩
  dsimp only
  all_goals (refine hret _ _ _ ⟨_, _, rfl, ?_⟩ (by assumption); assumption)
end
end
section
section
variable (w : World) (loose : List Str) (mean : ExcName → Option Value) (mg mb : Str → Option Value)
theorem c_quote (b : Array UInt8) (t : Tok) (hb : b.size ≤ 100) : PureFn w loose mean mg mb 1 50 [.bytes b t] [] (fun _ => True)
    (fun v _ => ∃ c u, v = .bytes c u ∧ c.toList = ((SR.outs b (b.size + 1) 0).map (·.toList)).flatten) := by
  unfold PureFn
  k_fill
  intro dp un gd outer base s Q E hB hX hT hdp hun hpre hret
  refine wpAny_call ?_
  refine' enterP (news := []) (binds := [(Str.ofString "bindata", .bytes b t)]) ?kX ?kT ?ksz ?kst ?kn ?k6 ?k7 ?k8 ?k9 ?kB ?knd ?_ ?c2 ?c3 ?c4 ?c5
  case kX => assumption
  case kT => assumption
  case ksz => exact Nat.le_refl _
  case kst => exact fun _ _ e => e
  case kn => exact fun _ hq => nomatch hq
  case knd => exact List.nodup_nil
  case k6 => k_is
  case k7 => k_is
  case k8 => k_room
  case k9 => first | exact BindsTo.of_eq (by kernel_rfl!) | exact binds_K (by k_in) rfl (by k_is) rfl rfl rfl | fail "enter: no rule for these arguments"
  case c5 => decide
  case kB => exact locs rfl
  case c2 => exact rfl
  case c3 => exact rfl
  case c4 => exact rfl
  intro L' h' F' N' l1 Q' hQ'; clear l1
  change Fr _ _ _ (mp [_]) at F'
  show wpAny _ _ (execs (_ :: _) _) _ _ _
  refine oneN ?_
  refine wpAny_Return_some ?_
  refine MethodCall_ ?_
  k_dflt (refine' name_K ‹_› (by k_asm) (by k_asm) (by k_is) ?_)
  refine SR.getm_sub (by assumption) (by assumption) ?_
  refine callWith_method1 ?_
  refine args_cons ?_
  refine Constant_bytes ?_
  refine args_cons ?_
  refine' ldMq ‹_› (by walk_at "g") ?_ (by kernel_rfl)
  refine args_nil ?_
  try dsimp only [List.cons_append, List.nil_append]
  rename Fr _ _ _ _ => oldF
  rename Led _ _ _ _ => oldN
  refine' SR.subM ?hz oldF oldN ?hX ?_
  case hz => assumption
  case hX => assumption
  intro h' t' tk' c' F' N' hc'
  clear oldF oldN
  with_reducible refine hQ' _ _ ?_
  clear hQ' Q'
  refine ⟨_, _, _, by assumption, by assumption, fun kp => ?_⟩
  dsimp only
  all_goals (refine hret _ _ _ ⟨_, _, rfl, ?_⟩ (by assumption); assumption)
end
end
section
structure WayOk (p q : Int) (al : Array UInt8) (ψ φ : Int → Int) : Prop where
  hp : Fig p
  al2 : ∃ a b, KBw.bInts al = [a, b]
  to : ∀ x : UInt8, (((tblOf #[43, 47] al).getD x.toNat x).toNat : Int) = ψ (x.toNat : Int)
  fro : ∀ x : UInt8, (((tblOf al #[43, 47]).getD x.toNat x).toNat : Int) = φ (x.toNat : Int)
  dot : ∀ f, Fig f → (ψ (sgn f) = 46 ↔ f = p)
  feed : ∀ f, Fig f → (ψ (sgn f) = 10 ↔ f = q)
  back : ∀ f, Fig f → bval (φ (ψ (sgn f))) = f
  no61 : ∀ f, Fig f → φ (ψ (sgn f)) ≠ 61
theorem way1 : WayOk 62 63 #[46, 10] (sw 43 47 46 10) (sw 46 10 43 47) := ⟨⟨by decide, by decide⟩, ⟨46, 10, rfl⟩, tbl1, tbl3, e1_dot, e1_feed, e1_back, e1_no61⟩
theorem way2 : WayOk 63 62 #[10, 46] (sw 43 47 10 46) (sw 10 46 43 47) := ⟨⟨by decide, by decide⟩, ⟨10, 46, rfl⟩, tbl2, tbl4, e2_dot, e2_feed, e2_back, e2_no61⟩
noncomputable def Four (fs : List Int) : Prop := fs.length = 4 ∧ ∀ f ∈ fs, Fig f
theorem Four.cases {fs : List Int} (h : Four fs) : ∃ a b c d, fs = [a, b, c, d] ∧ Fig a ∧ Fig b ∧ Fig c ∧ Fig d := by
  obtain ⟨h1, h2⟩ := h
  match fs, h1 with
  | [a, b, c, d], _ => exact ⟨a, b, c, d, rfl, h2 a (by simp), h2 b (by simp), h2 c (by simp), h2 d (by simp)⟩
theorem Four.snd {p q : Int} (hp : Fig p) {fs : List Int} (h : Four fs) : Four (snd4 p q fs) := by
  refine nameG fun GG hGG => ?_
  obtain ⟨a, b, c, d, e, ha, hb, hc, hd⟩ := snd4_four (q := q) hp h.1 h.2
  refine hGG ?_; clear hGG GG
  rw [e]
  exact ⟨rfl, by intro f hf; simp at hf; rcases hf with rfl | rfl | rfl | rfl <;> assumption⟩
section
variable (w : World) (loose : List Str) (mean : ExcName → Option Value) (mg mb : Str → Option Value)
theorem PureFn.imp {w : World} {loose : List Str} {mean : ExcName → Option Value} {mg mb : Str → Option Value} {k : Nat} {f : Addr} {pos : List Value} {kw : List (Str × Value)} {pre : Heap → Prop} {ok ok' : Value → Heap → Prop}
    (C : PureFn w loose mean mg mb k f pos kw pre ok) (h : ∀ v h', ok v h' → ok' v h') : PureFn w loose mean mg mb k f pos kw pre ok' :=
  fun dp un gd outer base s Q E hB hX hT hdp hun hpre hret => C dp un gd outer base s Q E hB hX hT hdp hun hpre fun v h' tk' o => hret v h' tk' (h v h' o)
theorem c_encW {p q : Int} {al : Array UInt8} {ψ φ : Int → Int} (W : WayOk p q al ψ φ) (b : Array UInt8) (t u : Tok) (fs : List Int) (hf : Four fs) (hb : KBw.bInts b = packL fs) :
   PureFn w loose mean mg mb 3 123 [.bytes b t, .bytes al u] [] (fun _ => True) (fun v _ => ∃ c u, v = .bytes c u ∧ KBw.bInts c = fs.map fun f => ψ (sgn f)) := by
  refine nameG fun GG hGG => ?_
  obtain ⟨a, b', c, d, rfl, ha, hb', hc, hd⟩ := hf.cases
  obtain ⟨x, y, hal⟩ := W.al2
  refine hGG ?_; clear hGG GG
  unfold Fig at *
  refine (c_enc1 w loose mean mg mb b al _ _ _ x y t u ψ ?_ ?_ ?_ hb hal W.to).imp fun v _ hv => ?_
  · omega
  · omega
  · omega
  · refine nameG fun GG hGG => ?_
    obtain ⟨c2, u2, e, h2⟩ := hv
    refine hGG ?_; clear hGG GG
    refine ⟨c2, u2, e, ?_⟩
    rw [h2]
    simp only [List.map_cons, List.map_nil]
    have D1 := dq (N := a * 4 + b' / 16) rfl (d16 hb').1 (d16 hb').2
    have D2 := dq (N := b' % 16 * 16 + c / 4) rfl (d4 hc).1 (d4 hc).2
    have D3 := dq (N := c % 4 * 64 + d) rfl hd.1 hd.2
    congr 1; · congr 2; exact D1.1
    congr 1; · congr 2; rw [D1.2, D2.1, Int.mul_comm]; exact Int.mul_ediv_add_emod _ _
    congr 1; · congr 2; rw [D2.2, D3.1, Int.mul_comm]; exact Int.mul_ediv_add_emod _ _
    congr 1; · congr 2; exact D3.2
theorem c_decW {p q : Int} {al : Array UInt8} {ψ φ : Int → Int} (W : WayOk p q al ψ φ) (b : Array UInt8) (t u : Tok) (fs : List Int) (hf : Four fs) (hb : KBw.bInts b = fs.map fun f => ψ (sgn f)) :
   PureFn w loose mean mg mb 3 131 [.bytes b t, .bytes al u] [] (fun _ => True) (fun v _ => ∃ c u, v = .bytes c u ∧ KBw.bInts c = packL fs) := by
  refine nameG fun GG hGG => ?_
  obtain ⟨a, b', c, d, rfl, ha, hb', hc, hd⟩ := hf.cases
  obtain ⟨x, y, hal⟩ := W.al2
  refine hGG ?_; clear hGG GG
  exact c_dec w loose mean mg mb b al _ _ _ _ a b' c d x y t u φ hb hal W.fro ⟨W.no61 _ ha, W.no61 _ hb', W.no61 _ hc, W.no61 _ hd⟩ (W.back _ ha) (W.back _ hb') (W.back _ hc) (W.back _ hd) ⟨ha, hb', hc, hd⟩
theorem c_quote4 {p q : Int} {al : Array UInt8} {ψ φ : Int → Int} (W : WayOk p q al ψ φ) (b : Array UInt8) (t : Tok) (fs : List Int) (hf : Four fs) (hb : KBw.bInts b = fs.map fun f => ψ (sgn f)) :
   PureFn w loose mean mg mb 1 50 [.bytes b t] [] (fun _ => True) (fun v _ => ∃ c u, v = .bytes c u ∧ KBw.bInts c = (grw p q q fs).map fun f => ψ (sgn f)) := by
  have hs : b.size = 4 := by rw [← KBw.ints_length, hb, List.length_map]; exact hf.1
  refine (c_quote w loose mean mg mb b t (by walk_at "om")).imp fun v _ hv => ?_
  refine nameG fun GG hGG => ?_
  obtain ⟨c, u, e, h⟩ := hv
  refine hGG ?_; clear hGG GG
  refine ⟨c, u, e, ?_⟩
  have h2 := outs_spec b hs
  rw [← h, hb, qs_grw (p := p) (q := q) (fun f => ψ (sgn f)) ((W.dot p W.hp).mpr rfl) W.dot W.feed 10 q fs ⟨fun _ => rfl, fun _ => rfl⟩ hf.2] at h2
  exact h2
end
section
variable (w : World) (loose : List Str) (mean : ExcName → Option Value) (mg mb : Str → Option Value)
theorem c_sent {p q : Int} {al : Array UInt8} {ψ φ : Int → Int} (W : WayOk p q al ψ φ) (b : Array UInt8) (t u : Tok) (fs : List Int) (hf : Four fs) (hb : KBw.bInts b = packL fs) :
   PureFn w loose mean mg mb 4 268 [.bytes b t, .bytes al u] [] (fun _ => True) (fun v _ => ∃ c u, v = .bytes c u ∧ KBw.bInts c = packL (snd4 p q fs)) := by
  unfold PureFn
  k_fill
  intro dp un gd outer base s Q E hB hX hT hdp hun hpre hret
  have hgl : (grw p q q fs).length ≤ 1000 := by
    refine nameG fun GG hGG => ?_
    obtain ⟨a, b', c, d, rfl, _, _, _, _⟩ := hf.cases
    refine hGG ?_; clear hGG GG
    simp only [grw]
    (repeat' split) <;> simp
  have hsn : Four ((grw p q q fs).take 4) := hf.snd W.hp
  refine wpAny_call ?_
  refine' enterP (news := []) (binds := [(Str.ofString "octets", .bytes b t), (Str.ofString "signs", .bytes al u)]) ?kX ?kT ?ksz ?kst ?kn ?k6 ?k7 ?k8 ?k9 ?kB ?knd ?_ ?c2 ?c3 ?c4 ?c5
  case kX => assumption
  case kT => assumption
  case ksz => exact Nat.le_refl _
  case kst => exact fun _ _ e => e
  case kn => exact fun _ hq => nomatch hq
  case knd => exact List.nodup_nil
  case k6 => k_is
  case k7 => k_is
  case k8 => k_room
  case k9 => first | exact BindsTo.of_eq (by kernel_rfl!) | exact binds_K (by k_in) rfl (by k_is) rfl rfl rfl | fail "enter: no rule for these arguments"
  case c5 => decide
  case kB => exact locs rfl
  case c2 => exact rfl
  case c3 => exact rfl
  case c4 => exact rfl
  intro L' h' F' N' l1 Q' hQ'; clear l1
  change Fr _ _ _ (mp [_, _]) at F'
  show wpAny _ _ (execs (_ :: _) _) _ _ _
  refine oneN ?_
  refine wpAny_Return_some ?_
  refine Call_ ?_
  k_dflt (refine' name_K ‹_› (by k_asm) (by k_asm) (by k_is) ?_)
  k_dflt (refine' callWith_K (by k_asm) (by k_is) ?_)
  refine args_cons ?_
  refine Subscript_ ?_
  refine Call_ ?_
  k_dflt (refine' name_K ‹_› (by k_asm) (by k_asm) (by k_is) ?_)
  k_dflt (refine' callWith_K (by k_asm) (by k_is) ?_)
  refine args_cons ?_
  refine Call_ ?_
  k_dflt (refine' name_K ‹_› (by k_asm) (by k_asm) (by k_is) ?_)
  k_dflt (refine' callWith_K (by k_asm) (by k_is) ?_)
  refine args_cons ?_
  refine' ldMq ‹_› (by walk_at "g") ?_ (by kernel_rfl)
  refine args_cons ?_
  refine' ldMq ‹_› (by walk_at "g") ?_ (by kernel_rfl)
  refine args_nil ?_
  try dsimp only [List.cons_append, List.nil_append]
  refine ⟨by k_in, ?_⟩
  try dsimp only [List.nil_append, List.cons_append]
  rename Fr _ _ _ _ => oldF
  rename Led _ _ _ _ => oldN
  refine' PureFn.use (c_encW _ _ _ _ _ ?q1 _ _ _ _ ?q2 ?q3) ?hB oldF ?hX ?hT oldN ?hd ?hu (trivial) ?_
  case hB => assumption
  case hX => assumption
  case hT => assumption
  case hd => omega
  case hu => omega
  case q1 => assumption
  case q3 => assumption
  case q2 => assumption
  intro v' h' tk' hv F' N' kk
  clear oldF oldN
  refine nameG fun GG hGG => ?_
  obtain ⟨b2, t2, hv, hb2⟩ := hv
  refine hGG ?_; clear hGG GG
  subst hv
  refine args_nil ?_
  try dsimp only [List.cons_append, List.nil_append]
  refine ⟨by k_in, ?_⟩
  try dsimp only [List.nil_append, List.cons_append]
  rename Fr _ _ _ _ => oldF
  rename Led _ _ _ _ => oldN
  refine' PureFn.use (c_quote4 _ _ _ _ _ ?q1 _ _ _ ?q2 ?q3) ?hB oldF ?hX ?hT oldN ?hd ?hu (trivial) ?_
  case hB => assumption
  case hX => assumption
  case hT => assumption
  case hd => omega
  case hu => omega
  case q1 => assumption
  case q3 => assumption
  case q2 => assumption
  intro v' h' tk' hv F' N' kk
  clear oldF oldN
  refine nameG fun GG hGG => ?_
  obtain ⟨b2, t2, hv, hb2⟩ := hv
  refine hGG ?_; clear hGG GG
  subst hv
  with_reducible refine sliceM ?_
  with_reducible refine evalPartNone ?_
  with_reducible refine evalPartSome ?_
  refine constIntM ?_
  with_reducible refine evalPartNone ?_
  rename Fr _ _ _ _ => oldF
  rename Led _ _ _ _ => oldN
  refine' cut4M oldF oldN ?hk ?hz ?_ ?hs ?ht
  case hk => assumption
  case hs => with_unfolding_all rfl
  case ht => (intro _; with_unfolding_all rfl)
  case hz => (simp only [List.length_map]; omega)
  intro c' h' t' k' F' N' hc'
  clear oldF oldN
  refine args_cons ?_
  refine' ldMq ‹_› (by walk_at "g") ?_ (by kernel_rfl)
  refine args_nil ?_
  try dsimp only [List.cons_append, List.nil_append]
  refine ⟨by k_in, ?_⟩
  try dsimp only [List.nil_append, List.cons_append]
  rename Fr _ _ _ _ => oldF
  rename Led _ _ _ _ => oldN
  refine' PureFn.use (c_decW _ _ _ _ _ ?q1 _ _ _ _ ?q2 ?q3) ?hB oldF ?hX ?hT oldN ?hd ?hu (trivial) ?_
  case hB => assumption
  case hX => assumption
  case hT => assumption
  case hd => omega
  case hu => omega
  case q1 => assumption
  case q3 => (rw [← List.map_take] at *; assumption)
  case q2 => assumption
  intro v' h' tk' hv F' N' kk
  clear oldF oldN
  refine nameG fun GG hGG => ?_
  obtain ⟨b2, t2, hv, hb2⟩ := hv
  refine hGG ?_; clear hGG GG
  subst hv
  with_reducible refine hQ' _ _ ?_
  clear hQ' Q'
  refine ⟨_, _, _, by assumption, by assumption, fun kp => ?_⟩
  dsimp only
  all_goals (refine hret _ _ _ ⟨_, _, rfl, ?_⟩ (by assumption); assumption)
end
end
section
open PySem PySem.W PySem.Calls PyProof.Rows

noncomputable def gone (fp : List Addr) (i : Nat) (o : Obj) : Obj := if fp.contains i = true then { o with data := .freed } else o
noncomputable def ground (h : Heap) (C : Nat) (fp : List Addr) : Heap := ⟨(h.objs.extract 0 C).mapIdx (gone fp), h.life⟩
theorem get?_objs (h : Heap) (a : Addr) : h.get? a = (h.objs[a]?).bind fun o => match o.data with | .freed => none | _ => some o := by
  unfold Heap.get?
  cases e : h.objs[a]? with
  | none => rfl
  | some o =>
    obtain ⟨c, d, dt, sl⟩ := o
    cases dt <;> rfl
theorem extract_get (os : Array Obj) (C a : Nat) : (os.extract 0 C)[a]? = if a < C then os[a]? else none := by
  rw [Array.getElem?_extract]
  by_cases h1 : a < C
  · rw [if_pos h1]
    by_cases h2 : a < os.size
    · rw [if_pos (by rw [Nat.sub_zero]; exact Nat.lt_min.mpr ⟨h1, h2⟩), Nat.zero_add]
    · rw [if_neg (by rw [Nat.sub_zero]; exact fun q => h2 (Nat.lt_min.mp q).2), Array.getElem?_eq_none (Nat.not_lt.mp h2)]
  · rw [if_neg h1, if_neg (by rw [Nat.sub_zero]; exact fun q => h1 (Nat.lt_min.mp q).1)]
theorem ground_get (h : Heap) (C : Nat) (fp : List Addr) (a : Addr) : (ground h C fp).get? a = if a < C ∧ a ∉ fp then h.get? a else none := by
  rw [get?_objs, get?_objs]
  show Option.bind (((h.objs.extract 0 C).mapIdx (gone fp))[a]?) _ = _
  rw [Array.getElem?_mapIdx, extract_get]
  by_cases h1 : a < C
  · rw [if_pos h1]
    by_cases h3 : a ∈ fp
    · rw [if_neg (fun q => q.2 h3)]
      cases e : h.objs[a]? with
      | none => rfl
      | some o =>
        simp only [Option.map_some, Option.bind_some, gone]
        rw [if_pos (by simpa using h3)]
    · rw [if_pos ⟨h1, h3⟩]
      cases e : h.objs[a]? with
      | none => rfl
      | some o =>
        simp only [Option.map_some, Option.bind_some, gone]
        rw [if_neg (by simpa using h3)]
  · rw [if_neg h1, if_neg (fun q => h1 q.1)]; rfl
theorem ground_size (h : Heap) (C : Nat) (fp : List Addr) : (ground h C fp).objs.size = min C h.objs.size := by
  show ((h.objs.extract 0 C).mapIdx (gone fp)).size = _
  simp
structure IsGround (h : Heap) (C : Nat) (fp : List Addr) (g : Heap) : Prop where
  get : ∀ a, g.get? a = if a < C ∧ a ∉ fp then h.get? a else none
  size : g.objs.size = min C h.objs.size
theorem isGround (h : Heap) (C : Nat) (fp : List Addr) : ∃ g, IsGround h C fp g := ⟨ground h C fp, ground_get h C fp, ground_size h C fp⟩
theorem IsGround.of {h g : Heap} {C : Nat} {fp : List Addr} {a : Addr} {o : Obj} (G : IsGround h C fp g) (e : g.get? a = some o) : a < C ∧ a ∉ fp ∧ h.get? a = some o := by
  rw [G.get] at e
  split at e
  · rename_i q; exact ⟨q.1, q.2, e⟩
  · cases e
theorem IsGround.keep {h g : Heap} {C : Nat} {fp : List Addr} {a : Addr} {o : Obj} (G : IsGround h C fp g) (h1 : a < C) (h2 : a ∉ fp) (e : h.get? a = some o) : g.get? a = some o := by
  rw [G.get, if_pos ⟨h1, h2⟩, e]
theorem IsGround.off {h g : Heap} {C : Nat} {fp : List Addr} {a : Addr} (G : IsGround h C fp g) (h2 : a ∈ fp) : g.get? a = none := by
  rw [G.get, if_neg (fun q => q.2 h2)]

structure Sep (g h : Heap) (news : List (Addr × Obj)) : Prop where
  keep : ∀ b o, g.get? b = some o → h.get? b = some o
  own : ∀ q ∈ news, h.get? q.1 = some q.2 ∧ g.get? q.1 = none
  nd : (news.map (·.1)).Nodup
theorem Sep.sub {g h : Heap} {R news : List (Addr × Obj)} (S : Sep g h R) (hs : news.Sublist R) : Sep g h news :=
  ⟨S.keep, fun q hq => S.own q (hs.subset hq), (hs.map _).nodup S.nd⟩
theorem Sep.nil {g h : Heap} (k : ∀ b o, g.get? b = some o → h.get? b = some o) : Sep g h [] := ⟨k, fun _ hq => (nomatch hq), List.nodup_nil⟩
theorem Led.sep {h₀ h : Heap} {L : Addr} {m : Str → Option Value} {news : List (Addr × Obj)} (F : Fr h₀ L h m) (N : Led h₀ L h news) : Sep h₀ h news :=
  ⟨F.keep, fun q hq => ⟨(N.N q hq).1, (N.N q hq).2.2⟩, N.nd⟩
theorem Led.sub {h₀ h : Heap} {L : Addr} {R news : List (Addr × Obj)} (N : Led h₀ L h R) (hs : news.Sublist R) : Led h₀ L h news :=
  ⟨fun q hq => N.N q (hs.subset hq), (hs.map _).nodup N.nd⟩
theorem Fr.has {h₀ h : Heap} {L : Addr} {m : Str → Option Value} (F : Fr h₀ L h m) : ∃ o, h.get? L = some o := let ⟨o, _, _, e, _⟩ := F.ns; ⟨o, e⟩
theorem openG {h₀ h : Heap} {L : Addr} {m : Str → Option Value} {A foot : List (Addr × Obj)} (F : Fr h₀ L h m) (N : Led h₀ L h (foot ++ A)) :
    ∃ g, Fr h₀ L g m ∧ Led h₀ L g A ∧ Sep g h foot ∧ g.objs.size = h.objs.size ∧ (∀ b o, h.get? b = some o → b ∉ foot.map (·.1) → g.get? b = some o) := by
  have nd := N.nd
  rw [List.map_append, List.nodup_append] at nd
  obtain ⟨g, G⟩ := isGround h h.objs.size (foot.map (·.1))
  have hk : ∀ b o, h.get? b = some o → b ∉ foot.map (·.1) → g.get? b = some o := fun b o e hb => G.keep (Heap.lt_size e) hb e
  have hL : L ∉ foot.map (·.1) := fun hm => by
    obtain ⟨q, hq, e⟩ := List.mem_map.mp hm
    exact (N.N q (List.mem_append_left _ hq)).2.1 e
  refine ⟨g, ⟨F.ns.at' fun o e => hk _ o e hL, fun b o e => hk b o (F.keep b o e) fun hm => ?_, ?_⟩, ⟨fun q hq => ⟨hk _ _ (N.N q (List.mem_append_right _ hq)).1 fun hm => ?_, (N.N q (List.mem_append_right _ hq)).2⟩, nd.2.1⟩,
    ⟨fun b o e => (G.of e).2.2, fun q hq => ⟨(N.N q (List.mem_append_left _ hq)).1, G.off (List.mem_map_of_mem hq)⟩, nd.1⟩, by rw [G.size, Nat.min_self], hk⟩
  · obtain ⟨q, hq, rfl⟩ := List.mem_map.mp hm
    rw [(N.N q (List.mem_append_left _ hq)).2.2] at e; cases e
  · exact F.above
  · exact nd.2.2 _ hm _ (List.mem_map_of_mem hq) rfl
theorem closeG {h₀ g h' : Heap} {L : Addr} {m : Str → Option Value} {A foot' : List (Addr × Obj)} (F : Fr h₀ L g m) (N : Led h₀ L g A) (S : Sep g h' foot') :
    Fr h₀ L h' m ∧ Led h₀ L h' (foot' ++ A) := by
  refine ⟨⟨F.ns.keeps S.keep, fun b o e => S.keep b o (F.keep b o e), F.above⟩, fun q hq => ?_, ?_⟩
  · rcases List.mem_append.mp hq with h1 | h1
    · refine ⟨(S.own q h1).1, fun e => ?_, ?_⟩
      · obtain ⟨o, ho⟩ := Fr.has F
        have := (S.own q h1).2
        rw [e, ho] at this; cases this
      · cases e : h₀.get? q.1 with
        | none => rfl
        | some o => have := (S.own q h1).2; rw [F.keep _ _ e] at this; cases this
    · exact ⟨S.keep _ _ (N.N q h1).1, (N.N q h1).2⟩
  · rw [List.map_append, List.nodup_append]
    refine ⟨S.nd, N.nd, fun a ha b hb e => ?_⟩
    obtain ⟨q, hq, rfl⟩ := List.mem_map.mp ha
    obtain ⟨p, hp, rfl⟩ := List.mem_map.mp hb
    have := (S.own q hq).2
    rw [e, (N.N p hp).1] at this; cases this
theorem Below.mono {A : Around} {base g g' : Heap} {outer : List Env} (B : Below A base outer g) (k : ∀ b o, g.get? b = some o → g'.get? b = some o) : Below A base outer g' :=
  ⟨B.stack, fun b o e => k b o (B.stays b o e), B.frames.of_keeps fun b o e _ => ⟨o, k b o e, rfl⟩⟩

noncomputable def HeapFn (w : World) (loose : List Str) (mean : ExcName → Option Value) (mg mb : Str → Option Value) (k : Nat) (f : Addr) (pos : List Value) (kw : List (Str × Value)) (foot : List (Addr × Obj)) (ok : Value → List (Addr × Obj) → Prop) : Prop :=
  ∀ (dp un : Nat) (gd : Option (List Code)) (outer : List Env) (base g : Heap) (s : Shared) (Q E : Value → Shared → Prop),
    Below (topA dp un gd outer) base outer g → (hd.heap_39 w.params).In g → Top hd.view_39 loose mean mg mb g → g.objs.size ≤ s.heap.objs.size → Sep g s.heap foot →
    dp + k < recursionLimit → un + 8 * k < cLine →
    (∀ (v : Value) (h' : Heap) (tk' : Nat) (foot' : List (Addr × Obj)), ok v foot' → Sep g h' foot' → Q v ⟨h', s.gens, s.drawn, tk', s.os⟩) →
    wpAny (model PySem.Challenge.rw_oy0258_01.row.prog w) (topA dp un gd outer) (call (.ref f) pos kw) Q E s
section
variable {w : World} {loose : List Str} {mean : ExcName → Option Value} {mg mb : Str → Option Value}
theorem HeapFn.use {k : Nat} {f : Addr} {pos : List Value} {kw : List (Str × Value)} {foot A : List (Addr × Obj)} {ok : Value → List (Addr × Obj) → Prop}
    (C : HeapFn w loose mean mg mb k f pos kw foot ok) {dp un : Nat} {gd : Option (List Code)} {outer : List Env} {base h₀ : Heap} {L : Addr} {m : Str → Option Value} {hh : Heap} {g : Array GenState} {dr : Drawn} {tk₀ : Nat} {os : OsState} {Q E : Value → Shared → Prop} {env : Env}
    (B : Below (topA dp un gd outer) base outer h₀) (F : Fr h₀ L hh m) (X : (hd.heap_39 w.params).In h₀) (T : Top hd.view_39 loose mean mg mb h₀) (N : Led h₀ L hh (foot ++ A))
    (hd : dp + (k + 1) < recursionLimit) (hu : un + 8 * (k + 1) < cLine)
    (h : ∀ (v : Value) (h' : Heap) (tk' : Nat) (foot' : List (Addr × Obj)), ok v foot' → Fr h₀ L h' m → Led h₀ L h' (foot' ++ A) → Q v ⟨h', g, dr, tk', os⟩)
    (hf : env.frame = some L) (hck : env.scope.kind = .function) :
    wpAny (model PySem.Challenge.rw_oy0258_01.row.prog w) ((topA dp un gd outer).deeper env) (call (.ref f) pos kw) Q E ⟨hh, g, dr, tk₀, os⟩ := by
  obtain ⟨gr, Fg, Ng, S, hsz, _⟩ := openG F N
  exact C (dp + 1) (un + 3) gd (env :: outer) base gr ⟨hh, g, dr, tk₀, os⟩ Q E (pushX B Fg hf hck) (X.keeps Fg.keep) (T.keeps Fg.keep) (Nat.le_of_eq hsz) S (by lia) (by lia)
    fun v h' tk' foot' o S' => h v h' tk' foot' o (closeG Fg Ng S').1 (closeG Fg Ng S').2
end
end
section
open PySem PySem.W PySem.Calls PyProof.Rows

structure CSt (g : Heap) (wr ex : List Addr) (D C : Addr) (St : Nat → Heap → Prop) (news : List (Addr × Obj)) (i : Nat) (h : Heap) (o : Obj) (made : List (Addr × Obj)) : Prop where
  st : St i h
  sep : Sep g h (made ++ news)
  off : ∀ q ∈ made ++ news, q.1 ∉ wr ∧ q.1 ≠ D ∧ q.1 ≠ C ∧ q.1 ∉ ex
  acc : h.get? D = some o
structure CFix (g : Heap) (fp wr ex : List Addr) (D C : Addr) (St : Nat → Heap → Prop) (news : List (Addr × Obj)) : Prop where
  gD : g.objs.size ≤ D
  DC : D < C
  Cex : ∀ b ∈ ex, C < b
  fpD : ∀ b ∈ fp, b < D
  wrfp : ∀ b ∈ wr, b ∈ fp
  gwr : ∀ b ∈ wr, g.get? b = none
  has : ∀ i h, St i h → ∀ b ∈ wr, ∃ o, h.get? b = some o
  fpk : ∀ b ∈ fp, b ∉ wr → (∃ o, g.get? b = some o) ∨ ∃ o, (b, o) ∈ news
  frame : ∀ i h h', St i h → (∀ b ∈ fp, ∀ o, h.get? b = some o → h'.get? b = some o) → St i h'
structure CTurn (g g' : Heap) (fp wr : List Addr) (D C : Addr) (news made cv : List (Addr × Obj)) (l : List (Str × Value)) (h1 h2 : Heap) (o : Obj) : Prop where
  kp : ∀ b o, g.get? b = some o → g'.get? b = some o
  F : Fr g' C h2 (mp l)
  N : Led g' C h2 (made ++ (cv ++ news))
  gD : g'.get? D = some o
  gwr : ∀ b ∈ wr, ∃ o, g'.get? b = some o
  gfp : ∀ b ∈ fp, b ∉ (made ++ news).map (·.1) → ∀ o, h1.get? b = some o → g'.get? b = some o
  h1n : ∀ q ∈ made ++ news, h1.get? q.1 = some q.2
theorem turn_start {g : Heap} {fp wr ex : List Addr} {D C : Addr} {St : Nat → Heap → Prop} {news made cv : List (Addr × Obj)} {i : Nat} {h h1 h2 : Heap} {o : Obj} {l : List (Str × Value)}
    (K : CFix g fp wr ex D C St news) (c : CSt g wr ex D C St news i h o made) (h1k : ∀ b o, b ∉ wr → h.get? b = some o → h1.get? b = some o) (st1 : St (i + 1) h1)
    (h2k : ∀ b, b ≠ C → b ∉ ex → h2.get? b = h1.get? b) (ns : h2.Ns C (mp l)) (hcv : ∀ q ∈ cv, h2.get? q.1 = some q.2) (hex : cv.map (·.1) = ex) (exnd : ex.Nodup) :
    ∃ g', CTurn g g' fp wr D C news made cv l h1 h2 o := by
  obtain ⟨g', G⟩ := isGround h2 C ((made ++ news).map (·.1))
  have nCx : C ∉ ex := fun hm => Nat.lt_irrefl _ (K.Cex _ hm)
  have h1n : ∀ q ∈ made ++ news, h1.get? q.1 = some q.2 := fun q hq => h1k _ _ (c.off q hq).1 (c.sep.own q hq).1
  have h2n : ∀ q ∈ made ++ news, h2.get? q.1 = some q.2 := fun q hq => (h2k _ (c.off q hq).2.2.1 (c.off q hq).2.2.2).trans (h1n q hq)
  have low : ∀ b, b < C → b ≠ C ∧ b ∉ ex := fun b hb => ⟨Nat.ne_of_lt hb, fun hm => Nat.lt_asymm hb (K.Cex _ hm)⟩
  have gk : ∀ b o, g.get? b = some o → b ∉ (made ++ news).map (·.1) := fun b o e hm => by
    obtain ⟨q, hq, rfl⟩ := List.mem_map.mp hm
    rw [(c.sep.own q hq).2] at e; cases e
  have gw : ∀ b o, g.get? b = some o → b ∉ wr := fun b o e hm => by rw [K.gwr b hm] at e; cases e
  have gD : ∀ b o, g.get? b = some o → b < D := fun b o e => Nat.lt_of_lt_of_le (Heap.lt_size e) K.gD
  have Dwr : D ∉ wr := fun hm => Nat.lt_irrefl _ (K.fpD _ (K.wrfp _ hm))
  have Dn : D ∉ (made ++ news).map (·.1) := fun hm => by
    obtain ⟨q, hq, e⟩ := List.mem_map.mp hm
    exact (c.off q hq).2.1 e
  have wrn : ∀ b ∈ wr, b ∉ (made ++ news).map (·.1) := fun b hb hm => by
    obtain ⟨q, hq, rfl⟩ := List.mem_map.mp hm
    exact (c.off q hq).1 hb
  refine ⟨g', ⟨fun b o e => ?_, ⟨ns, fun b o e => (G.of e).2.2, ?_⟩, ⟨fun q hq => ?_, ?_⟩, ?_, fun b hb => ?_, fun b hb hn o e => ?_, h1n⟩⟩
  · have hb := Nat.lt_trans (gD b o e) K.DC
    exact G.keep hb (gk b o e) ((h2k b (low b hb).1 (low b hb).2).trans (h1k b o (gw b o e) (c.sep.keep b o e)))
  · rw [G.size]; exact Nat.min_le_left _ _
  · have hn : q ∈ made ++ news → h2.get? q.1 = some q.2 ∧ q.1 ≠ C ∧ g'.get? q.1 = none := fun hm => ⟨h2n q hm, (c.off q hm).2.2.1, G.off (List.mem_map_of_mem hm)⟩
    rcases List.mem_append.mp hq with h3 | h3
    · exact hn (List.mem_append_left _ h3)
    · rcases List.mem_append.mp h3 with h4 | h4
      · have hx : q.1 ∈ ex := hex ▸ List.mem_map_of_mem h4
        refine ⟨hcv q h4, fun e => nCx (e ▸ hx), ?_⟩
        rw [G.get, if_neg (fun r => Nat.lt_asymm r.1 (K.Cex _ hx))]
      · exact hn (List.mem_append_right _ h4)
  · have nd := c.sep.nd
    rw [List.map_append, List.nodup_append] at nd
    rw [List.map_append, List.map_append, List.nodup_append, List.nodup_append, hex]
    have off : ∀ q ∈ made ++ news, q.1 ∉ ex := fun q hq => (c.off q hq).2.2.2
    refine ⟨nd.1, ⟨exnd, nd.2.1, fun a ha b hb e => ?_⟩, fun a ha b hb e => ?_⟩
    · obtain ⟨q, hq, rfl⟩ := List.mem_map.mp hb
      exact off q (List.mem_append_right _ hq) (e ▸ ha)
    · obtain ⟨q, hq, rfl⟩ := List.mem_map.mp ha
      rcases List.mem_append.mp hb with h3 | h3
      · exact off q (List.mem_append_left _ hq) (e ▸ h3)
      · exact nd.2.2 _ (List.mem_map_of_mem hq) _ h3 e
  · exact G.keep K.DC Dn ((h2k D (low D K.DC).1 (low D K.DC).2).trans (h1k D o Dwr c.acc))
  · obtain ⟨o', ho⟩ := K.has _ _ st1 b hb
    have hlt := Nat.lt_trans (K.fpD b (K.wrfp b hb)) K.DC
    exact ⟨o', G.keep hlt (wrn b hb) ((h2k b (low b hlt).1 (low b hlt).2).trans ho)⟩
  · have hlt := Nat.lt_trans (K.fpD b hb) K.DC
    exact G.keep hlt hn ((h2k b (low b hlt).1 (low b hlt).2).trans e)
theorem turn_end {g g' : Heap} {fp wr ex : List Addr} {D C : Addr} {St : Nat → Heap → Prop} {news made made' cv R : List (Addr × Obj)} {i : Nat} {h1 h2 h3 h4 : Heap} {o o' : Obj} {l : List (Str × Value)}
    (K : CFix g fp wr ex D C St news) (T : CTurn g g' fp wr D C news made cv l h1 h2 o) (st1 : St (i + 1) h1) (hex : cv.map (·.1) = ex)
    (F3 : Fr g' C h3 (mp l)) (N3 : Led g' C h3 R) (hs : (made' ++ (cv ++ news)).Sublist R) (h4k : Heap.SameBut D h3 h4) (h4D : h4.get? D = some o') :
    CSt g wr ex D C St news (i + 1) h4 o' made' ∧ h4.Ns C (mp l) ∧ ∀ q ∈ cv, h4.get? q.1 = some q.2 := by
  have sub := hs.subset
  have subN : ∀ q ∈ made' ++ news, q ∈ R := fun q hq => by
    rcases List.mem_append.mp hq with h | h
    · exact sub (List.mem_append_left _ h)
    · exact sub (List.mem_append_right _ (List.mem_append_right _ h))
  have subC : ∀ q ∈ cv, q ∈ R := fun q hq => sub (List.mem_append_right _ (List.mem_append_left _ hq))
  have RD : ∀ q ∈ R, q.1 ≠ D := fun q hq e => by have := (N3.N q hq).2.2; rw [e, T.gD] at this; cases this
  have R4 : ∀ q ∈ R, h4.get? q.1 = some q.2 := fun q hq => (h4k.2 _ (RD q hq)).trans (N3.N q hq).1
  have nd : ((made' ++ (cv ++ news)).map (·.1)).Nodup := (hs.map _).nodup N3.nd
  have hslist : (made' ++ news).Sublist (made' ++ (cv ++ news)) := List.Sublist.append_left (List.sublist_append_right _ _) _
  refine ⟨⟨K.frame _ _ _ st1 fun b hb o e => ?_, ⟨fun b o e => ?_, fun q hq => ⟨R4 q (subN q hq), ?_⟩, ((hslist.trans hs).map _).nodup N3.nd⟩, fun q hq => ⟨fun hw => ?_, RD q (subN q hq), (N3.N q (subN q hq)).2.1, fun hx => ?_⟩, h4D⟩,
    F3.ns.sameBut h4k (Ne.symm (Nat.ne_of_lt K.DC)), fun q hq => R4 q (subC q hq)⟩
  · have bD : b ≠ D := Nat.ne_of_lt (K.fpD b hb)
    refine (h4k.2 b bD).trans ?_
    by_cases hn : b ∈ (made ++ news).map (·.1)
    · by_cases hw : b ∈ wr
      · obtain ⟨q, hq, rfl⟩ := List.mem_map.mp hn
        obtain ⟨o2, ho2⟩ := T.gwr _ hw
        have hmem : q ∈ made ++ (cv ++ news) := by
          rcases List.mem_append.mp hq with h | h
          · exact List.mem_append_left _ h
          · exact List.mem_append_right _ (List.mem_append_right _ h)
        rw [(T.N.N q hmem).2.2] at ho2; cases ho2
      · rcases K.fpk b hb hw with ⟨o2, ho2⟩ | ⟨o2, ho2⟩
        · obtain ⟨q, hq, rfl⟩ := List.mem_map.mp hn
          have hmem : q ∈ made ++ (cv ++ news) := by
            rcases List.mem_append.mp hq with h | h
            · exact List.mem_append_left _ h
            · exact List.mem_append_right _ (List.mem_append_right _ h)
          have := T.kp _ _ ho2
          rw [(T.N.N q hmem).2.2] at this; cases this
        · have h5 := T.h1n _ (List.mem_append_right made ho2)
          rw [h5] at e
          cases e
          exact (N3.N _ (subN _ (List.mem_append_right _ ho2))).1
    · exact F3.keep b o (T.gfp b hb hn o e)
  · have hb : b ≠ D := fun q => by
      have := Heap.lt_size e
      rw [q] at this
      exact absurd this (Nat.not_lt.mpr K.gD)
    exact (h4k.2 b hb).trans (F3.keep b o (T.kp b o e))
  · cases e : g.get? q.1 with
    | none => rfl
    | some o2 => have := T.kp _ _ e; rw [(N3.N q (subN q hq)).2.2] at this; cases this
  · obtain ⟨o2, ho2⟩ := T.gwr _ hw
    rw [(N3.N q (subN q hq)).2.2] at ho2; cases ho2
  · rw [← hex] at hx
    obtain ⟨p, hp, e⟩ := List.mem_map.mp hx
    rw [List.map_append, List.map_append, List.nodup_append, List.nodup_append] at nd
    rcases List.mem_append.mp hq with h | h
    · exact nd.2.2 _ (List.mem_map_of_mem h) _ (List.mem_append_left _ (List.mem_map_of_mem hp)) e.symm
    · exact nd.2.1.2.2 _ (List.mem_map_of_mem hp) _ (List.mem_map_of_mem h) e
end
section
open PySem PySem.W PySem.Calls PyProof.Rows
noncomputable def EPost (g' : Heap) (C : Addr) (gs : Array GenState) (dr : Drawn) (os : OsState) (l : List (Str × Value)) (rest : List (Addr × Obj)) (Jn : List (Addr × Obj) → Prop) (s₄ : Shared) : Prop :=
  ∃ h' tk' R made', s₄ = ⟨h', gs, dr, tk', os⟩ ∧ Fr g' C h' (mp l) ∧ Led g' C h' R ∧ (made' ++ rest).Sublist R ∧ Jn made'
theorem EPost.intro {g' : Heap} {C : Addr} {gs : Array GenState} {dr : Drawn} {os : OsState} {l : List (Str × Value)} {rest R : List (Addr × Obj)} {Jn : List (Addr × Obj) → Prop} {h' : Heap} {tk' : Nat} (made' : List (Addr × Obj))
    (F : Fr g' C h' (mp l)) (N : Led g' C h' R) (hs : (made' ++ rest).Sublist R) (j : Jn made') : EPost g' C gs dr os l rest Jn ⟨h', gs, dr, tk', os⟩ := ⟨h', tk', R, made', rfl, F, N, hs, j⟩
structure Tgt (prog : Program) (w : World) (A : Around) (cenv : Env) (x : Str) (px : Pos) (C : Addr) (ex : List Addr) (TOk : Heap → Prop) (Sh : Value → List (Str × Value) → List (Addr × Obj) → Prop) : Prop where
  store : ∀ v (s : Shared) (Q : Unit → Shared → Prop) (E : Value → Shared → Prop), TOk s.heap → (∀ h1 tk l cv, Sh v l cv → h1.Ns C (mp l) → (∀ q ∈ cv, h1.get? q.1 = some q.2) → (∀ b, b ≠ C → b ∉ ex → h1.get? b = s.heap.get? b) → Q () { s with heap := h1, toks := tk }) →
    wpAny (model prog w) A (assign (.Name x px) cenv v) Q E s
  back : ∀ v l cv h, Sh v l cv → h.Ns C (mp l) → (∀ q ∈ cv, h.get? q.1 = some q.2) → TOk h
  shape : ∀ v l cv, Sh v l cv → cv.map (·.1) = ex
  mono : ∀ h h', TOk h → (∀ b, (b = C ∨ b ∈ ex) → ∀ o, h.get? b = some o → h'.get? b = some o) → TOk h'
  ns : ∀ h, TOk h → ∃ m, h.Ns C m
  exnd : ex.Nodup
section
variable {prog : Program} {w : World} {A : Around} {gs : Array GenState} {dr : Drawn} {os : OsState}
theorem lc_core {elt iter : PySem.Expr} {x : Str} {px : Pos} {ifs : List PySem.Expr} {scope : Scope} {pos : Pos} {I D C : Addr} {g : Heap} {fp wr ex : List Addr} {n : Nat} {P : Nat → Value → Prop} {St : Nat → Heap → Prop} {cenv : Env} {news : List (Addr × Obj)}
    {TOk : Heap → Prop} {Sh : Value → List (Str × Value) → List (Addr × Obj) → Prop} {R : Result → Shared → Prop} {h0 : Heap} {tk0 : Nat}
    (W : Walks prog w A I fp wr n P St) (hsz : n ≤ sizeLine) (K : CFix g fp wr ex D C St news) (T : Tgt prog w A cenv x px C ex TOk Sh)
    (J : Nat → List Value → List (Addr × Obj) → Prop) (c0 : CSt g wr ex D C St news 0 h0 (listOf #[] 0) []) (t0 : TOk h0) (j0 : J 0 [] [])
    (step : ∀ i v l cv ys made g' h tk, i < n → P i v → Sh v l cv → J i ys made → (∀ b o, g.get? b = some o → g'.get? b = some o) → Fr g' C h (mp l) → Led g' C h (made ++ (cv ++ news)) →
      wpAny (model prog w) A (forIn ifs true fun c r => if r = true then do let ok ← isTrue c cenv (eval c cenv); pure (ForInStep.yield ok) else pure (ForInStep.yield r))
        (fun ok s₃ => if ok = true then wpAny (model prog w) A (eval elt cenv) (fun y s₄ => EPost g' C gs dr os l (cv ++ news) (J (i + 1) (ys ++ [y])) s₄) (fun _ _ => False) s₃
          else EPost g' C gs dr os l (cv ++ news) (J (i + 1) ys) s₃) (fun _ _ => False) ⟨h, gs, dr, tk, os⟩)
    (hR : ∀ h tk ys made ep, J n ys made → Sep g h ((D, listOf ys.toArray ep) :: (made ++ news)) → (∀ q ∈ (D, listOf ys.toArray ep) :: (made ++ news), q.1 ≠ C) → (∃ m, h.Ns C m) → R (.ok .next) ⟨h, gs, dr, tk, os⟩) :
    codeAny (model prog w) A (.compLoop (.ListComp elt [⟨.Name x px, iter, ifs, 0⟩] scope pos) 0 (.ref I) (.ref D) cenv) R ⟨h0, gs, dr, tk0, os⟩ := by
  refine codeAny_compLoop_tests (fun k s' => ∃ i ys made h tk ep, s' = ⟨h, gs, dr, tk, os⟩ ∧ k = n + 1 - i ∧ i ≤ n ∧ CSt g wr ex D C St news i h (listOf ys.toArray ep) made ∧ TOk h ∧ J i ys made ∧ ys.length ≤ i) ?_ (n + 1)
    ⟨0, [], [], h0, tk0, 0, rfl, rfl, Nat.zero_le _, c0, t0, j0, Nat.le_refl _⟩
  intro k s' z1
  refine nameG fun GG hGG => ?_
  obtain ⟨i, ys, made, h, tk, ep, rfl, rfl, hi, c, t, j, hl⟩ := z1
  refine hGG ?_; clear hGG GG
  have Dwr : D ∉ wr := fun hm => Nat.lt_irrefl _ (K.fpD _ (K.wrfp _ hm))
  have Cw : ∀ b, (b = C ∨ b ∈ ex) → b ∉ wr := fun b hb hm => by
    have h1 := Nat.lt_trans (K.fpD _ (K.wrfp _ hm)) K.DC
    rcases hb with rfl | hb
    · exact Nat.lt_irrefl _ h1
    · exact Nat.lt_asymm h1 (K.Cex _ hb)
  by_cases hlt : i < n
  · refine W.item i _ _ _ hlt c.st fun v h1 tk1 hP st1 hk1 => ?_
    refine T.store v _ _ _ (T.mono h h1 t fun b hb o e => hk1 b o (Cw b hb) e) fun h2 tk2 l cv sh ns hcv h2k => ?_
    obtain ⟨g', ct⟩ := turn_start K c hk1 st1 h2k ns hcv (T.shape _ _ _ sh) T.exnd
    refine wpAny_noRaise (wpAny_mono (step i v l cv ys made g' h2 tk2 hlt hP sh j ct.kp ct.F ct.N) (fun ok s₃ q => ?_) fun _ _ f => f)
    cases ok with
    | true =>
      rw [if_pos rfl] at q ⊢
      refine wpAny_noRaise (wpAny_mono q (fun y s₄ q => ?_) fun _ _ f => f)
      refine nameG fun GG hGG => ?_
      obtain ⟨h3, tk3, R3, made', rfl, F3, N3, hs, j'⟩ := q
      refine hGG ?_; clear hGG GG
      have hD3 : h3.get? D = some (listOf ys.toArray ep) := F3.keep _ _ ct.gD
      refine append_at hD3 (fun h4 hs4 hD4 => ?_) (by simp; lia)
      obtain ⟨c', ns', hcv'⟩ := turn_end K ct st1 (T.shape _ _ _ sh) F3 N3 hs hs4 hD4
      refine ⟨n + 1 - (i + 1), by lia, i + 1, ys ++ [y], made', h4, _, ep + 1, rfl, rfl, hlt, ?_, T.back _ _ _ _ sh ns' hcv', j', by simp; lia⟩
      have e : ({ cls := Value.type "list", data := Data.seq (ys.toArray.push y) (ep + 1) } : Obj) = listOf (ys ++ [y]).toArray (ep + 1) := by
        rw [show ys.toArray.push y = (ys ++ [y]).toArray by simp]
      exact e ▸ c'
    | false =>
      rw [if_neg (by decide)] at q ⊢
      refine nameG fun GG hGG => ?_
      obtain ⟨h3, tk3, R3, made', rfl, F3, N3, hs, j'⟩ := q
      obtain ⟨c', ns', hcv'⟩ := turn_end (h4 := h3) K ct st1 (T.shape _ _ _ sh) F3 N3 hs (Heap.SameBut.refl ..) (F3.keep _ _ ct.gD)
      refine hGG ?_; clear hGG GG
      exact ⟨n + 1 - (i + 1), by lia, i + 1, ys, made', h3, _, ep, rfl, rfl, hlt, c', T.back _ _ _ _ sh ns' hcv', j', by lia⟩
  · have hin : i = n := by lia
    subst hin
    refine W.done _ _ _ c.st fun h1 tk1 hk1 => ?_
    refine hR h1 tk1 ys made ep j ⟨fun b o e => hk1 b o (fun hm => by rw [K.gwr b hm] at e; cases e) (c.sep.keep b o e), fun q hq => ?_, ?_⟩ (fun q hq => ?_) (T.ns h1 (T.mono h h1 t fun b hb o e => hk1 b o (Cw b hb) e))
    · rcases List.mem_cons.mp hq with rfl | hq
      · refine ⟨hk1 _ _ Dwr c.acc, ?_⟩
        cases e : g.get? D with
        | none => rfl
        | some o => exact absurd (Heap.lt_size e) (Nat.not_lt.mpr K.gD)
      · exact ⟨hk1 _ _ (c.off q hq).1 (c.sep.own q hq).1, (c.sep.own q hq).2⟩
    · rw [List.map_cons, List.nodup_cons]
      refine ⟨fun hm => ?_, c.sep.nd⟩
      obtain ⟨q, hq, e⟩ := List.mem_map.mp hm
      exact (c.off q hq).2.1 e
    · rcases List.mem_cons.mp hq with rfl | hq
      · exact Nat.ne_of_lt K.DC
      · exact (c.off q hq).2.2.1
end
end
section
open PySem PySem.W PySem.Calls PyProof.Rows
theorem openW {h₀ h : Heap} {L : Addr} {m : Str → Option Value} {news : List (Addr × Obj)} {wr : List Addr} (F : Fr h₀ L h m) (N : Led h₀ L h news) (hw : ∀ b ∈ wr, b ≠ L ∧ h₀.get? b = none) :
    ∃ g, Fr h₀ L g m ∧ Sep g h news ∧ g.objs.size = h.objs.size ∧ (∀ b ∈ wr, g.get? b = none) ∧ (∀ b o, h.get? b = some o → b ∉ news.map (·.1) → b ∉ wr → g.get? b = some o) := by
  obtain ⟨g, G⟩ := isGround h h.objs.size (news.map (·.1) ++ wr)
  have hk : ∀ b o, h.get? b = some o → b ∉ news.map (·.1) → b ∉ wr → g.get? b = some o := fun b o e h1 h2 => G.keep (Heap.lt_size e) (fun hm => (List.mem_append.mp hm).elim h1 h2) e
  have hL : L ∉ news.map (·.1) := fun hm => by
    obtain ⟨q, hq, e⟩ := List.mem_map.mp hm
    exact (N.N q hq).2.1 e
  have hLw : L ∉ wr := fun hm => (hw L hm).1 rfl
  refine ⟨g, ⟨F.ns.at' fun o e => hk _ o e hL hLw, fun b o e => hk b o (F.keep b o e) (fun hm => ?_) (fun hm => ?_), F.above⟩, ⟨fun b o e => (G.of e).2.2, fun q hq => ⟨(N.N q hq).1, G.off (List.mem_append_left _ (List.mem_map_of_mem hq))⟩, N.nd⟩,
    by rw [G.size, Nat.min_self], fun b hb => G.off (List.mem_append_right _ hb), hk⟩
  · obtain ⟨q, hq, rfl⟩ := List.mem_map.mp hm
    rw [(N.N q hq).2.2] at e; cases e
  · rw [(hw b hm).2] at e; cases e
theorem closeW {h₀ g h' : Heap} {L : Addr} {m : Str → Option Value} {R : List (Addr × Obj)} (F : Fr h₀ L g m) (S : Sep g h' R) : Fr h₀ L h' m ∧ Led h₀ L h' R := by
  have := closeG F (Led.nil) S
  rw [List.append_nil] at this
  exact this
noncomputable def Src (prog : Program) (w : World) (A : Around) (h₀ : Heap) (L : Addr) (hh : Heap) (news : List (Addr × Obj)) (I : Addr) (n : Nat) (P : Nat → Value → Prop) : Prop :=
  ∃ (fp wr : List Addr) (St : Nat → Heap → Prop), Walks prog w A I fp wr n P St ∧ St 0 hh ∧ (∀ b ∈ fp, ∃ o, hh.get? b = some o) ∧ (∀ b ∈ wr, b ≠ L ∧ h₀.get? b = none ∧ b ∉ news.map (·.1)) ∧ (∀ i h, St i h → ∀ b ∈ wr, ∃ o, h.get? b = some o) ∧ n ≤ sizeLine
section
variable {M : Model} {A : Around} {E : Value → Shared → Prop} {s : Shared} {env : Env}
theorem newComp {scope : Scope} {cl : List (Str × Addr)} {Q : Env → Shared → Prop}
    (h : Q { scope := scope, locals := s.heap.objs.size, globals := env.globals, cells := cellsFrom (s.heap.objs.size + 1) scope.names cl, qual := env.qual, func := none, code := env.code, frame := env.frame, builtins := env.builtins }
      { s with heap := pushCells (s.heap.push { cls := .type "dict", data := .dict #[] }) scope.names }) :
    wpAny M A (newFunctionEnv scope env.globals cl [] env.qual none .none (some env)) Q E s := by
  simp only [newFunctionEnv, Option.isSome_some, if_true]
  refine wpAny_bind (wpAny_alloc ?_)
  refine wpAny_bind (wpAny_layCells _ (fun name kind cells => by cases hkc : kind == NameKind.cell <;> simp [hkc]) _ _ _ _ ?_)
  rw [show ({ s with heap := s.heap.push { cls := .type "dict", data := .dict #[] } } : Shared).heap.objs.size = s.heap.objs.size + 1 from Heap.size_push ..]
  refine wpAny_bind ?_
  rw [List.forIn_nil]
  exact wpAny_pure (wpAny_pure h)
theorem pushCells_none : ∀ (names : List (Str × NameKind)) (h : Heap), (∀ y ∈ names, y.2 ≠ .cell) → pushCells h names = h
  | [], _, _ => rfl
  | (n, k) :: r, h, hc => by
    unfold pushCells
    rw [if_neg (by have := hc _ (.head _); simpa using this)]
    exact pushCells_none r h fun y hy => hc y (.tail _ hy)
theorem cellsFrom_none : ∀ (names : List (Str × NameKind)) (k : Nat) (acc : List (Str × Addr)), (∀ y ∈ names, y.2 ≠ .cell) → cellsFrom k names acc = acc
  | [], _, _, _ => rfl
  | (n, kd) :: r, k, acc, hc => by
    unfold cellsFrom
    rw [if_neg (by have := hc _ (.head _); simpa using this)]
    exact cellsFrom_none r k acc fun y hy => hc y (.tail _ hy)
end
section
variable {prog : Program} {w : World} {A : Around} {gs : Array GenState} {dr : Drawn} {os : OsState}
theorem tgtL {cenv : Env} {x : Str} {px : Pos} {C : Addr} (hC : cenv.locals = C) (hx : cenv.kindOf x = some .local) (hk : cenv.scope.kind = .function) :
    Tgt prog w A cenv x px C [] (fun h => ∃ l, h.Ns C (mp l) ∧ (l = [] ∨ ∃ v, l = [(x, v)])) (fun v l cv => l = [(x, v)] ∧ cv = []) where
  store := fun v s Q E ⟨l, hn, hl⟩ hQ => by
    subst hC
    refine wpAny_assign_Name (wpAny_storeName_local hx hn (fun h1 ns1 sb1 => hQ h1 _ [(x, v)] [] ⟨rfl, rfl⟩ ?_ (fun q hq => nomatch hq) fun b hb _ => sb1.2 b hb) (by rw [hk]; rfl))
    rcases hl with rfl | ⟨v0, rfl⟩
    · exact (MSet.nil (x := x) (v := v)).eq ▸ ns1
    · exact (MSet.head (x := x) (v := v) (u := v0) (r := [])).eq ▸ ns1
  back := fun v l cv h ⟨e, _⟩ hn _ => ⟨l, hn, .inr ⟨v, e⟩⟩
  shape := fun v l cv ⟨_, e⟩ => by rw [e]; rfl
  mono := fun h h' ⟨l, hn, hl⟩ k => ⟨l, hn.at' fun o e => k _ (.inl rfl) o e, hl⟩
  ns := fun h ⟨l, hn, _⟩ => ⟨_, hn⟩
  exnd := List.nodup_nil
theorem tgtC {cenv : Env} {x : Str} {px : Pos} {C : Addr} (hC : cenv.locals = C) (hx : cenv.kindOf x = some .cell) (hc : cenv.cells.lookup x = some (C + 1)) (hk : cenv.scope.kind = .function) :
    Tgt prog w A cenv x px C [C + 1] (fun h => h.Ns C (mp []) ∧ ∃ v, h.IsCell (C + 1) v) (fun v l cv => l = [] ∧ ∃ o : Obj, cv = [(C + 1, o)] ∧ o.data = .cell (some v)) where
  store := fun v s Q E ⟨hn, v0, hcell⟩ hQ => by
    subst hC
    refine wpAny_assign_Name (wpAny_storeName_cell hk hx hc hcell fun h1 hc1 sb1 => ?_)
    obtain ⟨o, ho, hd⟩ := hc1
    exact hQ h1 _ [] [(_, o)] ⟨rfl, o, rfl, hd⟩ (hn.sameBut sb1 (Nat.ne_of_lt (Nat.lt_succ_self _))) (fun q hq => by simp only [List.mem_cons, List.not_mem_nil, or_false] at hq; subst hq; exact ho) fun b _ hb => sb1.2 b fun e => hb (by simp [e])
  back := fun v l cv h ⟨e, o, e2, hd⟩ hn hq => by subst e; subst e2; exact ⟨hn, some v, o, hq _ (.head _), hd⟩
  shape := fun v l cv ⟨_, o, e, _⟩ => by rw [e]; rfl
  mono := fun h h' ⟨hn, v, o, ho, hd⟩ k => ⟨hn.at' fun o e => k _ (.inl rfl) o e, v, o, k _ (.inr (by simp)) o ho, hd⟩
  ns := fun h ⟨hn, _⟩ => ⟨_, hn⟩
  exnd := by simp

theorem lc_block {env : Env} {elt iter : PySem.Expr} {x : Str} {px : Pos} {ifs : List PySem.Expr} {scope : Scope} {pos : Pos} {I : Addr} {h₀ hh : Heap} {L : Addr} {m : Str → Option Value} {n : Nat} {P : Nat → Value → Prop} {news : List (Addr × Obj)} {cl : List (Str × Addr)}
    {tk : Nat} {RR : Value → Addr → Result → Shared → Prop} {ex : Addr → List Addr} {TOk : Addr → Heap → Prop} {Sh : Addr → Value → List (Str × Value) → List (Addr × Obj) → Prop} {E : Value → Shared → Prop} {clC : Addr → List (Str × Addr)} {pc : Heap → Heap}
    (S : Src prog w A h₀ L hh news I n P) (F : Fr h₀ L hh m) (N : Led h₀ L hh news)
    (hcl : ∀ C, cellsFrom (C + 1) scope.names cl = clC C) (hpc : ∀ h, pushCells h scope.names = pc h) (hpk : ∀ h b o, h.get? b = some o → (pc h).get? b = some o)
    (T : ∀ C, Tgt prog w A (compEnvC scope (clC C) C env) x px C (ex C) (TOk C) (Sh C)) (hex : ∀ C, ∀ b ∈ ex C, C < b)
    (t0 : ∀ h : Heap, TOk h.objs.size (pc (h.push { cls := .type "dict", data := .dict #[] })))
    (J : Nat → List Value → List (Addr × Obj) → Prop) (j0 : J 0 [] [])
    (step : ∀ i v C l cv ys made g' h tk, i < n → P i v → Sh C v l cv → J i ys made → Fr h₀ L g' m → Fr g' C h (mp l) → Led g' C h (made ++ (cv ++ news)) →
      wpAny (model prog w) A (forIn ifs true fun c r => if r = true then do let ok ← isTrue c (compEnvC scope (clC C) C env) (eval c (compEnvC scope (clC C) C env)); pure (ForInStep.yield ok) else pure (ForInStep.yield r))
        (fun ok s₃ => if ok = true then wpAny (model prog w) A (eval elt (compEnvC scope (clC C) C env)) (fun y s₄ => EPost g' C gs dr os l (cv ++ news) (J (i + 1) (ys ++ [y])) s₄) (fun _ _ => False) s₃
          else EPost g' C gs dr os l (cv ++ news) (J (i + 1) ys) s₃) (fun _ _ => False) ⟨h, gs, dr, tk, os⟩)
    (hR : ∀ D C oC h tk ys made ep, J n ys made → Fr h₀ L h m → Led h₀ L h ((C, oC) :: (D, listOf ys.toArray ep) :: (made ++ news)) → (∃ m, h.Ns C m) → RR (.ref D) C (.ok .next) ⟨h, gs, dr, tk, os⟩) :
    wpAny (model prog w) A (newList []) (fun acc s₃ => wpAny (model prog w) A (newFunctionEnv scope env.globals cl [] env.qual none .none (some env)) (fun cenv s₄ =>
      codeAny (model prog w) A (.compStart (.ListComp elt [⟨.Name x px, iter, ifs, 0⟩] scope pos) 0 (.ref I) acc { cenv with scope := relabel scope env }) (RR acc cenv.locals) s₄) E s₃) E ⟨hh, gs, dr, tk, os⟩ := by
  refine nameG fun GG hGG => ?_
  obtain ⟨fp, wr, St, W, st0, hfp, hwr, has, hsz⟩ := S
  obtain ⟨g, Fg, Sg, gsz, gw, gk⟩ := openW F N fun b hb => ⟨(hwr b hb).1, (hwr b hb).2.1⟩
  refine hGG ?_; clear hGG GG
  refine wpAny_newObj_type (newComp ?_)
  dsimp only
  rw [hcl, hpc]
  generalize hH1 : hh.push { cls := Value.type "list", dict := none, data := Data.seq ([] : List Value).toArray } = H1
  have hC : H1.objs.size = hh.objs.size + 1 := by rw [← hH1, Heap.size_push]
  have k1 : ∀ b o, hh.get? b = some o → H1.get? b = some o := fun b o e => hH1 ▸ Heap.get?_push_of_some _ e
  have k2 : ∀ b o, H1.get? b = some o → (pc (H1.push { cls := .type "dict", data := .dict #[] })).get? b = some o := fun b o e => hpk _ _ _ (Heap.get?_push_of_some _ e)
  have hD : H1.get? hh.objs.size = some (listOf #[] 0) := by rw [← hH1]; exact Heap.get?_push_size _ rfl
  have K : CFix g fp wr (ex H1.objs.size) hh.objs.size H1.objs.size St news := by
    refine ⟨Nat.le_of_eq gsz, by rw [hC]; exact Nat.lt_succ_self _, hex _, fun b hb => ?_, W.sub, gw, has, fun b hb hw => ?_, W.frame⟩
    · obtain ⟨o, ho⟩ := hfp b hb; exact Heap.lt_size ho
    · obtain ⟨o, ho⟩ := hfp b hb
      by_cases hn : b ∈ news.map (·.1)
      · obtain ⟨q, hq, rfl⟩ := List.mem_map.mp hn
        exact .inr ⟨q.2, hq⟩
      · exact .inl ⟨o, gk b o ho hn hw⟩
  have nlt : ∀ q ∈ news, q.1 < hh.objs.size := fun q hq => Heap.lt_size (N.N q hq).1
  have core := fun s₃ (hs : s₃ = (⟨pc (H1.push { cls := .type "dict", data := .dict #[] }), gs, dr, tk, os⟩ : Shared)) =>
    hs ▸ lc_core (elt := elt) (iter := iter) (ifs := ifs) (pos := pos) (scope := scope) (tk0 := tk) (R := RR (.ref hh.objs.size) H1.objs.size) W hsz K (T H1.objs.size) J
      (h0 := pc (H1.push { cls := .type "dict", data := .dict #[] })) (gs := gs) (dr := dr) (os := os) ⟨W.frame _ _ _ st0 fun b _ o e => k2 b o (k1 b o e), ⟨fun b o e => k2 b o (k1 b o (Sg.keep b o e)), fun q hq => ⟨k2 _ _ (k1 _ _ (Sg.own q hq).1), (Sg.own q hq).2⟩, Sg.nd⟩,
        fun q hq => ⟨fun hw => (hwr _ hw).2.2 (List.mem_map_of_mem hq), Nat.ne_of_lt (nlt q hq), Nat.ne_of_lt (by rw [hC]; exact Nat.lt_succ_of_lt (nlt q hq)), fun hx => Nat.lt_asymm (hex _ _ hx) (by rw [hC]; exact Nat.lt_succ_of_lt (nlt q hq))⟩, k2 _ _ hD⟩ (t0 _) j0
      (fun i v l cv ys made g' h tk hi hP sh j kp F' N' => step i v _ l cv ys made g' h tk hi hP sh j ⟨Fg.ns.keeps kp, fun b o e => kp b o (Fg.keep b o e), Fg.above⟩ F' N')
      (fun h tk ys made ep j S' hoff ⟨mC, oC, es, epC, hoC, hr⟩ => by
        have S2 : Sep g h ((H1.objs.size, oC) :: (hh.objs.size, listOf ys.toArray ep) :: (made ++ news)) := by
          refine ⟨S'.keep, fun q hq => ?_, ?_⟩
          · rcases List.mem_cons.mp hq with rfl | hq
            · refine ⟨hoC, ?_⟩
              cases e : g.get? H1.objs.size with
              | none => rfl
              | some o => exact absurd (Heap.lt_size e) (by rw [gsz, hC]; exact Nat.not_lt.mpr (Nat.le_succ _))
            · exact S'.own q hq
          · rw [List.map_cons, List.nodup_cons]
            refine ⟨fun hm => ?_, S'.nd⟩
            obtain ⟨q, hq, e⟩ := List.mem_map.mp hm
            exact hoff q hq e
        have := closeW Fg S2
        exact hR _ _ oC h tk ys made ep j this.1 this.2 ⟨mC, oC, es, epC, hoC, hr⟩)
  refine codeAny_compStart_list (core _ rfl) (W.self 0 _ _ _ (W.frame _ _ _ st0 fun b _ o e => k2 b o (k1 b o e)) (core _ rfl))
end
end
section
open PySem PySem.W PySem.Calls PyProof.Rows
structure Knows (m : Str → Option Value) (l : List (Str × Value)) : Prop where
  has : ∀ p ∈ l, m p.1 = some p.2
  nd : (l.map (·.1)).Nodup
theorem Knows.sub {m : Str → Option Value} {l l' : List (Str × Value)} (V : Knows m l) (h : l'.Sublist l) : Knows m l' := ⟨fun p hp => V.has p (h.subset hp), (h.map _).nodup V.nd⟩
theorem Knows.mp {l : List (Str × Value)} (h : (l.map (·.1)).Nodup) : Knows (mp l) l := by
  refine ⟨fun p hp => ?_, h⟩
  induction l with
  | nil => nomatch hp
  | cons q r ih =>
    rw [List.map_cons, List.nodup_cons] at h
    rcases List.mem_cons.mp hp with rfl | hp
    · obtain ⟨k, v⟩ := p
      simp only [Mine.mp, List.lookup, beq_self_eq_true]
    · have hne : (p.1 == q.1) = false := by
        cases e : p.1 == q.1 with
        | false => rfl
        | true => exact absurd (beq_iff_eq.mp e ▸ List.mem_map_of_mem hp) h.1
      have := ih h.2 hp
      simp only [Mine.mp, List.lookup, hne] at this ⊢
      exact this
theorem MGet.mem {x : Str} {v : Value} : ∀ {l}, MGet x v l → (x, v) ∈ l
  | _, .head => .head _
  | _, .tail _ h => .tail _ h.mem
theorem MSet.keys {x : Str} {v : Value} : ∀ {l l'}, MSet x v l l' → l'.map (·.1) = l.map (·.1) ∨ (l'.map (·.1) = l.map (·.1) ++ [x] ∧ x ∉ l.map (·.1))
  | _, _, .nil => .inr ⟨rfl, List.not_mem_nil⟩
  | _, _, .head => .inl rfl
  | _, _, .tail (y := y) h r => by
    have hxy : x ≠ y := fun e => by rw [e] at h; simp at h
    rcases r.keys with e | ⟨e, hn⟩
    · exact .inl (by simp [e])
    · exact .inr ⟨by simp [e], by simp only [List.map_cons, List.mem_cons, not_or]; exact ⟨hxy, hn⟩⟩
theorem MSet.mem {x : Str} {v : Value} {l l' : List (Str × Value)} (h : MSet x v l l') : (l.map (·.1)).Nodup → ∀ p ∈ l', (p.1 = x ∧ p.2 = v) ∨ (p.1 ≠ x ∧ p ∈ l) := by
  induction h with
  | nil => intro _ p hp; simp at hp; subst hp; exact .inl ⟨rfl, rfl⟩
  | @head u r =>
    intro nd p hp
    rw [List.map_cons, List.nodup_cons] at nd
    rcases List.mem_cons.mp hp with rfl | hp
    · exact .inl ⟨rfl, rfl⟩
    · exact .inr ⟨fun e => nd.1 (by have := List.mem_map_of_mem (f := fun q : Str × Value => q.1) hp; rwa [e] at this), .tail _ hp⟩
  | @tail y u r r' h _ ih =>
    intro nd p hp
    rw [List.map_cons, List.nodup_cons] at nd
    rcases List.mem_cons.mp hp with rfl | hp
    · exact .inr ⟨fun e => by have e' : y = x := e; rw [e'] at h; simp at h, .head _⟩
    · rcases ih nd.2 p hp with q | ⟨q, hm⟩
      · exact .inl q
      · exact .inr ⟨q, .tail _ hm⟩
theorem Knows.set {m : Str → Option Value} {x : Str} {v : Value} {l l' : List (Str × Value)} (V : Knows m l) (e : MSet x v l l') : Knows (fun y => if y = x then some v else m y) l' := by
  refine ⟨fun p hp => ?_, ?_⟩
  · rcases e.mem V.nd p hp with ⟨h1, h2⟩ | ⟨h1, h2⟩
    · simp [h1, h2]
    · simp [h1, V.has p h2]
  · rcases e.keys with h | ⟨h, hn⟩
    · rw [h]; exact V.nd
    · rw [h, List.nodup_append]
      exact ⟨V.nd, by simp, fun a ha b hb e2 => by simp at hb; subst hb; exact hn (e2 ▸ ha)⟩
section
variable {M : Model} {A : Around} {E : Value → Shared → Prop} {s : Shared} {env : Env} {h₀ : Heap} {L : Addr} {m : Str → Option Value} {l : List (Str × Value)} {news : List (Addr × Obj)} {K : Frag} {p : Program} {loose : List Str} {mean : ExcName → Option Value} {mg mb : Str → Option Value}
theorem nmV {x : Str} {pos : Pos} {v : Value} {Q : Value → Shared → Prop} (F : Fr h₀ L s.heap m) (V : Knows m l) (hC : env.locals = L) (hv : MGet x v l) (h : Q v s)
    (hk : env.scope.kind = .function) (hl : env.kindOf x = some .local) (hd : (x == ("__debug__" : Str)) = false) : wpAny M A (eval (.Name x pos) env) Q E s :=
  wpAny_Name (wpAny_loadName_local hk hl (hC ▸ F.ns) (V.has _ hv.mem) h) hd
theorem nmC {x : Str} {pos : Pos} {v : Value} {c : Addr} {o : Obj} {Q : Value → Shared → Prop} (N : Led h₀ L s.heap news) (hc : env.cells.lookup x = some c) (hm : (c, o) ∈ news) (hd : o.data = .cell (some v)) (h : Q v s)
    (hk : env.scope.kind = .function) (hl : env.kindOf x = some .cell) (hb : (x == ("__debug__" : Str)) = false) : wpAny M A (eval (.Name x pos) env) Q E s :=
  wpAny_Name (wpAny_loadName_cell hk hl hc ⟨o, (N.N _ hm).1, hd⟩ h) hb
theorem nmVq {x : Str} {pos : Pos} {v : Value} {Q : Value → Shared → Prop} (F : Fr h₀ L s.heap m) (V : Knows m l) (hC : env.locals = L) (hv : MGet x v l) (h : Q v s)
    (k : okL env x = true) : wpAny M A (eval (.Name x pos) env) Q E s := nmV F V hC hv h (okS.kind (okL.toS k)) (okS.loc (okL.toS k)) (okL.dbg k)
theorem nmCq {x : Str} {pos : Pos} {v : Value} {c : Addr} {o : Obj} {Q : Value → Shared → Prop} (N : Led h₀ L s.heap news) (hc : env.cells.lookup x = some c) (hm : (c, o) ∈ news) (hd : o.data = .cell (some v)) (h : Q v s)
    (k : okC env x = true) : wpAny M A (eval (.Name x pos) env) Q E s := nmC N hc hm hd h (okC.kind k) (okC.cell k) (okC.dbg k)
theorem nmK {x : Str} {pos : Pos} {v : Value} {Q : Value → Shared → Prop} (F : Fr h₀ L s.heap m) (X : K.In h₀) (T : Top p loose mean mg mb h₀) (e : nsIn K mainGlobals x = some (some v)) (h : Q v s)
    (hg : env.globals = mainGlobals) (hk : env.scope.kind = .function) (hx : env.kindOf x = some .globalImplicit) (hd : (x == ("__debug__" : Str)) = false) : wpAny M A (eval (.Name x pos) env) Q E s :=
  Name_function_global hk hx (loadGlobal_global (by rw [hg]; exact T.g.keeps F.keep) (mg_of X T.g e) h) hd
theorem nmB {x : Str} {pos : Pos} {v : Value} {Q : Value → Shared → Prop} (F : Fr h₀ L s.heap m) (X : K.In h₀) (T : Top p loose mean mg mb h₀) (e : nsIn K mainGlobals x = some none) (hv : bootBuiltins x = some v) (hn : x ≠ "__name__") (h : Q v s)
    (hg : env.globals = mainGlobals) (hb : env.builtins = builtinsNs) (hk : env.scope.kind = .function) (hx : env.kindOf x = some .globalImplicit) (hd : (x == ("__debug__" : Str)) = false) : wpAny M A (eval (.Name x pos) env) Q E s :=
  Name_function_global hk hx (loadGlobal_builtin (by rw [hg]; exact T.g.keeps F.keep) (mg_none_of X T.g e) (by rw [hb]; exact T.b.keeps F.keep) ((T.builtins x hn).trans hv) h) hd
theorem stV {x : Str} {v : Value} {l' : List (Str × Value)} {hh : Heap} {g : Array GenState} {dr : Drawn} {tk₀ : Nat} {os : OsState} {Q : Unit → Shared → Prop} (F : Fr h₀ L hh m) (N : Led h₀ L hh news) (V : Knows m l) (e : MSet x v l l')
    (h : ∀ m' h' tk, Fr h₀ L h' m' → Led h₀ L h' news → Knows m' l' → Q () ⟨h', g, dr, tk, os⟩)
    (hC : env.locals = L) (hk : env.scope.kind = .function) (hl : env.kindOf x = some .local) : wpAny M A (storeName env x v) Q E ⟨hh, g, dr, tk₀, os⟩ := by
  subst hC
  exact wpAny_storeName_local hl F.ns (fun h' hn hs => h _ h' _ (F.set hn hs) ⟨N.N.set hs, N.nd⟩ (V.set e)) (by rw [hk]; rfl)
theorem stVq {x : Str} {v : Value} {l' : List (Str × Value)} {hh : Heap} {g : Array GenState} {dr : Drawn} {tk₀ : Nat} {os : OsState} {Q : Unit → Shared → Prop} (F : Fr h₀ L hh m) (N : Led h₀ L hh news) (V : Knows m l) (e : MSet x v l l')
    (h : ∀ m' h' tk, Fr h₀ L h' m' → Led h₀ L h' news → Knows m' l' → Q () ⟨h', g, dr, tk, os⟩)
    (hC : env.locals = L) (k : okS env x = true) : wpAny M A (storeName env x v) Q E ⟨hh, g, dr, tk₀, os⟩ := stV F N V e h hC (okS.kind k) (okS.loc k)
theorem stC {x : Str} {v : Value} {v₀ : Option Value} {c : Addr} {o : Obj} {news' : Obj → List (Addr × Obj)} {hh : Heap} {g : Array GenState} {dr : Drawn} {tk₀ : Nat} {os : OsState} {Q : Unit → Shared → Prop} (F : Fr h₀ L hh m) (N : Led h₀ L hh news)
    (hc : env.cells.lookup x = some c) (e : ∀ o', SetAt c o o' news (news' o')) (hd : o.data = .cell v₀)
    (h : ∀ h' o', Fr h₀ L h' m → Led h₀ L h' (news' o') → o'.data = .cell (some v) → Q () ⟨h', g, dr, tk₀, os⟩)
    (hk : env.scope.kind = .function) (hl : env.kindOf x = some .cell) : wpAny M A (storeName env x v) Q E ⟨hh, g, dr, tk₀, os⟩ := by
  refine wpAny_storeName_cell hk hl hc ⟨o, (N.N _ (e o).mem).1, hd⟩ fun h' hv hs => ?_
  obtain ⟨o', ho', hd'⟩ := hv
  have := N.set F (e o') hs ho'
  exact h h' o' this.1 this.2 hd'
end
theorem SetAt.app {D : Addr} {o o' : Obj} {r r' : List (Addr × Obj)} : ∀ (a : List (Addr × Obj)), SetAt D o o' r r' → SetAt D o o' (a ++ r) (a ++ r')
  | [], h => h
  | _ :: a, h => .tail (SetAt.app a h)
section
variable {prog : Program} {w : World} {A : Around} {gs : Array GenState} {dr : Drawn} {os : OsState}
variable {g hh : Heap} {tk₀ : Nat} {K : Frag} {p : Program} {loose : List Str} {mean : ExcName → Option Value} {mg mb : Str → Option Value}
  {R : Result → Shared → Prop} {name qual : Str} {params : Arguments} {body : List Stmt} {scope : Scope} {dV kV doc pm cdv ct oc : Value} {an od : Option Addr} {osl : Array (Option Value)} {f : Addr} {args : Args} {binds : List (Str × Value)} {news : List (Addr × Obj)}
theorem enterN (X : K.In g) (T : Top p loose mean mg mb g) (hsz : g.objs.size ≤ hh.objs.size) (S : Sep g hh news)
    (ho : K.lookup f = some ⟨oc, od, .func (fnOf name qual params body scope dV kV doc pm an cdv ct), osl⟩) (hcd : codeIn K cdv qual = true) (hroom : A.depth < recursionLimit)
    (hbind : BindsTo ⟨hh, gs, dr, tk₀, os⟩ (fnOf name qual params body scope dV kV doc pm an cdv ct) args binds) (hloc : ∀ y ∈ binds, scope.names.lookup y.1 = some .local) (hbn : (binds.map (·.1)).Nodup)
    (h : ∀ L' m' h₁ tk, Fr g L' h₁ m' → Knows m' binds → Led g L' h₁ news →
      wpAny (model prog w) (A.deeper (envOf qual scope L' f cdv)) (execs body (envOf qual scope L' f cdv))
        (fun fl s' => R (.ok (.ret (match fl with | .ret v => v | _ => .none))) s') (fun _ _ => False) ⟨h₁, gs, dr, tk, os⟩)
    (hco : scope.isCoroutine = false) (hgen : scope.isGenerator = false) (hk : scope.kind = .function)
    (hcell : ∀ x ∈ scope.names, x.2 ≠ .cell) : codeAny (model prog w) A (.call (.ref f) args) R ⟨hh, gs, dr, tk₀, os⟩ := by
  have X' : K.In hh := X.keeps S.keep
  refine codeAny_call_def (fd := fnOf name qual params body scope dV kV doc pm an cdv ct) (body := body) (binds := binds) hroom (X' _ _ ho) rfl (T.nolimit.keeps S.keep) (codeRec_of X' hcd) rfl hbind hcell hloc (fun h₁ hns hk₁ => ?_) hco hgen hk
  refine wpAny_noRaise (h hh.objs.size (fun y => binds.reverse.lookup y) h₁ _ ⟨hns, fun b o e => hk₁ b o (S.keep b o e), hsz⟩ ?_ ⟨(fun q hq => ⟨hk₁ _ _ (S.own q hq).1, Nat.ne_of_lt (Heap.lt_size (S.own q hq).1), (S.own q hq).2⟩), S.nd⟩)
  have hr : ((binds.reverse).map (·.1)).Nodup := by rw [List.map_reverse]; exact (List.reverse_perm _).nodup_iff.mpr hbn
  have := Knows.mp hr
  exact ⟨fun q hq => this.has q (List.mem_reverse.mpr hq), hbn⟩
theorem enterNC (X : K.In g) (T : Top p loose mean mg mb g) (hsz : g.objs.size ≤ hh.objs.size) (S : Sep g hh news)
    (ho : K.lookup f = some ⟨oc, od, .func (fnOf name qual params body scope dV kV doc pm an cdv ct), osl⟩) (hcd : codeIn K cdv qual = true) (hroom : A.depth < recursionLimit)
    (hbind : BindsTo ⟨hh, gs, dr, tk₀, os⟩ (fnOf name qual params body scope dV kV doc pm an cdv ct) args binds)
    (hkind : (binds.all fun y => scope.names.lookup y.1 == some .local || scope.names.lookup y.1 == some .cell) = true) (hnd : ((cellsFrom 0 scope.names []).map (·.1)).Nodup)
    (l : List (Str × Value)) (hl : ∀ L' : Addr, ∀ q ∈ l, bindL (envOfC qual scope L' f cdv).kindOf binds (fun _ => none) q.1 = some q.2) (hln : (l.map (·.1)).Nodup)
    (h : ∀ L' m' h₁ tk cells, Fr g L' h₁ m' → Knows m' l → Led g L' h₁ (cells ++ news) → CellsAre (bindC (envOfC qual scope L' f cdv).kindOf binds fun _ => none) (cellsFrom (L' + 1) scope.names []) cells →
      wpAny (model prog w) (A.deeper (envOfC qual scope L' f cdv)) (execs body (envOfC qual scope L' f cdv))
        (fun fl s' => R (.ok (.ret (match fl with | .ret v => v | _ => .none))) s') (fun _ _ => False) ⟨h₁, gs, dr, tk, os⟩)
    (hco : scope.isCoroutine = false) (hgen : scope.isGenerator = false) (hk : scope.kind = .function) : codeAny (model prog w) A (.call (.ref f) args) R ⟨hh, gs, dr, tk₀, os⟩ := by
  have X' : K.In hh := X.keeps S.keep
  refine codeAny_call_function hroom (X' _ _ ho) rfl hco hgen rfl (codeRec_of X' hcd) (hbind _ _ _ _ ?_)
  refine wpAny_newFunctionEnv_cells hk (kindsX hkind _) fun env' he s' x => ?_
  subst he
  refine ⟨(T.nolimit.keeps S.keep).keeps x.toInCall.keep, codeAny_func ?_⟩
  obtain ⟨h₁, tk, rfl, _⟩ := x.done
  have hk₁ := x.toInCall.keep
  obtain ⟨cells, NC, Y⟩ := Cl.news (h₀ := hh) (Nat.le_refl _) fun n c hm => ⟨x.cell n c (lookup_of_mem_nodup (cellsFrom_names scope.names 0 (hh.objs.size + 1) [] [] rfl ▸ hnd) hm), x.above n c hm⟩
  have hcn : (cells.map (·.1)).Nodup := by
    have hp := x.apart
    have key : ∀ {cs : List (Str × Addr)} {cells : List (Addr × Obj)} {cm : Str → Option Value}, CellsAre cm cs cells → (cs.Pairwise fun x y => x.2 ≠ y.2) → (cells.map (·.1)).Nodup ∧ cells.map (·.1) = cs.map (·.2) := by
      intro cs cells cm X
      induction X with
      | nil => intro _; exact ⟨List.nodup_nil, rfl⟩
      | @cons n c o cs cells hd _ ih =>
        intro hp
        obtain ⟨h1, h2⟩ := List.pairwise_cons.mp hp
        obtain ⟨i1, i2⟩ := ih h2
        refine ⟨?_, by simp [i2]⟩
        rw [List.map_cons, List.nodup_cons, i2]
        refine ⟨fun hm => ?_, i2 ▸ i1⟩
        obtain ⟨q, hq, e⟩ := List.mem_map.mp hm
        exact h1 q hq e.symm
    exact (key Y hp).1
  refine wpAny_noRaise (h hh.objs.size _ h₁ tk cells ⟨x.toInCall.ns, fun b o e => hk₁ b o (S.keep b o e), hsz⟩ ⟨hl _, hln⟩ ⟨fun q hq => ?_, ?_⟩ Y)
  · rcases List.mem_append.mp hq with h1 | h1
    · refine ⟨(NC q h1).1, (NC q h1).2.1, ?_⟩
      cases e : g.get? q.1 with
      | none => rfl
      | some o => have := S.keep _ _ e; rw [(NC q h1).2.2] at this; cases this
    · exact ⟨hk₁ _ _ (S.own q h1).1, Nat.ne_of_lt (Heap.lt_size (S.own q h1).1), (S.own q h1).2⟩
  · rw [List.map_append, List.nodup_append]
    refine ⟨hcn, S.nd, fun a ha b hb e => ?_⟩
    obtain ⟨q, hq, rfl⟩ := List.mem_map.mp ha
    obtain ⟨r, hr, rfl⟩ := List.mem_map.mp hb
    have := (NC q hq).2.2
    rw [e, (S.own r hr).1] at this; cases this
end
end
section
open PySem PySem.W PySem.Calls PyProof.Rows
theorem push_keep (h : Heap) (o' : Obj) : ∀ b o, h.get? b = some o → (h.push o').get? b = some o := fun _ _ e => Heap.get?_push_of_some _ e
section
variable {prog : Program} {w : World} {A : Around} {h₀ hh : Heap} {L : Addr} {m : Str → Option Value} {news : List (Addr × Obj)} {E : Value → Shared → Prop} {gs : Array GenState} {dr : Drawn} {os : OsState} {tk₀ : Nat}
theorem newAddr (F : Fr h₀ L hh m) (N : Led h₀ L hh news) : hh.objs.size ≠ L ∧ h₀.get? hh.objs.size = none ∧ hh.objs.size ∉ news.map (·.1) := by
  refine ⟨fun e => ?_, ?_, fun hm => ?_⟩
  · obtain ⟨o, ho⟩ := Fr.has F
    have := Heap.lt_size ho
    rw [← e] at this
    exact Nat.lt_irrefl _ this
  · cases e : h₀.get? hh.objs.size with
    | none => rfl
    | some o => exact absurd (Heap.lt_size (F.keep _ _ e)) (Nat.lt_irrefl _)
  · obtain ⟨q, hq, e⟩ := List.mem_map.mp hm
    have := Heap.lt_size (N.N q hq).1
    rw [e] at this
    exact Nat.lt_irrefl _ this
theorem Led.push {o : Obj} (F : Fr h₀ L hh m) (N : Led h₀ L hh news) (hf : o.isFreed = false) : Fr h₀ L (hh.push o) m ∧ Led h₀ L (hh.push o) ((hh.objs.size, o) :: news) := by
  have hn := newAddr F N
  refine ⟨keepFr F (push_keep _ _), Led.cons (fun q hq => ?_) N.nd fun q hq e => hn.2.2 (by have := List.mem_map_of_mem (f := fun q : Addr × Obj => q.1) hq; rwa [show q.1 = hh.objs.size from e] at this)⟩
  rcases List.mem_cons.mp hq with rfl | hq
  · exact ⟨Heap.get?_push_size _ hf, hn.1, hn.2.1⟩
  · exact ⟨push_keep _ _ _ _ (N.N q hq).1, (N.N q hq).2⟩
theorem rangeM {n : Int} {t : Tok} {Q : Value → Shared → Prop} (F : Fr h₀ L hh m) (N : Led h₀ L hh news)
    (h : ∀ r h' tk t1 t2, Fr h₀ L h' m → Led h₀ L h' ((r, { cls := .type "range", data := .fields #[.int 0 t1, .int n t, .int 1 t2] }) :: news) → Q (.ref r) ⟨h', gs, dr, tk, os⟩) :
    wpAny (model prog w) A (call (.type "range") [.int n t]) Q E ⟨hh, gs, dr, tk₀, os⟩ := by
  have := fun t1 t2 => Led.push (o := { cls := .type "range", data := .fields #[.int 0 t1, .int n t, .int 1 t2] }) F N rfl
  exact call_range_1 (h _ _ _ _ _ (this _ _).1 (this _ _).2)
theorem rangeSrc {r : Addr} {n : Int} (k : Nat) (hn : n = (k : Int)) {t t1 t2 : Tok} {Q : Value → Shared → Prop} (hA : A.handled = none) (F : Fr h₀ L hh m) (N : Led h₀ L hh news) (hm : (r, ({ cls := .type "range", data := .fields #[.int 0 t1, .int n t, .int 1 t2] } : Obj)) ∈ news) (hk : k ≤ 1000)
    (h : ∀ I h', Fr h₀ L h' m → Led h₀ L h' news → Src prog w A h₀ L h' news I k (fun i v => ∃ t, v = .int (i : Int) t) → Q (.ref I) ⟨h', gs, dr, tk₀, os⟩) :
    wpAny (model prog w) A (pyIter (.ref r)) Q E ⟨hh, gs, dr, tk₀, os⟩ := by
  subst hn
  have hr : IsRange hh r 0 k 1 t1 t t2 := (N.N _ hm).1
  have hs : Builtin.Range.rangeSize 0 (k : Int) 1 = (k : Int) := by
    unfold Builtin.Range.rangeSize
    simp
    lia
  have hsm : Builtin.Range.small 0 (k : Int) 1 = true := by
    unfold Builtin.Range.small
    rw [hs]
    unfold Builtin.Range.rangeFitsLong
    simp
    lia
  refine wpAny_pyIter_range hr hsm ?_
  have hn := newAddr F N
  refine h _ _ (keepFr F (push_keep _ _)) (keepLed N (push_keep _ _)) ⟨[hh.objs.size], [hh.objs.size], (fun i h => IsRangeIter h hh.objs.size (0 + (i : Nat) * 1) ((k : Int) - (i : Nat)) 1), ?_, ?_, ?_, ?_, ?_, ?_⟩
  · have W := LCg.range_walks (prog := prog) (w := w) (I := hh.objs.size) hA 0 k
    exact { sub := W.sub, frame := W.frame, done := W.done, self := W.self, item := fun i s Q E hi st hQ => W.item i s Q E hi st fun v h' tk hP => hQ v h' tk (by obtain ⟨t, rfl⟩ := hP; exact ⟨t, by rw [Int.zero_add]⟩) }
  · show IsRangeIter _ _ _ _ _
    rw [hs]; simpa using Heap.get?_push_size _ rfl
  · intro b hb; rw [List.mem_singleton.mp hb]; exact ⟨_, Heap.get?_push_size _ rfl⟩
  · intro b hb; rw [List.mem_singleton.mp hb]; exact hn
  · intro i h st b hb; rw [List.mem_singleton.mp hb]; exact ⟨_, st⟩
  · have : sizeLine = 16777216 := rfl
    lia
theorem listSrc {ax : Addr} {its : Array Value} {ep : Nat} {Q : Value → Shared → Prop} (hA : A.handled = none) (F : Fr h₀ L hh m) (N : Led h₀ L hh news) (ho : hh.get? ax = some (listOf its ep)) (hk : its.size ≤ sizeLine)
    (h : ∀ I h', Fr h₀ L h' m → Led h₀ L h' news → Src prog w A h₀ L h' news I its.size (fun i v => its[i]? = some v) → Q (.ref I) ⟨h', gs, dr, tk₀, os⟩) :
    wpAny (model prog w) A (pyIter (.ref ax)) Q E ⟨hh, gs, dr, tk₀, os⟩ := by
  have hl : hh.IsList ax its := ⟨_, ho, rfl, _, rfl⟩
  refine wpAny_pyIter_list (s := ⟨hh, gs, dr, tk₀, os⟩) hl ?_
  have hn := newAddr F N
  have hlt := Heap.lt_size ho
  have ho' := push_keep hh { cls := .type "list_iterator", data := .fields #[.ref ax, .int 0 0] } _ _ ho
  refine h _ _ (keepFr F (push_keep _ _)) (keepLed N (push_keep _ _)) ⟨[hh.objs.size, ax], [hh.objs.size], _, Walks.list hA hh.objs.size ax (Nat.ne_of_lt hlt) its, ⟨⟨_, Heap.get?_push_size _ rfl, rfl, rfl⟩, hl.push _⟩, ?_, ?_, ?_, hk⟩
  · intro b hb
    simp only [List.mem_cons, List.not_mem_nil, or_false] at hb
    rcases hb with rfl | rfl
    · exact ⟨_, Heap.get?_push_size _ rfl⟩
    · exact ⟨_, ho'⟩
  · intro b hb; rw [List.mem_singleton.mp hb]; exact hn
  · intro i h st b hb; rw [List.mem_singleton.mp hb]; obtain ⟨o, e, _⟩ := st.1; exact ⟨o, e⟩
variable {env : Env} {elt iter : PySem.Expr} {x : Str} {px pos : Pos} {ifs : List PySem.Expr} {scope : Scope} {cl : List (Str × Addr)}
noncomputable def testsOf (prog : Program) (w : World) (A : Around) (ifs : List PySem.Expr) (cenv : Env) (Q : Bool → Shared → Prop) (s : Shared) : Prop :=
  wpAny (model prog w) A (forIn ifs true fun c r => if r = true then do let ok ← isTrue c cenv (eval c cenv); pure (ForInStep.yield ok) else pure (ForInStep.yield r)) Q (fun _ _ => False) s
theorem testsOf.nil {cenv : Env} {Q : Bool → Shared → Prop} {s : Shared} (h : Q true s) : testsOf prog w A [] cenv Q s := wpAny_pure h
theorem testsOf.one {cenv : Env} {c : PySem.Expr} {Q : Bool → Shared → Prop} {s : Shared} (h : wpAny (model prog w) A (isTrue c cenv (eval c cenv)) Q (fun _ _ => False) s) : testsOf prog w A [c] cenv Q s := wpAny_tests_one h
noncomputable def TurnsL (prog : Program) (w : World) (A : Around) (env : Env) (elt : PySem.Expr) (x : Str) (ifs : List PySem.Expr) (scope : Scope) (cl : List (Str × Addr)) (h₀ : Heap) (L : Addr) (m : Str → Option Value) (news : List (Addr × Obj)) (gs : Array GenState) (dr : Drawn) (os : OsState) (n : Nat) (P : Nat → Value → Prop) (J : Nat → List Value → List (Addr × Obj) → Prop) : Prop :=
  ∀ i v C ys made g' h tk, i < n → P i v → J i ys made → Fr h₀ L g' m → Fr g' C h (mp [(x, v)]) → Led g' C h (made ++ news) →
    testsOf prog w A ifs (compEnvC scope cl C env) (fun ok s₃ => if ok = true then wpAny (model prog w) A (eval elt (compEnvC scope cl C env)) (fun y s₄ => EPost g' C gs dr os [(x, v)] news (J (i + 1) (ys ++ [y])) s₄) (fun _ _ => False) s₃
          else EPost g' C gs dr os [(x, v)] news (J (i + 1) ys) s₃) ⟨h, gs, dr, tk, os⟩
noncomputable def TurnsC (prog : Program) (w : World) (A : Around) (env : Env) (elt : PySem.Expr) (x : Str) (ifs : List PySem.Expr) (scope : Scope) (cl : List (Str × Addr)) (h₀ : Heap) (L : Addr) (m : Str → Option Value) (news : List (Addr × Obj)) (gs : Array GenState) (dr : Drawn) (os : OsState) (n : Nat) (P : Nat → Value → Prop) (J : Nat → List Value → List (Addr × Obj) → Prop) : Prop :=
  ∀ i v C o ys made g' h tk, i < n → P i v → o.data = .cell (some v) → J i ys made → Fr h₀ L g' m → Fr g' C h (mp []) → Led g' C h (made ++ ((C + 1, o) :: news)) →
    testsOf prog w A ifs (compEnvC scope ((x, C + 1) :: cl) C env) (fun ok s₃ => if ok = true then wpAny (model prog w) A (eval elt (compEnvC scope ((x, C + 1) :: cl) C env)) (fun y s₄ => EPost g' C gs dr os [] ((C + 1, o) :: news) (J (i + 1) (ys ++ [y])) s₄) (fun _ _ => False) s₃
          else EPost g' C gs dr os [] ((C + 1, o) :: news) (J (i + 1) ys) s₃) ⟨h, gs, dr, tk, os⟩
theorem lc_L {RR : Value → Addr → Result → Shared → Prop} {I : Addr} {n : Nat} {P : Nat → Value → Prop} (hcell : ∀ y ∈ scope.names, y.2 ≠ .cell) (hkind : scope.kind = .function) (hx : scope.names.lookup x = some .local)
    (S : Src prog w A h₀ L hh news I n P) (F : Fr h₀ L hh m) (N : Led h₀ L hh news) (J : Nat → List Value → List (Addr × Obj) → Prop) (j0 : J 0 [] [])
    (step : TurnsL prog w A env elt x ifs scope cl h₀ L m news gs dr os n P J)
    (hR : ∀ D C oC h tk ys made ep, J n ys made → Fr h₀ L h m → Led h₀ L h ((C, oC) :: (D, listOf ys.toArray ep) :: (made ++ news)) → (∃ m, h.Ns C m) → RR (.ref D) C (.ok .next) ⟨h, gs, dr, tk, os⟩) :
    wpAny (model prog w) A (newList []) (fun acc s₃ => wpAny (model prog w) A (newFunctionEnv scope env.globals cl [] env.qual none .none (some env)) (fun cenv s₄ =>
      codeAny (model prog w) A (.compStart (.ListComp elt [⟨.Name x px, iter, ifs, 0⟩] scope pos) 0 (.ref I) acc { cenv with scope := relabel scope env }) (RR acc cenv.locals) s₄) E s₃) E ⟨hh, gs, dr, tk₀, os⟩ :=
  lc_block (ex := fun _ => []) (TOk := fun C h => ∃ l, h.Ns C (mp l) ∧ (l = [] ∨ ∃ v, l = [(x, v)])) (Sh := fun _ v l cv => l = [(x, v)] ∧ cv = []) (clC := fun _ => cl) (pc := fun h => h) S F N (fun C => cellsFrom_none _ _ _ hcell) (fun h => pushCells_none _ _ hcell) (fun _ _ _ e => e)
    (fun C => tgtL rfl (lookup_relabel_local hx) (by show (relabel scope env).kind = _; exact hkind)) (fun _ _ hb => nomatch hb)
    (fun h => ⟨[], ⟨_, #[], 0, Heap.get?_push_size _ rfl, rfl, by intro e he; simp at he, fun _ => rfl⟩, .inl rfl⟩) J j0
    (fun i v C l cv ys made g' h tk hi hP sh j Fo F' N' => by obtain ⟨rfl, rfl⟩ := sh; exact step i v C ys made g' h tk hi hP j Fo F' N') hR
theorem lc_C {RR : Value → Addr → Result → Shared → Prop} {I : Addr} {n : Nat} {P : Nat → Value → Prop} (hcl : ∀ k, cellsFrom k scope.names cl = (x, k) :: cl) (hpc : ∀ h, pushCells h scope.names = h.push { cls := .type "cell", data := .cell none }) (hkind : scope.kind = .function) (hx : (relabel scope env).names.lookup x = some .cell)
    (S : Src prog w A h₀ L hh news I n P) (F : Fr h₀ L hh m) (N : Led h₀ L hh news) (J : Nat → List Value → List (Addr × Obj) → Prop) (j0 : J 0 [] [])
    (step : TurnsC prog w A env elt x ifs scope cl h₀ L m news gs dr os n P J)
    (hR : ∀ D C oC h tk ys made ep, J n ys made → Fr h₀ L h m → Led h₀ L h ((C, oC) :: (D, listOf ys.toArray ep) :: (made ++ news)) → (∃ m, h.Ns C m) → RR (.ref D) C (.ok .next) ⟨h, gs, dr, tk, os⟩) :
    wpAny (model prog w) A (newList []) (fun acc s₃ => wpAny (model prog w) A (newFunctionEnv scope env.globals cl [] env.qual none .none (some env)) (fun cenv s₄ =>
      codeAny (model prog w) A (.compStart (.ListComp elt [⟨.Name x px, iter, ifs, 0⟩] scope pos) 0 (.ref I) acc { cenv with scope := relabel scope env }) (RR acc cenv.locals) s₄) E s₃) E ⟨hh, gs, dr, tk₀, os⟩ :=
  lc_block (ex := fun C => [C + 1]) (TOk := fun C h => h.Ns C (mp []) ∧ ∃ v, h.IsCell (C + 1) v) (Sh := fun C v l cv => l = [] ∧ ∃ o : Obj, cv = [(C + 1, o)] ∧ o.data = .cell (some v)) (clC := fun C => (x, C + 1) :: cl) (pc := fun h => h.push { cls := .type "cell", data := .cell none }) S F N (fun C => hcl _) hpc (fun h b o e => push_keep _ _ _ _ e)
    (fun C => tgtC rfl hx (by simp [compEnvC]) (by show (relabel scope env).kind = _; exact hkind)) (fun C b hb => by rw [List.mem_singleton.mp hb]; exact Nat.lt_succ_self _)
    (fun h => ⟨⟨_, #[], 0, push_keep _ _ _ _ (Heap.get?_push_size _ rfl), rfl, by intro e he; simp at he, fun _ => rfl⟩, none, _, by
      have := Heap.get?_push_size (h.push { cls := .type "dict", data := .dict #[] }) (o := ({ cls := .type "cell", data := .cell none } : Obj)) rfl
      rw [Heap.size_push] at this
      exact this, rfl⟩) J j0
    (fun i v C l cv ys made g' h tk hi hP sh j Fo F' N' => by obtain ⟨rfl, o, rfl, hd⟩ := sh; exact step i v C o ys made g' h tk hi hP hd j Fo F' N') hR
end
end
section
open PySem PySem.W PySem.Calls PyProof.Rows
theorem dropC {h₀ h h' : Heap} {L C : Addr} {oC : Obj} {m : Str → Option Value} {R : List (Addr × Obj)} (F : Fr h₀ L h m) (N : Led h₀ L h ((C, oC) :: R)) (hs : Heap.SameBut C h h') : Fr h₀ L h' m ∧ Led h₀ L h' R := by
  have hC := N.N _ (.head _)
  refine ⟨F.change hs hC.2.1 hC.2.2, ⟨fun q hq => ⟨(hs.2 _ (N.off q hq)).trans (N.N q (.tail _ hq)).1, (N.N q (.tail _ hq)).2⟩, N.tail.nd⟩⟩
section
variable {prog : Program} {w : World} {A : Around} {E : Value → Shared → Prop} {env : Env} {elt iter : PySem.Expr} {x : Str} {px pos : Pos} {ifs : List PySem.Expr} {scope : Scope} {cl : List (Str × Addr)} {s : Shared}
noncomputable def LCAtL (prog : Program) (w : World) (A : Around) (env : Env) (elt : PySem.Expr) (x : Str) (ifs : List PySem.Expr) (scope : Scope) (cl : List (Str × Addr)) (Fin : Heap → Addr → (Str → Option Value) → Addr → List (Addr × Obj) → Shared → Prop) (it : Value) (s₂ : Shared) : Prop :=
  ∃ h₀ L m news I n P J, it = .ref I ∧ Src prog w A h₀ L s₂.heap news I n P ∧ Fr h₀ L s₂.heap m ∧ Led h₀ L s₂.heap news ∧ J 0 [] [] ∧
    TurnsL prog w A env elt x ifs scope cl h₀ L m news s₂.gens s₂.drawn s₂.os n P J ∧ ∀ D h' tk ys made ep, J n ys made → Fin h₀ L m D ((D, listOf ys.toArray ep) :: (made ++ news)) ⟨h', s₂.gens, s₂.drawn, tk, s₂.os⟩
noncomputable def LCAtC (prog : Program) (w : World) (A : Around) (env : Env) (elt : PySem.Expr) (x : Str) (ifs : List PySem.Expr) (scope : Scope) (cl : List (Str × Addr)) (Fin : Heap → Addr → (Str → Option Value) → Addr → List (Addr × Obj) → Shared → Prop) (it : Value) (s₂ : Shared) : Prop :=
  ∃ h₀ L m news I n P J, it = .ref I ∧ Src prog w A h₀ L s₂.heap news I n P ∧ Fr h₀ L s₂.heap m ∧ Led h₀ L s₂.heap news ∧ J 0 [] [] ∧
    TurnsC prog w A env elt x ifs scope cl h₀ L m news s₂.gens s₂.drawn s₂.os n P J ∧ ∀ D h' tk ys made ep, J n ys made → Fin h₀ L m D ((D, listOf ys.toArray ep) :: (made ++ news)) ⟨h', s₂.gens, s₂.drawn, tk, s₂.os⟩
noncomputable def FinV (Q : Value → Shared → Prop) (h₀ : Heap) (L : Addr) (m : Str → Option Value) (D : Addr) (R : List (Addr × Obj)) (s : Shared) : Prop := Fr h₀ L s.heap m → Led h₀ L s.heap R → Q (.ref D) s
noncomputable def FinS (env : Env) (y : Str) (Q : Flow → Shared → Prop) (h₀ : Heap) (L : Addr) (m : Str → Option Value) (D : Addr) (R : List (Addr × Obj)) (s : Shared) : Prop :=
  env.locals = L ∧ ∀ m' h' tk, (m' = fun z => if z = y then some (Value.ref D) else m z) → Fr h₀ L h' m' → Led h₀ L h' R → Q .next ⟨h', s.gens, s.drawn, tk, s.os⟩
theorem evalLC_L {Q : Value → Shared → Prop} (hclos : closureFor scope env = pure cl) (hcell : ∀ y ∈ scope.names, y.2 ≠ .cell) (hkind : scope.kind = .function)
    (hnames : ∀ y ∈ scope.names, y.2 = .local → scope.names.lookup y.1 = some .local) (hx : scope.names.lookup x = some .local)
    (h : wpAny (model prog w) A (eval iter env) (fun xv s₁ => wpAny (model prog w) A (pyIter xv) (LCAtL prog w A env elt x ifs scope cl (FinV Q)) E s₁) E s)
    (hs : ∀ x, foldedSetIterable iter env x = pure x) : wpAny (model prog w) A (eval (.ListComp elt [⟨.Name x px, iter, ifs, 0⟩] scope pos) env) Q E s := by
  rw [eval_ListComp]
  refine wpAny_comprehension_free (use := none) rfl hs hclos hkind hnames (wpAny_mono h (fun xv s₁ h₁ => wpAny_mono h₁ (fun it s₂ h₂ => ?_) fun _ _ e => e) fun _ _ e => e)
  refine nameG fun GG hGG => ?_
  obtain ⟨h₀, L, m, news, I, n, P, J, rfl, S, F, N, j0, T, fin⟩ := h₂
  refine hGG ?_; clear hGG GG
  refine lc_L (RR := fun acc C => compPost (model prog w) A E none Q acc C) hcell hkind hx S F N J j0 T ?_
  intro D C oC h' tk ys made ep j F' N' ⟨mC, hn⟩
  exact ⟨mC, hn, fun h'' hs'' => fin D h'' tk ys made ep j (dropC F' N' hs'').1 (dropC F' N' hs'').2⟩
theorem evalLC_C {Q : Value → Shared → Prop} (hclos : closureFor scope env = pure cl) (hcl : ∀ k, cellsFrom k scope.names cl = (x, k) :: cl) (hpc : ∀ h, pushCells h scope.names = h.push { cls := .type "cell", data := .cell none }) (hkind : scope.kind = .function)
    (hnames : ∀ y ∈ scope.names, y.2 = .local → scope.names.lookup y.1 = some .local) (hx : (relabel scope env).names.lookup x = some .cell)
    (h : wpAny (model prog w) A (eval iter env) (fun xv s₁ => wpAny (model prog w) A (pyIter xv) (LCAtC prog w A env elt x ifs scope cl (FinV Q)) E s₁) E s)
    (hs : ∀ x, foldedSetIterable iter env x = pure x) : wpAny (model prog w) A (eval (.ListComp elt [⟨.Name x px, iter, ifs, 0⟩] scope pos) env) Q E s := by
  rw [eval_ListComp]
  refine wpAny_comprehension_free (use := none) rfl hs hclos hkind hnames (wpAny_mono h (fun xv s₁ h₁ => wpAny_mono h₁ (fun it s₂ h₂ => ?_) fun _ _ e => e) fun _ _ e => e)
  refine nameG fun GG hGG => ?_
  obtain ⟨h₀, L, m, news, I, n, P, J, rfl, S, F, N, j0, T, fin⟩ := h₂
  refine hGG ?_; clear hGG GG
  refine lc_C (RR := fun acc C => compPost (model prog w) A E none Q acc C) hcl hpc hkind hx S F N J j0 T ?_
  intro D C oC h' tk ys made ep j F' N' ⟨mC, hn⟩
  exact ⟨mC, hn, fun h'' hs'' => fin D h'' tk ys made ep j (dropC F' N' hs'').1 (dropC F' N' hs'').2⟩
theorem useStore {y : Str} {py : Pos} {Q : Flow → Shared → Prop} {h₀ h : Heap} {L C D : Addr} {oC : Obj} {m mC : Str → Option Value} {R : List (Addr × Obj)} {gs : Array GenState} {dr : Drawn} {os : OsState} {tk : Nat}
    (hy : env.kindOf y = some .local) (hk : env.scope.kind = .function) (F : Fr h₀ L h m) (N : Led h₀ L h ((C, oC) :: R)) (hn : h.Ns C mC) (fin : ∀ h' tk, FinS env y Q h₀ L m D R ⟨h', gs, dr, tk, os⟩) :
    compPost (model prog w) A E (some (assign (.Name y py) env)) (fun _ s' => Q .next s') (.ref D) C (.ok .next) ⟨h, gs, dr, tk, os⟩ := by
  show wpAny _ A (assign (.Name y py) env (.ref D)) _ _ _
  obtain ⟨rfl, f⟩ := fin h tk
  refine wpAny_assign_Name (wpAny_storeName_local hy F.ns (fun h₂ hn₂ hs₂ => ?_) (by rw [hk]; rfl))
  have hC := N.N _ (.head _)
  refine ⟨mC, hn.sameBut hs₂ hC.2.1, fun h₃ hs₃ => ?_⟩
  have d := dropC (F.set hn₂ hs₂) ⟨N.N.set hs₂, N.nd⟩ hs₃
  exact f _ h₃ _ rfl d.1 d.2
theorem asgLC_C {y : Str} {py spos : Pos} {Q : Flow → Shared → Prop} (hsw : swapsWith (.ListComp elt [⟨.Name x px, iter, ifs, 0⟩] scope pos) (some (.Name y py)) spos.line env = pure true)
    (hclos : closureFor scope env = pure cl) (hcl : ∀ k, cellsFrom k scope.names cl = (x, k) :: cl) (hpc : ∀ h, pushCells h scope.names = h.push { cls := .type "cell", data := .cell none }) (hkind : scope.kind = .function)
    (hnames : ∀ y ∈ scope.names, y.2 = .local → scope.names.lookup y.1 = some .local) (hx : (relabel scope env).names.lookup x = some .cell) (hy : env.kindOf y = some .local) (hk : env.scope.kind = .function)
    (h : wpAny (model prog w) A (eval iter env) (fun xv s₁ => wpAny (model prog w) A (pyIter xv) (LCAtC prog w A env elt x ifs scope cl (FinS env y Q)) E s₁) E s)
    (hs : ∀ x, foldedSetIterable iter env x = pure x) : wpAny (model prog w) A (exec (.Assign [.Name y py] (.ListComp elt [⟨.Name x px, iter, ifs, 0⟩] scope pos) spos) env) Q E s := by
  rw [exec_Assign_Name_used _ _ _ _ hsw]
  refine wpAny_bind (wpAny_standAt (wpAny_bind ?_))
  show wpAny _ A (do let _ ← comprehension (.ListComp elt [⟨.Name x px, iter, ifs, 0⟩] scope pos) scope env _ (newList []) false (eval iter env) (some (assign (.Name y py) env))) _ _ s
  refine wpAny_bind (wpAny_mono (wpAny_comprehension_free (use := some (assign (.Name y py) env)) (Q := fun _ s' => Q .next s') rfl hs hclos hkind hnames
    (wpAny_mono h (fun xv s₁ h₁ => wpAny_mono h₁ (fun it s₂ h₂ => ?_) fun _ _ e => e) fun _ _ e => e)) (fun _ s' hq => wpAny_pure (wpAny_pure hq)) fun _ _ e => e)
  refine nameG fun GG hGG => ?_
  obtain ⟨h₀, L, m, news, I, n, P, J, rfl, S, F, N, j0, T, fin⟩ := h₂
  refine hGG ?_; clear hGG GG
  refine lc_C (RR := fun acc C => compPost (model prog w) A E (some (assign (.Name y py) env)) (fun _ s' => Q .next s') acc C) hcl hpc hkind hx S F N J j0 T ?_
  intro D C oC h' tk ys made ep j F' N' ⟨mC, hn⟩
  exact useStore hy hk F' N' hn fun h'' tk'' => fin D h'' tk'' ys made ep j
noncomputable def FPost (h₀ : Heap) (L : Addr) (gs : Array GenState) (dr : Drawn) (os : OsState) (own : Addr × Obj) (Jn : (Str → Option Value) → List (Addr × Obj) → Prop) (s₃ : Shared) : Prop :=
  ∃ h' tk' m' R news₂, s₃ = ⟨h', gs, dr, tk', os⟩ ∧ Fr h₀ L h' m' ∧ Led h₀ L h' R ∧ (own :: news₂).Sublist R ∧ Jn m' news₂
theorem FPost.intro {h₀ : Heap} {L : Addr} {gs : Array GenState} {dr : Drawn} {os : OsState} {own : Addr × Obj} {Jn : (Str → Option Value) → List (Addr × Obj) → Prop} {h' : Heap} {tk' : Nat} {m' : Str → Option Value} {R : List (Addr × Obj)} (news₂ : List (Addr × Obj))
    (F : Fr h₀ L h' m') (N : Led h₀ L h' R) (hs : (own :: news₂).Sublist R) (j : Jn m' news₂) : FPost h₀ L gs dr os own Jn ⟨h', gs, dr, tk', os⟩ := ⟨h', tk', m', R, news₂, rfl, F, N, hs, j⟩
noncomputable def FStore (prog : Program) (w : World) (A : Around) (env : Env) (x : Str) (h₀ : Heap) (L : Addr) (Jt : Value → (Str → Option Value) → List (Addr × Obj) → (Str → Option Value) → List (Addr × Obj) → Prop) : Prop :=
  ∀ v m news hh gs dr tk os (Q : Unit → Shared → Prop) (E : Value → Shared → Prop) I it, Fr h₀ L hh m → Led h₀ L hh ((I, it) :: news) → (∀ m' news' h' tk', Jt v m news m' news' → Fr h₀ L h' m' → Led h₀ L h' ((I, it) :: news') → Q () ⟨h', gs, dr, tk', os⟩) →
    wpAny (model prog w) A (storeName env x v) Q E ⟨hh, gs, dr, tk, os⟩
theorem fstoreL {h₀ : Heap} {L : Addr} (hC : env.locals = L) (hk : env.scope.kind = .function) (hl : env.kindOf x = some .local) :
    FStore prog w A env x h₀ L (fun v m news m' news' => (m' = fun y => if y = x then some v else m y) ∧ news' = news) := by
  intro v m news hh gs dr tk os Q E I it F N hQ
  subst hC
  exact wpAny_storeName_local hl F.ns (fun h' hn hs => hQ _ _ h' _ ⟨rfl, rfl⟩ (F.set hn hs) ⟨N.N.set hs, N.nd⟩) (by rw [hk]; rfl)
structure SrcF (prog : Program) (w : World) (A : Around) (h₀ : Heap) (L : Addr) (hh : Heap) (I : Addr) (n : Nat) (P : Nat → Value → Prop) (fx : List (Addr × Obj)) : Prop where
  ex : ∃ (fp : List Addr) (St : Nat → Heap → Prop), Walks prog w A I fp [I] n P St ∧ St 0 hh ∧ (∀ i h, St i h → ∃ o, h.get? I = some o) ∧ I ≠ L ∧ h₀.get? I = none ∧ (∀ b ∈ fp, b ≠ I → (∃ o, h₀.get? b = some o) ∨ ∃ o, (b, o) ∈ fx ∧ hh.get? b = some o)
noncomputable def FStoreJ (prog : Program) (w : World) (A : Around) (env : Env) (x : Str) (h₀ : Heap) (L : Addr) (Ok : List (Addr × Obj) → Prop) (Jt : Value → (Str → Option Value) → List (Addr × Obj) → (Str → Option Value) → List (Addr × Obj) → Prop) : Prop :=
  ∀ v m news hh gs dr tk os (Q : Unit → Shared → Prop) (E : Value → Shared → Prop) I it, Ok news → Fr h₀ L hh m → Led h₀ L hh ((I, it) :: news) → (∀ m' news' h' tk', Jt v m news m' news' → Fr h₀ L h' m' → Led h₀ L h' ((I, it) :: news') → Q () ⟨h', gs, dr, tk', os⟩) →
    wpAny (model prog w) A (storeName env x v) Q E ⟨hh, gs, dr, tk, os⟩
theorem for_coreC {body : List Stmt} {h₀ hh : Heap} {L I : Addr} {n : Nat} {P : Nat → Value → Prop} {m : Str → Option Value} {news fx : List (Addr × Obj)} {gs : Array GenState} {dr : Drawn} {os : OsState} {tk₀ : Nat} {R : Result → Shared → Prop}
    {Jt : Value → (Str → Option Value) → List (Addr × Obj) → (Str → Option Value) → List (Addr × Obj) → Prop} {Ok : List (Addr × Obj) → Prop}
    (S : SrcF prog w A h₀ L hh I n P fx) (F : Fr h₀ L hh m) (N : Led h₀ L hh news) (hIn : I ∉ news.map (·.1)) (J : Nat → (Str → Option Value) → List (Addr × Obj) → Prop) (j0 : J 0 m news)
    (hfx : ∀ i m news, J i m news → ∀ q ∈ fx, q ∈ news) (hOk : ∀ i m news, J i m news → Ok news) (ST : FStoreJ prog w A env x h₀ L Ok Jt)
    (step : ∀ i v m news₁ m' news' it h tk, i < n → P i v → J i m news₁ → Jt v m news₁ m' news' → Fr h₀ L h m' → Led h₀ L h ((I, it) :: news') →
      wpAny (model prog w) A (execs body env) (fun f s₃ => match f with | .next | .cont => FPost h₀ L gs dr os (I, it) (J (i + 1)) s₃ | .brk => R (.ok .next) s₃ | .ret v => R (.ok (.ret v)) s₃) (fun _ _ => False) ⟨h, gs, dr, tk, os⟩)
    (hR : ∀ h' tk m' news', Fr h₀ L h' m' → Led h₀ L h' news' → J n m' news' → R (.ok .next) ⟨h', gs, dr, tk, os⟩) :
    codeAny (model prog w) A (.forLoop (.Name x px) (.ref I) body [] env) R ⟨hh, gs, dr, tk₀, os⟩ := by
  refine nameG fun GG hGG => ?_
  obtain ⟨fp, St, W, st0, has, hIL, hI0, hfp⟩ := S.ex
  refine hGG ?_; clear hGG GG
  refine codeAny_forLoop (fun k s' => ∃ i h tk m news, s' = ⟨h, gs, dr, tk, os⟩ ∧ k = n + 1 - i ∧ i ≤ n ∧ St i h ∧ Fr h₀ L h m ∧ Led h₀ L h news ∧ I ∉ news.map (·.1) ∧ J i m news) ?_ (n + 1) ⟨0, hh, tk₀, m, news, rfl, rfl, Nat.zero_le _, st0, F, N, hIn, j0⟩
  intro k s' z1
  refine nameG fun GG hGG => ?_
  obtain ⟨i, h, tk, m, news, rfl, rfl, hi, st, F, N, hIn, j⟩ := z1
  refine hGG ?_; clear hGG GG
  have nx : ∀ h1 : Heap, (∀ b o, b ∉ [I] → h.get? b = some o → h1.get? b = some o) → Fr h₀ L h1 m ∧ Led h₀ L h1 news := fun h1 hk1 => by
    refine ⟨⟨F.ns.at' fun o e => hk1 _ o (by simp only [List.mem_singleton]; exact fun e => hIL e.symm) e, fun b o e => hk1 b o (by simp only [List.mem_singleton]; rintro rfl; rw [hI0] at e; cases e) (F.keep b o e), F.above⟩, ⟨fun q hq => ⟨hk1 _ _ (by simp only [List.mem_singleton]; rintro e; exact hIn (e ▸ List.mem_map_of_mem hq)) (N.N q hq).1, (N.N q hq).2⟩, N.nd⟩⟩
  by_cases hlt : i < n
  · refine W.item i _ _ _ hlt st fun v h1 tk1 hP st1 hk1 => ?_
    refine nameG fun GG hGG => ?_
    obtain ⟨F1, N1⟩ := nx h1 hk1
    obtain ⟨it, hit⟩ := has _ _ st1
    refine hGG ?_; clear hGG GG
    have N1' : Led h₀ L h1 ((I, it) :: news) := Led.cons (fun q hq => by
      rcases List.mem_cons.mp hq with rfl | hq
      · exact ⟨hit, hIL, hI0⟩
      · exact N1.N q hq) N1.nd fun q hq e => hIn (by have := List.mem_map_of_mem (f := fun q : Addr × Obj => q.1) hq; rwa [show q.1 = I from e] at this)
    refine wpAny_assign_Name (ST v m news h1 gs dr _ os _ _ I it (hOk _ _ _ j) F1 N1' fun m' news' h2 tk2 jt F2 N2 => ?_)
    refine wpAny_noRaise (wpAny_mono (step i v m news m' news' it h2 tk2 hlt hP j jt F2 N2) (fun f s₃ q => ?_) fun _ _ e => e)
    have fin : FPost h₀ L gs dr os (I, it) (J (i + 1)) s₃ → ∃ m, m < n + 1 - i ∧ ∃ i h tk m_1 news, s₃ = ⟨h, gs, dr, tk, os⟩ ∧ m = n + 1 - i ∧ i ≤ n ∧ St i h ∧ Fr h₀ L h m_1 ∧ Led h₀ L h news ∧ I ∉ news.map (·.1) ∧ J i m_1 news := by
      intro z2
      refine nameG fun GG hGG => ?_
      obtain ⟨h3, tk3, m3, R3, news3, rfl, F3, N3, hs, j3⟩ := z2
      refine hGG ?_; clear hGG GG
      have N3' := Led.sub N3 hs
      refine ⟨n + 1 - (i + 1), by omega, i + 1, h3, tk3, m3, news3, rfl, rfl, hlt, ?_, F3, N3'.tail, fun hm => ?_, j3⟩
      · refine W.frame _ _ _ st1 fun b hb o e => ?_
        by_cases hbI : b = I
        · subst hbI
          rw [hit] at e; cases e
          exact (N3'.N _ (.head _)).1
        · rcases hfp b hb hbI with ⟨o2, ho2⟩ | ⟨o2, hm2, _⟩
          · rw [F1.keep _ _ ho2] at e; cases e
            exact F3.keep _ _ ho2
          · have h5 := hfx _ _ _ j _ hm2
            rw [(N1.N _ h5).1] at e; cases e
            exact (N3'.tail.N _ (hfx _ _ _ j3 _ hm2)).1
      · obtain ⟨q, hq, e⟩ := List.mem_map.mp hm
        exact N3'.off q hq e
    cases f with
    | next => exact fin q
    | cont => exact fin q
    | brk => exact q
    | ret v => exact q
  · have hin : i = n := by omega
    subst hin
    refine W.done _ _ _ st fun h1 tk1 hk1 => wpAny_execs_nil ?_
    obtain ⟨F1, N1⟩ := nx h1 hk1
    exact hR h1 tk1 m news F1 N1 j
theorem for_core {body : List Stmt} {h₀ hh : Heap} {L I : Addr} {n : Nat} {P : Nat → Value → Prop} {m : Str → Option Value} {news fx : List (Addr × Obj)} {gs : Array GenState} {dr : Drawn} {os : OsState} {tk₀ : Nat} {R : Result → Shared → Prop}
    {Jt : Value → (Str → Option Value) → List (Addr × Obj) → (Str → Option Value) → List (Addr × Obj) → Prop}
    (S : SrcF prog w A h₀ L hh I n P fx) (F : Fr h₀ L hh m) (N : Led h₀ L hh news) (hIn : I ∉ news.map (·.1)) (J : Nat → (Str → Option Value) → List (Addr × Obj) → Prop) (j0 : J 0 m news)
    (hfx : ∀ i m news, J i m news → ∀ q ∈ fx, q ∈ news) (ST : FStore prog w A env x h₀ L Jt)
    (step : ∀ i v m news₁ m' news' it h tk, i < n → P i v → J i m news₁ → Jt v m news₁ m' news' → Fr h₀ L h m' → Led h₀ L h ((I, it) :: news') →
      wpAny (model prog w) A (execs body env) (fun f s₃ => match f with | .next | .cont => FPost h₀ L gs dr os (I, it) (J (i + 1)) s₃ | .brk => R (.ok .next) s₃ | .ret v => R (.ok (.ret v)) s₃) (fun _ _ => False) ⟨h, gs, dr, tk, os⟩)
    (hR : ∀ h' tk m' news', Fr h₀ L h' m' → Led h₀ L h' news' → J n m' news' → R (.ok .next) ⟨h', gs, dr, tk, os⟩) :
    codeAny (model prog w) A (.forLoop (.Name x px) (.ref I) body [] env) R ⟨hh, gs, dr, tk₀, os⟩ :=
  for_coreC (Ok := fun _ => True) S F N hIn J j0 hfx (fun _ _ _ _ => trivial) (fun v m news hh gs dr tk os Q E I it _ => ST v m news hh gs dr tk os Q E I it) step hR
noncomputable def ForAt (prog : Program) (w : World) (A : Around) (env : Env) (x : Str) (body : List Stmt) (Q : Flow → Shared → Prop) (it : Value) (s₂ : Shared) : Prop :=
  ∃ (h₀ : Heap) (L I : Addr) (n : Nat) (P : Nat → Value → Prop) (m : Str → Option Value) (news fx : List (Addr × Obj)) (Jt : Value → (Str → Option Value) → List (Addr × Obj) → (Str → Option Value) → List (Addr × Obj) → Prop) (J : Nat → (Str → Option Value) → List (Addr × Obj) → Prop), it = .ref I ∧ SrcF prog w A h₀ L s₂.heap I n P fx ∧ Fr h₀ L s₂.heap m ∧ Led h₀ L s₂.heap news ∧ I ∉ news.map (·.1) ∧ J 0 m news ∧ (∀ i m news, J i m news → ∀ q ∈ fx, q ∈ news) ∧ FStore prog w A env x h₀ L Jt ∧
    (∀ i v m news₁ m' news' it h tk, i < n → P i v → J i m news₁ → Jt v m news₁ m' news' → Fr h₀ L h m' → Led h₀ L h ((I, it) :: news') →
      wpAny (model prog w) A (execs body env) (fun f s₃ => match f with | .next | .cont => FPost h₀ L s₂.gens s₂.drawn s₂.os (I, it) (J (i + 1)) s₃ | .brk => Q .next s₃ | .ret v => Q (.ret v) s₃) (fun _ _ => False) ⟨h, s₂.gens, s₂.drawn, tk, s₂.os⟩) ∧
    (∀ h' tk m' news', Fr h₀ L h' m' → Led h₀ L h' news' → J n m' news' → Q .next ⟨h', s₂.gens, s₂.drawn, tk, s₂.os⟩)
theorem forM {body : List Stmt} {Q : Flow → Shared → Prop} (h : wpAny (model prog w) A (eval iter env) (fun xv s₁ => wpAny (model prog w) A (pyIter xv) (ForAt prog w A env x body Q) E s₁) E s)
    (hs : ∀ x, foldedSetIterable iter env x = pure x) : wpAny (model prog w) A (exec (.For (.Name x px) iter body [] pos) env) Q E s := by
  refine wpAny_For (wpAny_mono h (fun xv s₁ h₁ => wpAny_mono h₁ (fun it s₂ h₂ => ?_) fun _ _ e => e) fun _ _ e => e) hs
  refine nameG fun GG hGG => ?_
  obtain ⟨h₀, L, I, n, P, m, news, fx, Jt, J, rfl, S, F, N, hI, j0, hfx, ST, step, fin⟩ := h₂
  refine hGG ?_; clear hGG GG
  exact for_core (R := fun r s' => match r with | .ok f => Q f s' | .error e => cameBackBy (model prog w) A env E e s') S F N hI J j0 hfx ST step fin
noncomputable def WPost (h₀ : Heap) (L : Addr) (gs : Array GenState) (dr : Drawn) (os : OsState) (J : Nat → (Str → Option Value) → List (Addr × Obj) → Prop) (n : Nat) (s₃ : Shared) : Prop :=
  ∃ h' tk' m' R news₂ k, s₃ = ⟨h', gs, dr, tk', os⟩ ∧ Fr h₀ L h' m' ∧ Led h₀ L h' R ∧ news₂.Sublist R ∧ k < n ∧ J k m' news₂
theorem WPost.intro {h₀ : Heap} {L : Addr} {gs : Array GenState} {dr : Drawn} {os : OsState} {J : Nat → (Str → Option Value) → List (Addr × Obj) → Prop} {n : Nat} {h' : Heap} {tk' : Nat} {m' : Str → Option Value} {R : List (Addr × Obj)} (news₂ : List (Addr × Obj)) (k : Nat)
    (F : Fr h₀ L h' m') (N : Led h₀ L h' R) (hs : news₂.Sublist R) (hk : k < n) (j : J k m' news₂) : WPost h₀ L gs dr os J n ⟨h', gs, dr, tk', os⟩ := ⟨h', tk', m', R, news₂, k, rfl, F, N, hs, hk, j⟩
theorem whileM {test : PySem.Expr} {body orelse : List Stmt} {Q : Flow → Shared → Prop} {h₀ hh : Heap} {L : Addr} {m : Str → Option Value} {news : List (Addr × Obj)} {gs : Array GenState} {dr : Drawn} {os : OsState} {tk₀ : Nat} (J : Nat → (Str → Option Value) → List (Addr × Obj) → Prop) (n₀ : Nat)
    (F : Fr h₀ L hh m) (N : Led h₀ L hh news) (j0 : J n₀ m news)
    (turn : ∀ n m news h tk, Fr h₀ L h m → Led h₀ L h news → J n m news → wpAny (model prog w) A (isTrue test env (eval test env)) (fun b s₂ =>
      if b = true then wpAny (model prog w) A (execs body env) (fun f s₃ => match f with | .next | .cont => WPost h₀ L gs dr os J n s₃ | .brk => Q .next s₃ | .ret v => Q (.ret v) s₃) (fun _ _ => False) s₂
      else wpAny (model prog w) A (execs orelse env) Q (fun _ _ => False) s₂) (fun _ _ => False) ⟨h, gs, dr, tk, os⟩) :
    wpAny (model prog w) A (exec (.While test body orelse pos) env) Q E ⟨hh, gs, dr, tk₀, os⟩ := by
  refine wpAny_While (codeAny_whileLoop (fun n s' => ∃ h tk m news, s' = ⟨h, gs, dr, tk, os⟩ ∧ Fr h₀ L h m ∧ Led h₀ L h news ∧ J n m news) ?_ n₀ ⟨hh, tk₀, m, news, rfl, F, N, j0⟩)
  intro n s' z3
  refine nameG fun GG hGG => ?_
  obtain ⟨h, tk, m, news, rfl, F, N, j⟩ := z3
  refine hGG ?_; clear hGG GG
  refine wpAny_noRaise (wpAny_mono (turn n m news h tk F N j) (fun b s₂ q => ?_) fun _ _ e => e)
  cases b with
  | false =>
    rw [if_neg (by decide)] at q ⊢
    exact wpAny_noRaise (wpAny_mono q (fun f s₃ q => q) fun _ _ e => e)
  | true =>
    rw [if_pos rfl] at q ⊢
    refine wpAny_noRaise (wpAny_mono q (fun f s₃ q => ?_) fun _ _ e => e)
    have fin : WPost h₀ L gs dr os J n s₃ → ∃ k, k < n ∧ ∃ h tk m news, s₃ = ⟨h, gs, dr, tk, os⟩ ∧ Fr h₀ L h m ∧ Led h₀ L h news ∧ J k m news := by
      intro z4
      refine nameG fun GG hGG => ?_
      obtain ⟨h3, tk3, m3, R3, news3, k, rfl, F3, N3, hs, hk, j3⟩ := z4
      refine hGG ?_; clear hGG GG
      exact ⟨k, hk, h3, tk3, m3, news3, rfl, F3, N3.sub hs, j3⟩
    cases f with
    | next => exact fin q
    | cont => exact fin q
    | brk => exact q
    | ret v => exact q
theorem rangeSrcF {r : Addr} {n : Int} (k : Nat) (hn : n = (k : Int)) {t t1 t2 : Tok} {Q : Value → Shared → Prop} {h₀ hh : Heap} {L : Addr} {m : Str → Option Value} {news : List (Addr × Obj)} {gs : Array GenState} {dr : Drawn} {os : OsState} {tk₀ : Nat} (hA : A.handled = none) (F : Fr h₀ L hh m) (N : Led h₀ L hh news) (hm : (r, ({ cls := .type "range", data := .fields #[.int 0 t1, .int n t, .int 1 t2] } : Obj)) ∈ news) (hk : k ≤ 1000)
    (h : ∀ I h', Fr h₀ L h' m → Led h₀ L h' news → I ∉ news.map (·.1) → SrcF prog w A h₀ L h' I k (fun i v => ∃ t, v = .int (i : Int) t) [] → Q (.ref I) ⟨h', gs, dr, tk₀, os⟩) :
    wpAny (model prog w) A (pyIter (.ref r)) Q E ⟨hh, gs, dr, tk₀, os⟩ := by
  subst hn
  have hr : IsRange hh r 0 k 1 t1 t t2 := (N.N _ hm).1
  have hs : Builtin.Range.rangeSize 0 (k : Int) 1 = (k : Int) := by
    unfold Builtin.Range.rangeSize
    simp
    lia
  have hsm : Builtin.Range.small 0 (k : Int) 1 = true := by
    unfold Builtin.Range.small
    rw [hs]
    unfold Builtin.Range.rangeFitsLong
    simp
    lia
  refine wpAny_pyIter_range hr hsm ?_
  have hn := newAddr F N
  refine h _ _ (keepFr F (push_keep _ _)) (keepLed N (push_keep _ _)) hn.2.2 ⟨[hh.objs.size], (fun i h => IsRangeIter h hh.objs.size (0 + (i : Nat) * 1) ((k : Int) - (i : Nat)) 1), ?_, ?_, ?_, hn.1, hn.2.1, ?_⟩
  · have W := LCg.range_walks (prog := prog) (w := w) (I := hh.objs.size) hA 0 k
    exact { sub := W.sub, frame := W.frame, done := W.done, self := W.self, item := fun i s Q E hi st hQ => W.item i s Q E hi st fun v h' tk hP => hQ v h' tk (by obtain ⟨t, rfl⟩ := hP; exact ⟨t, by rw [Int.zero_add]⟩) }
  · show IsRangeIter _ _ _ _ _
    rw [hs]; simpa using Heap.get?_push_size _ rfl
  · intro i h st; exact ⟨_, st⟩
  · intro b hb hne; exact absurd (List.mem_singleton.mp hb) hne
theorem listSrcF {ax : Addr} {its : Array Value} {ep : Nat} {Q : Value → Shared → Prop} {h₀ hh : Heap} {L : Addr} {m : Str → Option Value} {news : List (Addr × Obj)} {gs : Array GenState} {dr : Drawn} {os : OsState} {tk₀ : Nat} (hA : A.handled = none) (F : Fr h₀ L hh m) (N : Led h₀ L hh news) (hm : (ax, listOf its ep) ∈ news)
    (h : ∀ I h', Fr h₀ L h' m → Led h₀ L h' news → I ∉ news.map (·.1) → SrcF prog w A h₀ L h' I its.size (fun i v => its[i]? = some v) [(ax, listOf its ep)] → Q (.ref I) ⟨h', gs, dr, tk₀, os⟩) :
    wpAny (model prog w) A (pyIter (.ref ax)) Q E ⟨hh, gs, dr, tk₀, os⟩ := by
  have ho := (N.N _ hm).1
  have hl : hh.IsList ax its := ⟨_, ho, rfl, _, rfl⟩
  refine wpAny_pyIter_list (s := ⟨hh, gs, dr, tk₀, os⟩) hl ?_
  have hn := newAddr F N
  have hlt := Heap.lt_size ho
  have ho' := push_keep hh { cls := .type "list_iterator", data := .fields #[.ref ax, .int 0 0] } _ _ ho
  refine h _ _ (keepFr F (push_keep _ _)) (keepLed N (push_keep _ _)) hn.2.2 ⟨[hh.objs.size, ax], _, Walks.list hA hh.objs.size ax (Nat.ne_of_lt hlt) its, ⟨⟨_, Heap.get?_push_size _ rfl, rfl, rfl⟩, hl.push _⟩, ?_, hn.1, hn.2.1, ?_⟩
  · intro i h st; obtain ⟨o, e, _⟩ := st.1; exact ⟨o, e⟩
  · intro b hb hne
    simp only [List.mem_cons, List.not_mem_nil, or_false] at hb
    rcases hb with rfl | rfl
    · exact absurd rfl hne
    · exact .inr ⟨_, .head _, ho'⟩
theorem tupSrcF {ax : Addr} {its : Array Value} {ep : Nat} {Q : Value → Shared → Prop} {h₀ hh : Heap} {L : Addr} {m : Str → Option Value} {news : List (Addr × Obj)} {gs : Array GenState} {dr : Drawn} {os : OsState} {tk₀ : Nat} (hA : A.handled = none) (F : Fr h₀ L hh m) (N : Led h₀ L hh news) (hm : (ax, ({ cls := .type "tuple", data := .seq its ep } : Obj)) ∈ news)
    (h : ∀ I h', Fr h₀ L h' m → Led h₀ L h' news → I ∉ news.map (·.1) → SrcF prog w A h₀ L h' I its.size (fun i v => its[i]? = some v) [(ax, { cls := .type "tuple", data := .seq its ep })] → Q (.ref I) ⟨h', gs, dr, tk₀, os⟩) :
    wpAny (model prog w) A (pyIter (.ref ax)) Q E ⟨hh, gs, dr, tk₀, os⟩ := by
  have ho := (N.N _ hm).1
  have hl : hh.IsTuple ax its := ⟨_, ho, rfl, _, rfl⟩
  refine wpAny_pyIter_tuple (s := ⟨hh, gs, dr, tk₀, os⟩) hl ?_
  have hn := newAddr F N
  have hlt := Heap.lt_size ho
  have ho' := push_keep hh { cls := .type "tuple_iterator", data := .fields #[.ref ax, .int 0 0] } _ _ ho
  refine h _ _ (keepFr F (push_keep _ _)) (keepLed N (push_keep _ _)) hn.2.2 ⟨[hh.objs.size, ax], _, Walks.tuple hA hh.objs.size ax (Nat.ne_of_lt hlt) its, ⟨⟨_, Heap.get?_push_size _ rfl, rfl, rfl⟩, hl.push _⟩, ?_, hn.1, hn.2.1, ?_⟩
  · intro i h st; obtain ⟨o, e, _⟩ := st.1; exact ⟨o, e⟩
  · intro b hb hne
    simp only [List.mem_cons, List.not_mem_nil, or_false] at hb
    rcases hb with rfl | rfl
    · exact absurd rfl hne
    · exact .inr ⟨_, .head _, ho'⟩
end
end
section
open PySem PySem.W PySem.Calls PyProof.Rows
section
variable {prog : Program} {w : World} {A : Around} {h₀ hh : Heap} {L : Addr} {m : Str → Option Value} {news : List (Addr × Obj)} {E : Value → Shared → Prop} {gs : Array GenState} {dr : Drawn} {os : OsState} {tk₀ : Nat}
theorem keepBut {h' : Heap} {wr : List Addr} (F : Fr h₀ L hh m) (N : Led h₀ L hh news) (hwr : ∀ b ∈ wr, b ≠ L ∧ h₀.get? b = none ∧ b ∉ news.map (·.1)) (k : ∀ b o, b ∉ wr → hh.get? b = some o → h'.get? b = some o) : Fr h₀ L h' m ∧ Led h₀ L h' news := by
  refine ⟨⟨F.ns.at' fun o e => k _ o (fun hm => (hwr _ hm).1 rfl) e, fun b o e => k b o (fun hm => by rw [(hwr _ hm).2.1] at e; cases e) (F.keep b o e), F.above⟩, ⟨fun q hq => ⟨k _ _ (fun hm => (hwr _ hm).2.2 (List.mem_map_of_mem hq)) (N.N q hq).1, (N.N q hq).2⟩, N.nd⟩⟩
theorem presum {val : Nat → Int} {ks : List Int} (h : ∀ i k, ks[i]? = some k → val i = k) : PySem.preSum val ks.length = ks.sum := by
  have : ∀ n, n ≤ ks.length → PySem.preSum val n = (ks.take n).sum := by
    intro n
    induction n with
    | zero => intro _; rfl
    | succ n ih =>
      intro hn
      have e : ks[n]? = some ks[n] := List.getElem?_eq_getElem (by lia)
      show PySem.preSum val n + val n = _
      rw [ih (by lia), h n _ e, List.take_add_one, e, List.sum_append]
      simp only [Option.toList_some, List.sum_cons, List.sum_nil, Int.add_zero]
  rw [this _ (Nat.le_refl _), List.take_length]
theorem ints_get {vs : List Value} {ks : List Int} (h : IntsAre vs ks) : ∀ (i : Nat) (v : Value), vs[i]? = some v → ∃ (k : Int) (t : Tok), ks[i]? = some k ∧ v = Value.int k t := by
  induction h with
  | nil => intro i v e; simp at e
  | cons k t _ ih =>
    intro i v e
    cases i with
    | zero => simp at e; exact ⟨_, _, rfl, e.symm⟩
    | succ i =>
      refine nameG fun GG hGG => ?_
      obtain ⟨k', t', e1, e2⟩ := ih i v (by simpa using e)
      refine hGG ?_; clear hGG GG
      exact ⟨k', t', by simpa using e1, e2⟩
theorem sumM {D : Addr} {vs : List Value} {ep : Nat} {ks : List Int} {S₀ : Int} {Q : Value → Shared → Prop} (hS : ks.sum = S₀) (hA : A.handled = none) (F : Fr h₀ L hh m) (N : Led h₀ L hh news) (ho : hh.get? D = some (listOf vs.toArray ep)) (hi : IntsAre vs ks) (hz : ks.length ≤ 1000)
    (h : ∀ h' tk t, Fr h₀ L h' m → Led h₀ L h' news → Q (.int S₀ t) ⟨h', gs, dr, tk, os⟩) : wpAny (model prog w) A (call (.builtin "sum") [.ref D]) Q E ⟨hh, gs, dr, tk₀, os⟩ := by
  subst hS
  refine call_sum_walkG (listSrc (A := A.in1) hA F N ho (by have := hi.length; have : sizeLine = 16777216 := rfl; simp only [List.size_toArray]; lia) fun I h' F' N' S => ?_)
  refine nameG fun GG hGG => ?_
  obtain ⟨fp, wr, St, W, st0, hfp, hwr, has, _⟩ := S
  refine hGG ?_; clear hGG GG
  have hlen : vs.toArray.size = ks.length := by simpa using hi.length
  refine ⟨I, fp, wr, _, _, St, fun i => ks.getD i 0, rfl, W, st0, fun b hb => ?_, fun i v hv => ?_, fun h'' tk t k => ?_⟩
  · obtain ⟨o, ho⟩ := hfp b hb; exact Heap.lt_size ho
  · refine nameG fun GG hGG => ?_
    obtain ⟨k, t, e, rfl⟩ := ints_get hi i v (by simpa using hv)
    refine hGG ?_; clear hGG GG
    exact ⟨t, by show _ = Value.int (ks.getD i 0) t; rw [List.getD_eq_getElem?_getD, e]; rfl⟩
  · have := keepBut F' N' hwr k
    rw [hlen, presum (ks := ks) (fun i k e => by show ks.getD i 0 = k; rw [List.getD_eq_getElem?_getD, e]; rfl)]
    exact h _ _ _ this.1 this.2
variable {a b : Int} {t u : Tok} {Q : Value → Shared → Prop}
theorem fdivM (hb : 0 < b) (hb2 : b < 1073741824) (h : Q (.int (a / b) tk₀) ⟨hh, gs, dr, tk₀ + 1, os⟩) : wpAny (model prog w) A (binaryOp .FloorDiv (.int a t) (.int b u)) Q E ⟨hh, gs, dr, tk₀, os⟩ := by
  refine floordiv_int (by omega) ?_ (.inl (PyProof.noPylong_small (by omega)))
  rw [Int.fdiv_eq_ediv_of_nonneg _ (Int.le_of_lt hb)]
  exact h
theorem modM (hb : 0 < b) (h : Q (.int (a % b) tk₀) ⟨hh, gs, dr, tk₀ + 1, os⟩) : wpAny (model prog w) A (binaryOp .Mod (.int a t) (.int b u)) Q E ⟨hh, gs, dr, tk₀, os⟩ := by
  refine mod_int' (by lia) ?_
  rw [Int.fmod_eq_emod_of_nonneg _ (Int.le_of_lt hb)]
  exact h
theorem mulM (ha : a.natAbs < 2 ^ 31) (h : Q (.int (a * b) tk₀) ⟨hh, gs, dr, tk₀ + 1, os⟩) : wpAny (model prog w) A (binaryOp .Mult (.int a t) (.int b u)) Q E ⟨hh, gs, dr, tk₀, os⟩ :=
  PyProof.Rows.mul_int h (IntMulOk.of_left (by
    unfold Builtin.Int.intBits
    by_cases h0 : a.natAbs = 0
    · have e0 : a = 0 := by lia
      subst e0; decide
    · have := (Nat.log2_lt h0).mpr (Nat.lt_of_lt_of_le ha (by decide : 2 ^ 31 ≤ 2 ^ 62)); split <;> lia))
theorem powM (c : Int) (hn : 0 ≤ b) (hn2 : b ≤ 100) (ha : a.natAbs < 2 ^ 31) (hc : a ^ b.toNat = c) (h : Q (.int c tk₀) ⟨hh, gs, dr, tk₀ + 1, os⟩) : wpAny (model prog w) A (binaryOp .Pow (.int a t) (.int b u)) Q E ⟨hh, gs, dr, tk₀, os⟩ := by
  subst hc
  exact pow_int_small hn (by lia) (by lia) h
theorem itemM {value slice : PySem.Expr} {D : Addr} {its : Array Value} {ep : Nat} {x : Value} (ho : hh.get? D = some (listOf its ep)) (h0 : 0 ≤ a) (h1 : a < 2 ^ 63) (hx : its[a.toNat]? = some x) (h : Q x ⟨hh, gs, dr, tk₀, os⟩)
    (hs : subscripted slice false (.ref D) (.int a u) = operate [.ref D, .int a u] (getItem (.ref D) (.int a u))) :
    wpAny (model prog w) A (subscriptTail value slice (.ref D) (.int a u)) Q E ⟨hh, gs, dr, tk₀, os⟩ :=
  tail_any ⟨_, ho, rfl⟩ slot_list_getitem.lookup (wpAny_getItem_list ⟨_, ho, rfl, _, rfl⟩ h0 h1 hx h) hs
theorem LCAtL.mk {env : Env} {elt : PySem.Expr} {x : Str} {ifs : List PySem.Expr} {scope : Scope} {cl : List (Str × Addr)} {Fin : Heap → Addr → (Str → Option Value) → Addr → List (Addr × Obj) → Shared → Prop} {I : Addr} {n : Nat} {P : Nat → Value → Prop} (J : Nat → List Value → List (Addr × Obj) → Prop)
    (S : Src prog w A h₀ L hh news I n P) (F : Fr h₀ L hh m) (N : Led h₀ L hh news) (j0 : J 0 [] []) (T : TurnsL prog w A env elt x ifs scope cl h₀ L m news gs dr os n P J)
    (fin : ∀ D h' tk ys made ep, J n ys made → Fin h₀ L m D ((D, listOf ys.toArray ep) :: (made ++ news)) ⟨h', gs, dr, tk, os⟩) : LCAtL prog w A env elt x ifs scope cl Fin (.ref I) ⟨hh, gs, dr, tk₀, os⟩ :=
  ⟨h₀, L, m, news, I, n, P, J, rfl, S, F, N, j0, T, fin⟩
theorem LCAtC.mk {env : Env} {elt : PySem.Expr} {x : Str} {ifs : List PySem.Expr} {scope : Scope} {cl : List (Str × Addr)} {Fin : Heap → Addr → (Str → Option Value) → Addr → List (Addr × Obj) → Shared → Prop} {I : Addr} {n : Nat} {P : Nat → Value → Prop} (J : Nat → List Value → List (Addr × Obj) → Prop)
    (S : Src prog w A h₀ L hh news I n P) (F : Fr h₀ L hh m) (N : Led h₀ L hh news) (j0 : J 0 [] []) (T : TurnsC prog w A env elt x ifs scope cl h₀ L m news gs dr os n P J)
    (fin : ∀ D h' tk ys made ep, J n ys made → Fin h₀ L m D ((D, listOf ys.toArray ep) :: (made ++ news)) ⟨h', gs, dr, tk, os⟩) : LCAtC prog w A env elt x ifs scope cl Fin (.ref I) ⟨hh, gs, dr, tk₀, os⟩ :=
  ⟨h₀, L, m, news, I, n, P, J, rfl, S, F, N, j0, T, fin⟩
theorem ForAt.mk {env : Env} {x : Str} {body : List Stmt} {Q : Flow → Shared → Prop} {I : Addr} {n : Nat} {P : Nat → Value → Prop} {fx : List (Addr × Obj)} {Jt : Value → (Str → Option Value) → List (Addr × Obj) → (Str → Option Value) → List (Addr × Obj) → Prop} (J : Nat → (Str → Option Value) → List (Addr × Obj) → Prop)
    (S : SrcF prog w A h₀ L hh I n P fx) (F : Fr h₀ L hh m) (N : Led h₀ L hh news) (hI : I ∉ news.map (·.1)) (j0 : J 0 m news) (hfx : ∀ i m news, J i m news → ∀ q ∈ fx, q ∈ news) (ST : FStore prog w A env x h₀ L Jt)
    (step : ∀ i v m news₁ m' news' it h tk, i < n → P i v → J i m news₁ → Jt v m news₁ m' news' → Fr h₀ L h m' → Led h₀ L h ((I, it) :: news') →
      wpAny (model prog w) A (execs body env) (fun f s₃ => match f with | .next | .cont => FPost h₀ L gs dr os (I, it) (J (i + 1)) s₃ | .brk => Q .next s₃ | .ret v => Q (.ret v) s₃) (fun _ _ => False) ⟨h, gs, dr, tk, os⟩)
    (fin : ∀ h' tk m' news', Fr h₀ L h' m' → Led h₀ L h' news' → J n m' news' → Q .next ⟨h', gs, dr, tk, os⟩) : ForAt prog w A env x body Q (.ref I) ⟨hh, gs, dr, tk₀, os⟩ :=
  ⟨h₀, L, I, n, P, m, news, fx, Jt, J, rfl, S, F, N, hI, j0, hfx, ST, step, fin⟩
end
theorem Led.get {h₀ h : Heap} {L : Addr} {news : List (Addr × Obj)} (N : Led h₀ L h news) {a : Addr} {o : Obj} (hm : (a, o) ∈ news) : h.get? a = some o := (N.N _ hm).1
theorem ints4 {vs : List Value} {a b c d : Int} (h : IntsAre vs [a, b, c, d]) : ∃ t0 t1 t2 t3, vs = [.int a t0, .int b t1, .int c t2, .int d t3] := by
  rcases h with _ | ⟨_, t0, _ | ⟨_, t1, _ | ⟨_, t2, _ | ⟨_, t3, h⟩⟩⟩⟩
  cases h
  exact ⟨_, _, _, _, rfl⟩
theorem ints_app {vs ws : List Value} {ks js : List Int} (h : IntsAre vs ks) (g : IntsAre ws js) : IntsAre (vs ++ ws) (ks ++ js) := by
  induction h with
  | nil => exact g
  | cons k u _ ih => exact .cons k u ih
theorem ints_take {vs : List Value} {ks : List Int} (h : IntsAre vs ks) : ∀ n, IntsAre (vs.take n) (ks.take n) := by
  induction h with
  | nil => intro n; simp; exact .nil
  | cons k u _ ih =>
    intro n
    cases n with
    | zero => exact .nil
    | succ n => exact .cons k u (ih n)
theorem ints_rep (n : Int) (t : Tok) : ∀ k, IntsAre (List.replicate k (.int n t)) (List.replicate k n)
  | 0 => .nil
  | k + 1 => .cons n t (ints_rep n t k)
theorem ints_snoc {vs : List Value} {ks : List Int} (h : IntsAre vs ks) (n : Int) (t : Tok) : IntsAre (vs ++ [.int n t]) (ks ++ [n]) := by
  induction h with
  | nil => exact .cons n t .nil
  | cons k u _ ih => exact .cons k u ih
end
section
open PySem PySem.W PySem.Calls PyProof.Rows
section
variable {prog : Program} {w : World} {A : Around} {h₀ hh : Heap} {L : Addr} {m : Str → Option Value} {news : List (Addr × Obj)} {E : Value → Shared → Prop} {gs : Array GenState} {dr : Drawn} {os : OsState} {tk₀ : Nat}
theorem ledNew {h' : Heap} {o : Obj} (F : Fr h₀ L hh m) (N : Led h₀ L hh news) (N' : News h₀ L h' ((hh.objs.size, o) :: news)) : Led h₀ L h' ((hh.objs.size, o) :: news) :=
  ⟨N', List.nodup_cons.mpr ⟨(newAddr F N).2.2, N.nd⟩⟩
variable {Q : Value → Shared → Prop}
theorem addLM {a b : Addr} {vs ws : List Value} {n k : Nat} (F : Fr h₀ L hh m) (N : Led h₀ L hh news) (ha : hh.get? a = some (listOf vs.toArray n)) (hb : hh.get? b = some (listOf ws.toArray k)) (hsz : vs.length + ws.length ≤ sizeLine)
    (h : ∀ D h', Fr h₀ L h' m → Led h₀ L h' ((D, listOf (vs ++ ws).toArray 0) :: news) → Q (.ref D) ⟨h', gs, dr, tk₀, os⟩) : wpAny (model prog w) A (binaryOp .Add (.ref a) (.ref b)) Q E ⟨hh, gs, dr, tk₀, os⟩ :=
  add_arrays (its := vs.toArray) (its2 := ws.toArray) F N.N ⟨_, ha, rfl, _, rfl⟩ ⟨_, hb, rfl, _, rfl⟩ (fun h' F' N' => h _ h' F' (ledNew F N N')) (by simpa using hsz)
theorem foldl_app (l : List (Array Value)) : ∀ a : Array Value, (List.foldl (fun x1 x2 => x1 ++ x2) a l).toList = a.toList ++ (l.map (·.toList)).flatten := by
  induction l with
  | nil => intro a; simp
  | cons x r ih => intro a; rw [List.foldl_cons, ih]; simp
theorem mulLM {a : Addr} {v : Value} {n : Nat} {x : Int} {u : Tok} (F : Fr h₀ L hh m) (N : Led h₀ L hh news) (ha : hh.get? a = some (listOf [v].toArray n)) (h0 : 0 ≤ x) (h1 : x ≤ 1000)
    (h : ∀ D h', Fr h₀ L h' m → Led h₀ L h' ((D, listOf (List.replicate x.toNat v).toArray 0) :: news) → Q (.ref D) ⟨h', gs, dr, tk₀, os⟩) : wpAny (model prog w) A (binaryOp .Mult (.ref a) (.int x u)) Q E ⟨hh, gs, dr, tk₀, os⟩ := by
  refine PyProof.Rows.mul_list F N.N ha (by lia) (by lia) (by simp; lia) fun h' F' N' => h _ h' F' ?_
  have e : (List.foldl (fun x1 x2 => x1 ++ x2) #[] (List.replicate (if ([v].toArray).isEmpty = true then 0 else x.toNat) [v].toArray)) = (List.replicate x.toNat v).toArray := by
    apply Array.toList_inj.mp
    rw [foldl_app, if_neg (by simp)]
    induction x.toNat with
    | zero => rfl
    | succ k ih => rw [List.replicate_succ, List.map_cons, List.flatten_cons, List.replicate_succ]; simpa using ih
  rw [e] at N'
  exact ledNew F N N'
theorem iaddLM {a b : Addr} {vs ws : List Value} {n k : Nat} {news' : List (Addr × Obj)} (F : Fr h₀ L hh m) (N : Led h₀ L hh news) (e : SetAt a (listOf vs.toArray n) (listOf (vs ++ ws).toArray (if ws.length = 0 then n else n + 1)) news news') (hb : hh.get? b = some (listOf ws.toArray k)) (hsz : vs.length + ws.length ≤ 1000)
    (h : ∀ h', Fr h₀ L h' m → Led h₀ L h' news' → Q (.ref a) ⟨h', gs, dr, tk₀, os⟩) : wpAny (model prog w) A (inplaceOp .Add (.ref a) (.ref b)) Q E ⟨hh, gs, dr, tk₀, os⟩ := by
  have ha : hh.get? a = some (listOf vs.toArray n) := (N.N _ e.mem).1
  have hTa : (⟨hh, gs, dr, tk₀, os⟩ : Shared).TypeIs (.ref a) "list" := ⟨_, ha, rfl⟩
  have hTb : (⟨hh, gs, dr, tk₀, os⟩ : Shared).TypeIs (.ref b) "list" := ⟨_, hb, rfl⟩
  unfold inplaceOp
  refine wpAny_holding ?_
  have hfi : fillsInplaceSlot (.type "list") "add" (Operator.Add == .Add) = pure false := by
    unfold fillsInplaceSlot
    show (typeLookup (.type "list") (dunderI "add") >>= fun fi => pure (fi.isSome && !isSeqSlot fi)) = pure false
    rw [PySem.F.slot_list_iadd.lookup]; rfl
  have hsi : seqSlot? (.type "list") (dunderI "add") = pure (some (.builtin "list.__iadd__")) := PySem.seqSlot_of PySem.F.slot_list_iadd.lookup (by decide +kernel)
  refine wpAny_bind (wpAny_typeOf hTa (wpAny_bind (wpAny_of_eq hfi ?_)))
  show wpAny _ A (if false = true then _ else _) Q E _
  rw [if_neg Bool.false_ne_true]
  refine wpAny_bind (wpAny_binaryOp1_none (nm := "add") hTa hTb noFill_list_add ?_)
  refine wpAny_bind (wpAny_of_eq hsi ?_)
  refine wpAny_bind (wpAny_rule (wpAny_call_entry PySem.F.slot_list_iadd hTa PySem.F.entry_list_iadd ?_ (PySem.F.args_list_iadd_2 _ _)))
  show wpAny _ A.in1 (Builtin.List.listExtendWith (.ref a) (.ref b) (.ref a)) _ _ _
  unfold Builtin.List.listExtendWith
  refine wpAny_bind (wpAny_typeOf hTb ?_)
  refine wpAny_ite ((if_pos (by simp)).mpr ?_)
  unfold Builtin.List.listItems
  refine wpAny_bind (wpAny_bind (wpAny_seqItems hb rfl (wpAny_pure ?_)))
  refine wpAny_bind (wpAny_bind (wpAny_seqItems ha rfl (wpAny_pure ?_)))
  refine wpAny_ite ((if_neg (by
    unfold Builtin.List.listTooLong
    have : sizeLine = 16777216 := rfl
    simp
    lia)).mpr ?_)
  unfold Builtin.List.listUpdate
  dsimp only
  have em : (listOf vs.toArray n).mapSeq (· ++ ws.toArray) = listOf (vs ++ ws).toArray (if ws.length = 0 then n else n + 1) := by
    show ({ cls := _, dict := _, data := Data.seq _ _, slots := _ } : Obj) = _
    have : vs.toArray ++ ws.toArray = (vs ++ ws).toArray := by simp
    simp only [this]
    by_cases hw : ws.length = 0
    · have : ws = [] := List.length_eq_zero_iff.mp hw
      subst this
      simp
    · simp only [List.size_toArray, List.length_append, if_neg hw]
      rw [if_neg (show ¬ (vs.length + ws.length == vs.length) = true by simp only [beq_iff_eq]; lia)]
  have ho' : (hh.update a (Obj.mapSeq (· ++ ws.toArray))).get? a = some (listOf (vs ++ ws).toArray (if ws.length = 0 then n else n + 1)) := by
    rw [Heap.get?_update_self _ ha (by rw [em]; rfl), em]
  have := N.set F e (Heap.SameBut.update ..) ho'
  exact wpAny_bind (wpAny_updateSeq ha rfl (wpAny_pure ⟨_, rfl, h _ this.1 this.2⟩))
theorem strItemM {value slice : PySem.Expr} {x : Str} {t u : Tok} {i : Int} (c : Nat) (h0 : 0 ≤ i) (h1 : i < x.length) (hx : x.length ≤ 1000) (hc : x.cps[i.toNat]? = some c) (h : ∀ t' k, Q (.str ⟨#[c]⟩ t') ⟨hh, gs, dr, k, os⟩)
    (hs : subscripted slice false (.str x t) (.int i u) = operate [.str x t, .int i u] (getItem (.str x t) (.int i u))) : wpAny (model prog w) A (subscriptTail value slice (.str x t) (.int i u)) Q E ⟨hh, gs, dr, tk₀, os⟩ := by
  refine tail_any (typeIs_str _ _ _) F.slot_str_getitem.lookup (P.getItem_str (c := c) (by
    have h2 : ¬ i < -(2 ^ 63 : Int) := by lia
    have h3 : ¬ i ≥ (2 ^ 63 : Int) := by
      have : (x.length : Int) ≤ 1000 := by lia
      lia
    rw [decide_eq_false h2, decide_eq_false h3]; rfl) ?_ (h _ _)) hs
  have e : seqIndex? i x.length = some i.toNat := by
    unfold seqIndex?
    have h2 : ¬ i < 0 := by lia
    simp [h2, h0, h1]
  rw [e]
  exact hc
theorem sliceLM {value slice : PySem.Expr} {D : Addr} {vs : List Value} {ep : Nat} {vl vu : Value} {lo hi : Option Int} {zs : List Value} (F : Fr h₀ L hh m) (N : Led h₀ L hh news) (ho : hh.get? D = some (listOf vs.toArray ep)) (pl : IsPart vl lo) (pu : IsPart vu hi)
    (e : kms_pick vs lo hi = zs) (hz : vs.length ≤ sizeLine)
    (h : ∀ D' h', Fr h₀ L h' m → Led h₀ L h' ((D', listOf zs.toArray 0) :: news) → Q (.ref D') ⟨h', gs, dr, tk₀, os⟩)
    (hs : subscripted slice false (.ref D) (.ref hh.objs.size) = operate [.ref hh.objs.size, .ref D] (getItem (.ref D) (.ref hh.objs.size))) (ht : ∀ r, letTemporaryGo value (.ref D) r = pure ()) :
    wpAny (model prog w) A (subscriptTail value slice (.ref D) (.ref hh.objs.size)) Q E ⟨hh.push { cls := .type "slice", data := .fields #[vl, vu, .none] }, gs, dr, tk₀, os⟩ :=
  kmk_slice_lit (s := ⟨hh, gs, dr, tk₀, os⟩) F N.N ⟨_, ho, rfl, _, rfl⟩ pl pu (zs := zs) (by rw [kms_pick_eq, ← e]) (fun D' h' F' N' l1 => h D' h' F' ⟨N', List.nodup_cons.mpr ⟨fun hm => by
    obtain ⟨q, hq, e⟩ := List.mem_map.mp hm
    exact absurd (l1 q hq) (by rw [show q.1 = D' from e]; exact Nat.lt_irrefl _), N.nd⟩⟩) hs ht (by simpa using hz)
theorem pick_take (vs : List Value) (k : Nat) : kms_pick vs none (some (k : Int)) = vs.take k := by
  unfold kms_pick kms_lo kms_hi
  dsimp only
  rw [if_neg (by lia), List.drop_zero, Nat.sub_zero, Int.toNat_natCast]
  rcases Nat.le_total k vs.length with h | h
  · rw [Nat.min_eq_left h]
  · rw [Nat.min_eq_right h, List.take_of_length_le (Nat.le_refl _), List.take_of_length_le h]
theorem pick_take4 (vs : List Value) : kms_pick vs none (some 4) = vs.take 4 := pick_take vs 4
theorem pick_take3 (vs : List Value) : kms_pick vs none (some 3) = vs.take 3 := pick_take vs 3
theorem pick_drop1 (vs : List Value) : kms_pick vs (some 1) none = vs.drop 1 := by
  unfold kms_pick kms_lo kms_hi
  dsimp only
  rw [if_neg (by omega)]
  cases vs with
  | nil => rfl
  | cons a r => simp
theorem joinM {D : Addr} {vs : List Value} {ep : Nat} {ys : List Str} {x : Str} {t : Tok} (ho : hh.get? D = some (listOf vs.toArray ep)) (hi : StrsAre vs ys) (hok : (ys.map (·.length)).sum + ys.length * x.length ≤ 16777216)
    (h : ∀ t' k, Q (.str (Txt.join x ys) t') ⟨hh, gs, dr, k, os⟩) : wpAny (model prog w) A (call (.builtin "str.join") [.str x t, .ref D]) Q E ⟨hh, gs, dr, tk₀, os⟩ :=
  join_list ⟨_, ho, rfl, _, rfl⟩ hi hok h
theorem appendLM {D : Addr} {vs : List Value} {n : Nat} {x : Value} {news' : List (Addr × Obj)} (F : Fr h₀ L hh m) (N : Led h₀ L hh news) (e : SetAt D (listOf vs.toArray n) (listOf (vs ++ [x]).toArray (n + 1)) news news') (hsz : vs.length ≤ 1000000)
    (h : ∀ h', Fr h₀ L h' m → Led h₀ L h' news' → Q .none ⟨h', gs, dr, tk₀, os⟩) : wpAny (model prog w) A (call (.builtin "list.append") [.ref D, x]) Q E ⟨hh, gs, dr, tk₀, os⟩ := by
  have hp : vs.toArray.push x = (vs ++ [x]).toArray := by simp
  refine appendM (its := vs.toArray) F N (hp ▸ e) h (by have : sizeLine = 16777216 := rfl; simp only [List.size_toArray]; lia)
theorem ldVn {env : Env} {l : List (Str × Value)} {x : Str} {v : Value} (F : Fr h₀ L hh m) (V : Knows m l) (hC : env.locals = L) (hv : MGet x v l) (h : Q v ⟨hh, gs, dr, tk₀, os⟩)
    (hk : env.scope.kind = .function) (hl : env.kindOf x = some .local) : wpAny (model prog w) A (loadName env x) Q E ⟨hh, gs, dr, tk₀, os⟩ :=
  wpAny_loadName_local hk hl (hC ▸ F.ns) (V.has _ hv.mem) h
end
noncomputable def sgS (f : Int) : Str := ⟨#[(sgn f).toNat]⟩
theorem b64_len : (Str.ofString "ABCDEFGHIJKLMNOPQRSTUVWXYZabcdefghijklmnopqrstuvwxyz0123456789+/").length = 64 := by decide +kernel
theorem b64_at : ∀ f, Fig f → (Str.ofString "ABCDEFGHIJKLMNOPQRSTUVWXYZabcdefghijklmnopqrstuvwxyz0123456789+/").cps[f.toNat]? = some (sgn f).toNat := all64 (by decide +kernel)
section
variable {prog : Program} {w : World} {A : Around} {hh : Heap} {E : Value → Shared → Prop} {gs : Array GenState} {dr : Drawn} {os : OsState} {tk₀ : Nat} {Q : Value → Shared → Prop}
theorem signM {value slice : PySem.Expr} {t u : Tok} {f : Int} (hf : Fig f) (h : ∀ t' k, Q (.str (sgS f) t') ⟨hh, gs, dr, k, os⟩)
    (hs : ∀ t, subscripted slice false (.str (Str.ofString "ABCDEFGHIJKLMNOPQRSTUVWXYZabcdefghijklmnopqrstuvwxyz0123456789+/") t) (.int f u) = operate [.str (Str.ofString "ABCDEFGHIJKLMNOPQRSTUVWXYZabcdefghijklmnopqrstuvwxyz0123456789+/") t, .int f u] (getItem (.str (Str.ofString "ABCDEFGHIJKLMNOPQRSTUVWXYZabcdefghijklmnopqrstuvwxyz0123456789+/") t) (.int f u))) :
    wpAny (model prog w) A (subscriptTail value slice (.str (Str.ofString "ABCDEFGHIJKLMNOPQRSTUVWXYZabcdefghijklmnopqrstuvwxyz0123456789+/") t) (.int f u)) Q E ⟨hh, gs, dr, tk₀, os⟩ :=
  strItemM (sgn f).toNat hf.1 (by rw [b64_len]; exact hf.2) (by rw [b64_len]; decide) (b64_at f hf) h (hs t)
end
noncomputable def nmStr (fs : List Int) : Str := ⟨(fs.map fun f => (sgn f).toNat).toArray⟩
theorem join_nm (fs : List Int) : Txt.join (Str.ofString "") (fs.map sgS) = nmStr fs := by
  show Builtin.Str.glued _ _ = _
  have key : ∀ (l : List Int) (a : Array Nat), (l.map sgS).foldl (fun acc p => acc ++ (Str.ofString "").cps ++ p.cps) a = a ++ (l.map fun f => (sgn f).toNat).toArray := by
    intro l
    induction l with
    | nil => intro a; simp
    | cons f r ih =>
      intro a
      rw [List.map_cons, List.foldl_cons, ih]
      apply Array.toList_inj.mp
      have e : (Str.ofString "").cps = #[] := rfl
      rw [e]
      simp [sgS]
  cases fs with
  | nil => rfl
  | cons f r =>
    unfold Builtin.Str.glued nmStr
    simp only [List.map_cons, List.drop_succ_cons, List.drop_zero, List.headD_cons]
    rw [key]
    congr 1
    apply Array.toList_inj.mp
    simp [sgS]
theorem strs_snoc {vs : List Value} {ys : List Str} (h : StrsAre vs ys) (y : Str) (t : Tok) : StrsAre (vs ++ [.str y t]) (ys ++ [y]) := by
  induction h with
  | nil => exact .cons y t .nil
  | cons k u _ ih => exact .cons k u ih
theorem strs_len {vs : List Value} {ys : List Str} (h : StrsAre vs ys) : vs.length = ys.length := by
  induction h with
  | nil => rfl
  | cons k u _ ih => simp [ih]
theorem strs_get {vs : List Value} {ys : List Str} (h : StrsAre vs ys) : ∀ (i : Nat) (v : Value), vs[i]? = some v → ∃ (y : Str) (t : Tok), ys[i]? = some y ∧ v = Value.str y t := by
  induction h with
  | nil => intro i v e; simp at e
  | cons k t _ ih =>
    intro i v e
    cases i with
    | zero => simp at e; exact ⟨_, _, rfl, e.symm⟩
    | succ i =>
      obtain ⟨k', t', e1, e2⟩ := ih i v (by simpa using e)
      exact ⟨k', t', by simpa using e1, e2⟩
theorem take_step {α : Type} {l : List α} {i : Nat} {x : α} (h : l[i]? = some x) : l.take (i + 1) = l.take i ++ [x] := by
  rw [List.take_add_one, h]; rfl
theorem two_item {i j f : Int} {ti tj : Tok} (h : f = 62 ∨ f = 63) : [Value.int i ti, Value.int j tj].toArray[(f - 62).toNat]? = some (.int (if f = 62 then i else j) (if f = 62 then ti else tj)) := by
  rcases h with rfl | rfl <;> simp
end
section
open PySem PySem.W PySem.Calls PyProof.Rows
theorem SetAt.upd {D : Addr} {o o' : Obj} {l l' : List (Addr × Obj)} (h : SetAt D o o' l l') : (l.map (·.1)).Nodup → Upd D o o' l l' := by
  induction h with
  | head =>
    intro nd
    rw [List.map_cons, List.nodup_cons] at nd
    refine .head fun p hp e => ?_
    have := List.mem_map_of_mem (f := fun q : Addr × Obj => q.1) hp
    rw [e] at this
    exact nd.1 this
  | tail r ih =>
    intro nd
    rw [List.map_cons, List.nodup_cons] at nd
    refine .tail (fun e => nd.1 ?_) (ih nd.2)
    have := List.mem_map_of_mem (f := fun q : Addr × Obj => q.1) r.mem
    rwa [← e] at this
theorem SetAt.keys {D : Addr} {o o' : Obj} {l l' : List (Addr × Obj)} (h : SetAt D o o' l l') : l'.map (·.1) = l.map (·.1) := by
  induction h with
  | head => rfl
  | tail _ ih => rw [List.map_cons, List.map_cons, ih]
section
variable {prog : Program} {w : World} {A : Around} {K : Frag} {h₀ hh : Heap} {L x dx C p : Addr} {m : Str → Option Value} {news news' : List (Addr × Obj)} {E : Value → Shared → Prop} {gs : Array GenState} {dr : Drawn} {os : OsState} {tk₀ : Nat} {name : Str} {v : Value} {i : Nat} {sl : Array (Option Value)} {od : Obj}
theorem Led.inst (N : Led h₀ L hh news) (h1 : (x, (⟨.ref C, some dx, .plain, sl⟩ : Obj)) ∈ news) (h2 : (dx, od) ∈ news) : InstAt hh x ⟨.ref C, some dx, .plain, sl⟩ C (some od) := InstAt.of_news N.N h1 h2
theorem getSlotM {expr : Bool} {Q : Value → Shared → Prop} (F : Fr h₀ L hh m) (X₀ : K.In h₀) (I : InstAt hh x ⟨.ref C, some dx, .plain, sl⟩ C (some od)) (hg : plainGet K C name = true) (hc : isClsIn K C = true)
    (ha : findIn K (.ref C) name = some (some (.ref p))) (hn : specialIn K (.ref p) "__get__" = some (some (.builtin "member_descriptor.__get__"))) (ht : takesIn K (.ref p) = some true) (hp : slotIn K p C = some i)
    (hv : (sl[i]?).join = some v) (hh' : handedIn v = true) (h : ∀ tk, Q v ⟨hh, gs, dr, tk, os⟩) : wpAny (model prog w) A (getAttr (.ref x) name expr) Q E ⟨hh, gs, dr, tk₀, os⟩ :=
  get_slot F X₀ I hg hc ha hn ht hp hv hh' (h _)
theorem setSlotM {Q : Unit → Shared → Prop} (F : Fr h₀ L hh m) (X₀ : K.In h₀) (N : Led h₀ L hh news) (I : InstAt hh x ⟨.ref C, some dx, .plain, sl⟩ C (some od))
    (hs : findIn K (.ref C) "__setattr__" = some (some (.builtin "object.__setattr__"))) (hp : plainOver K C = true) (ht : takerIn K C name = some (some (.ref p))) (hT : typeIn K (.ref p) = some (.type "member_descriptor")) (hi : slotIn K p C = some i) (hz : i < 1000)
    {sl' : Array (Option Value)} (e : (sl ++ Array.replicate (i + 1 - sl.size) none).setIfInBounds i (some v) = sl') (U : SetAt x ⟨.ref C, some dx, .plain, sl⟩ ⟨.ref C, some dx, .plain, sl'⟩ news news')
    (h : ∀ h' tk, Fr h₀ L h' m → Led h₀ L h' news' → Q () ⟨h', gs, dr, tk, os⟩) : wpAny (model prog w) A (setAttr (.ref x) name v) Q E ⟨hh, gs, dr, tk₀, os⟩ :=
  set_slot (ox' := ⟨.ref C, some dx, .plain, sl'⟩) F X₀ N.N I hs hp ht hT hi hz (by rw [← e]) rfl (U.upd N.nd) fun h' F' N' => h h' _ F' ⟨N', U.keys ▸ N.nd⟩
theorem getOwnM {expr : Bool} {Q : Value → Shared → Prop} {attr : Option Value} {es : List DictEntry} {n : Nat} (F : Fr h₀ L hh m) (X₀ : K.In h₀) (I : InstAt hh x ⟨.ref C, some dx, .plain, sl⟩ C (some (dictOf es n))) (hg : plainGet K C name = true) (hd : hasDictIn K C = true)
    (ha : findIn K (.ref C) name = some attr) (hn : noGet K attr = true) (hl : getL name es = some (some v)) (hv : handedIn v = true) (h : ∀ tk, Q v ⟨hh, gs, dr, tk, os⟩) :
    wpAny (model prog w) A (getAttr (.ref x) name expr) Q E ⟨hh, gs, dr, tk₀, os⟩ := get_own F X₀ I hg hd ha hn hl hv (h _)
theorem methM {pl : Sem Bool} {Q : Value × List Value → Shared → Prop} {f : Addr} {es : List DictEntry} {n : Nat} (F : Fr h₀ L hh m) (X₀ : K.In h₀) (I : InstAt hh x ⟨.ref C, some dx, .plain, sl⟩ C (some (dictOf es n))) (hg : plainGet K C name = true)
    (hf : findIn K (.ref C) name = some (some (.ref f))) (ht : isFn K (.ref f) = true) (hl : getL name es = some none) (h : Q (.ref f, [.ref x]) ⟨hh, gs, dr, tk₀, os⟩) : wpAny (model prog w) A (getMethod (.ref x) name pl) Q E ⟨hh, gs, dr, tk₀, os⟩ :=
  method_inst F X₀ I hg hf ht hl h
theorem setOwnM {Q : Unit → Shared → Prop} {es es' : List DictEntry} {n n' : Nat} (F : Fr h₀ L hh m) (X₀ : K.In h₀) (N : Led h₀ L hh news) (I : InstAt hh x ⟨.ref C, some dx, .plain, sl⟩ C (some (dictOf es n)))
    (hs : findIn K (.ref C) "__setattr__" = some (some (.builtin "object.__setattr__"))) (hp : plainOver K C = true) (ht : takerIn K C name = some none) (hd : hasDictIn K C = true) (hl : (getL name es).isSome = true)
    (e : (putL name (PyData.keyHash w.params name) (.str name (tk₀ + 1)) v es, putN name es n) = (es', n')) (U : SetAt dx (dictOf es n) (dictOf es' n') news news') (hz : es'.length ≤ 1000)
    (h : ∀ h' tk, Fr h₀ L h' m → Led h₀ L h' news' → Q () ⟨h', gs, dr, tk, os⟩) : wpAny (model prog w) A (setAttr (.ref x) name v) Q E ⟨hh, gs, dr, tk₀, os⟩ :=
  set_dict F X₀ N.N I rfl hs hp ht hd hl e (U.upd N.nd) hz fun h' F' N' => h h' _ F' ⟨N', U.keys ▸ N.nd⟩
theorem makeM {pos : List Value} {kw : List (Str × Value)} {fI : Addr} {Q : Value → Shared → Prop} (F : Fr h₀ L hh m) (X₀ : K.In h₀) (N : Led h₀ L hh news) (hm : makesIn K C = true) (hi : findIn K (.ref C) "__init__" = some (some (.ref fI))) (hf : isFn K (.ref fI) = true)
    (h : ∀ x dx h', Fr h₀ L h' m → Led h₀ L h' ((x, instObj C dx) :: (dx, dictOf [] 0) :: news) →
      codeAny (model prog w) (A.under (.builtin "type.__call__" ⟨.ref C :: pos, kw⟩)) (.call (.ref fI) ⟨.ref x :: pos, kw⟩) (InitBack x fun r s' => match r with | .ok (.ret v) => Q v s' | .ok _ => False | .error e => E e s') ⟨h', gs, dr, tk₀, os⟩) :
    wpAny (model prog w) A (call (.ref C) pos kw) Q E ⟨hh, gs, dr, tk₀, os⟩ :=
  call_cls F X₀ N.N hm hi hf fun x dx h' F' N' l1 l2 => h x dx h' F' ⟨N', List.nodup_cons.mpr ⟨fun hm => by
    rcases List.mem_cons.mp hm with e | hm
    · exact absurd l2 (by rw [show x = dx from e]; exact Nat.lt_irrefl _)
    · obtain ⟨q, hq, e⟩ := List.mem_map.mp hm
      have := l1 q hq
      rw [show q.1 = x from e] at this
      exact absurd (Nat.lt_trans this l2) (Nat.lt_irrefl _), List.nodup_cons.mpr ⟨fun hm => by
    obtain ⟨q, hq, e⟩ := List.mem_map.mp hm
    have := l1 q hq
    rw [show q.1 = dx from e] at this
    exact absurd this (Nat.lt_irrefl _), N.nd⟩⟩⟩
end
noncomputable def InitFn (w : World) (loose : List Str) (mean : ExcName → Option Value) (mg mb : Str → Option Value) (k : Nat) (fI C : Addr) (rest : List Value) (kw : List (Str × Value)) (ok : Addr → Addr → List (Addr × Obj) → Prop) : Prop :=
  ∀ (A : Around) (g hh : Heap) (x dx : Addr) (gs : Array GenState) (dr : Drawn) (tk : Nat) (os : OsState) (R : Result → Shared → Prop), A.handled = none → A.depth + k < recursionLimit →
    (hd.heap_39 w.params).In g → Top hd.view_39 loose mean mg mb g → g.objs.size ≤ hh.objs.size → Sep g hh [(x, instObj C dx), (dx, dictOf [] 0)] →
    (∀ h' tk' foot', ok x dx foot' → Sep g h' foot' → R (.ok (.ret .none)) ⟨h', gs, dr, tk', os⟩) →
    codeAny (model PySem.Challenge.rw_oy0258_01.row.prog w) A (.call (.ref fI) ⟨.ref x :: rest, kw⟩) R ⟨hh, gs, dr, tk, os⟩
theorem InitFn.use {w : World} {loose : List Str} {mean : ExcName → Option Value} {mg mb : Str → Option Value} {k : Nat} {fI C : Addr} {rest : List Value} {kw : List (Str × Value)} {ok : Addr → Addr → List (Addr × Obj) → Prop}
    (I : InitFn w loose mean mg mb k fI C rest kw ok) {A : Around} {h₀ hh : Heap} {L : Addr} {m : Str → Option Value} {news : List (Addr × Obj)} {gs : Array GenState} {dr : Drawn} {tk₀ : Nat} {os : OsState} {Q E : Value → Shared → Prop}
    (F : Fr h₀ L hh m) (N : Led h₀ L hh news) (X : (hd.heap_39 w.params).In h₀) (T : Top hd.view_39 loose mean mg mb h₀) (hA : A.handled = none) (hr : A.depth + (k + 1) < recursionLimit)
    (hm : makesIn (hd.heap_39 w.params) C = true) (hi : findIn (hd.heap_39 w.params) (.ref C) "__init__" = some (some (.ref fI))) (hf : isFn (hd.heap_39 w.params) (.ref fI) = true)
    (h : ∀ x dx h' tk' foot', ok x dx foot' → Fr h₀ L h' m → Led h₀ L h' (foot' ++ news) → Q (.ref x) ⟨h', gs, dr, tk', os⟩) :
    wpAny (model PySem.Challenge.rw_oy0258_01.row.prog w) A (call (.ref C) rest kw) Q E ⟨hh, gs, dr, tk₀, os⟩ := by
  refine makeM F X N hm hi hf fun x dx h' F' N' => ?_
  refine nameG fun GG hGG => ?_
  obtain ⟨g, Fg, Ng, S, hsz, _⟩ := openG (foot := [(x, instObj C dx), (dx, dictOf [] 0)]) F' N'
  refine hGG ?_; clear hGG GG
  refine I _ g h' x dx gs dr _ os _ hA (by rw [depth_under_kw]; lia) (X.keeps Fg.keep) (T.keeps Fg.keep) (Nat.le_of_eq hsz) S fun h'' tk'' foot' o S' => ?_
  exact ⟨rfl, h x dx h'' tk'' foot' o (closeG Fg Ng S').1 (closeG Fg Ng S').2⟩
theorem newDictM {prog : Program} {w : World} {A : Around} {h₀ hh : Heap} {L : Addr} {m : Str → Option Value} {news : List (Addr × Obj)} {E : Value → Shared → Prop} {gs : Array GenState} {dr : Drawn} {os : OsState} {tk₀ : Nat} {env : Env} {pos : Pos} {Q : Value → Shared → Prop} (F : Fr h₀ L hh m) (N : Led h₀ L hh news) (hbig : h₀.NoLimit)
    (k : ∀ d h' o, Fr h₀ L h' m → Led h₀ L h' ((d, o) :: news) → (d == sysModules) = false → o.IsDictOf (strKind prog w) [] → Q (.ref d) ⟨h', gs, dr, tk₀, os⟩) : wpAny (model prog w) A (eval (.Dict [] [] pos) env) Q E ⟨hh, gs, dr, tk₀, os⟩ :=
  newDict_K F N.N hbig fun d h' o F' N' l1 lo hs _ _ _ => k d h' o F' ⟨N', List.nodup_cons.mpr ⟨fun hm => by
    obtain ⟨q, hq, e⟩ := List.mem_map.mp hm
    have := l1 q hq
    rw [show q.1 = d from e] at this
    exact absurd this (Nat.lt_irrefl _), N.nd⟩⟩ lo hs
theorem sepOf {g h : Heap} {L : Addr} {m : Str → Option Value} {R foot : List (Addr × Obj)} (F : Fr g L h m) (N : Led g L h R) (hs : foot.Sublist R) : Sep g h foot := (Led.sep F N).sub hs
end
section
open PySem PySem.W PySem.Calls PyProof.Rows
section
variable {prog : Program} {w : World} {K : Type} [DecidableEq K] {knd : KeyKind prog w K} {A : Around} {h₀ hh : Heap} {L d : Addr} {m : Str → Option Value} {news : List (Addr × Obj)} {E : Value → Shared → Prop} {gs : Array GenState} {dr : Drawn} {os : OsState} {tk₀ : Nat} {o : Obj} {kvs : List (K × Value)} {k : K} {key v : Value}
theorem dGetMeth {pl : Sem Bool} {Q : Value × List Value → Shared → Prop} (N : Led h₀ L hh news) (hd : o.IsDictOf knd kvs) (hp : (d, o) ∈ news) (h : Q (.builtin "dict.get", [.ref d]) ⟨hh, gs, dr, tk₀, os⟩) : wpAny (model prog w) A (getMethod (.ref d) (PySem.Str.ofString "get") pl) Q E ⟨hh, gs, dr, tk₀, os⟩ :=
  kdg_method N.N hp hd h
theorem dGet1 {Q : Value → Shared → Prop} (N : Led h₀ L hh news) (hd : o.IsDictOf knd kvs) (hp : (d, o) ∈ news) (lo : (d == sysModules) = false) (hkey : knd.is k key = true) (x : Option Value) (hl : valueAt kvs k = x) (h : ∀ tk, Q (x.getD .none) ⟨hh, gs, dr, tk, os⟩) :
    wpAny (model prog w) A (call (.builtin "dict.get") [.ref d, key]) Q E ⟨hh, gs, dr, tk₀, os⟩ := kdg_get1 N.N hp hd lo hkey x hl (h _)
theorem dItem {value slice : PySem.Expr} {Q : Value → Shared → Prop} (N : Led h₀ L hh news) (hd : o.IsDictOf knd kvs) (hp : (d, o) ∈ news) (hkey : knd.is k key = true) (hl : valueAt kvs k = some v) (h : ∀ tk, Q v ⟨hh, gs, dr, tk, os⟩)
    (hs : subscripted slice false (.ref d) key = operate [.ref d, key] (getItem (.ref d) key)) (hg : ∀ r, letTemporaryGo value (.ref d) r = pure ()) :
    wpAny (model prog w) A (subscriptTail value slice (.ref d) key) Q E ⟨hh, gs, dr, tk₀, os⟩ := kda_item N.N hp hd hkey hl (h _) hs hg
theorem dIn {Q : Value → Shared → Prop} (N : Led h₀ L hh news) (hd : o.IsDictOf knd kvs) (hp : (d, o) ∈ news) (lo : (d == sysModules) = false) (hkey : knd.is k key = true) (b : Bool) (hb : (valueAt kvs k).isSome = b) (h : ∀ tk, Q (.bool b) ⟨hh, gs, dr, tk, os⟩) :
    wpAny (model prog w) A (compareOp .In key (.ref d)) Q E ⟨hh, gs, dr, tk₀, os⟩ := kda_in N.N hp hd lo hkey b hb (h _)
theorem dSet {g : Obj → List (Addr × Obj)} {Q : Unit → Shared → Prop} (F : Fr h₀ L hh m) (N : Led h₀ L hh news) (hd : o.IsDictOf knd kvs) (U : ∀ o', SetAt d o o' news (g o')) (hkey : knd.is k key = true) (hsz : kvs.length ≤ sizeLine)
    (h : ∀ h' o' tk, Fr h₀ L h' m → Led h₀ L h' (g o') → o'.IsDictOf knd (stored kvs k v) → Q () ⟨h', gs, dr, tk, os⟩) : wpAny (model prog w) A (setItem (.ref d) key v) Q E ⟨hh, gs, dr, tk₀, os⟩ := by
  have hm := N.N (d, o) (U o).mem
  refine wpAny_setItem_pairs (hsz := hsz) hkey (Heap.dictOf_iff.mpr ⟨o, hm.1, hd⟩) fun h' hmm hs => ?_
  obtain ⟨o', ho', hd'⟩ := Heap.dictOf_iff.mp hmm
  have := N.set F (U o') hs ho'
  exact h h' o' _ this.1 this.2 hd'
end
theorem Sep.perm {g h : Heap} {R R' : List (Addr × Obj)} (S : Sep g h R) (p : R.Perm R') : Sep g h R' := ⟨S.keep, fun q hq => S.own q (p.mem_iff.mpr hq), (p.map _).nodup_iff.mp S.nd⟩
theorem Led.perm {h₀ h : Heap} {L : Addr} {R R' : List (Addr × Obj)} (N : Led h₀ L h R) (p : R.Perm R') : Led h₀ L h R' := ⟨fun q hq => N.N q (p.mem_iff.mpr hq), (p.map _).nodup_iff.mp N.nd⟩
theorem assignNameM {M : Model} {A : Around} {E : Value → Shared → Prop} {s : Shared} {env : Env} {x : Str} {pos : Pos} {v : Value} {Q : Unit → Shared → Prop} (h : wpAny M A (storeName env x v) Q E s) : wpAny M A (assign (.Name x pos) env v) Q E s := wpAny_assign_Name h
theorem assignSubM {M : Model} {A : Around} {E : Value → Shared → Prop} {s : Shared} {env : Env} {o i : PySem.Expr} {pos : Pos} {v : Value} {Q : Unit → Shared → Prop}
    (h : wpAny M A (eval o env) (fun ov s₁ => wpAny M A (eval i env) (fun iv s₂ => wpAny M A (setItem ov iv v) (fun _ s₃ => Q () s₃) E s₂) E s₁) E s) : wpAny M A (assign (.Subscript o i pos) env v) Q E s := by
  rw [assign_Subscript]
  refine wpAny_bind (wpAny_holding (wpAny_mono h (fun ov s₁ h₁ => ?_) fun _ _ x => x))
  refine wpAny_bind (wpAny_holding (wpAny_mono h₁ (fun iv s₂ h₂ => ?_) fun _ _ x => x))
  refine wpAny_bind (wpAny_standAt ?_)
  refine wpAny_bind (wpAny_holding (wpAny_mono h₂ (fun _ s₃ h₃ => ?_) fun _ _ x => x))
  exact wpAny_release h₃
end
section
open PySem PySem.W PySem.Calls PyProof.Rows
noncomputable abbrev tupOf (vs : List Value) : Obj := { cls := .type "tuple", data := .seq vs.toArray }
section
variable {prog : Program} {w : World} {A : Around} {gs : Array GenState} {dr : Drawn} {os : OsState}
variable {g hh : Heap} {tk₀ : Nat} {K : Frag} {p : Program} {loose : List Str} {mean : ExcName → Option Value} {mg mb : Str → Option Value}
  {R : Result → Shared → Prop} {name qual : Str} {params : Arguments} {body : List Stmt} {scope : Scope} {dV kV doc pm cdv ct oc : Value} {an od : Option Addr} {osl : Array (Option Value)} {f : Addr} {args : Args} {binds : Value → List (Str × Value)} {news : List (Addr × Obj)} {rest : List Value}
theorem enterV (X : K.In g) (T : Top p loose mean mg mb g) (hsz : g.objs.size ≤ hh.objs.size) (S : Sep g hh news)
    (ho : K.lookup f = some ⟨oc, od, .func (fnOf name qual params body scope dV kV doc pm an cdv ct), osl⟩) (hcd : codeIn K cdv qual = true) (hroom : A.depth < recursionLimit)
    (hbind : bindArgs (fnOf name qual params body scope dV kV doc pm an cdv ct) args = (newTuple rest >>= fun t => pure (binds t))) (hrest : rest.length ≤ 1000) (hloc : ∀ t, ∀ y ∈ binds t, scope.names.lookup y.1 = some .local) (hbn : ∀ t, ((binds t).map (·.1)).Nodup)
    (h : ∀ D L' m' h₁ tk, Fr g L' h₁ m' → Knows m' (binds (.ref D)) → Led g L' h₁ ((D, tupOf rest) :: news) →
      wpAny (model prog w) (A.deeper (envOf qual scope L' f cdv)) (execs body (envOf qual scope L' f cdv))
        (fun fl s' => R (.ok (.ret (match fl with | .ret v => v | _ => .none))) s') (fun _ _ => False) ⟨h₁, gs, dr, tk, os⟩)
    (hco : scope.isCoroutine = false) (hgen : scope.isGenerator = false) (hk : scope.kind = .function)
    (hcell : ∀ x ∈ scope.names, x.2 ≠ .cell) : codeAny (model prog w) A (.call (.ref f) args) R ⟨hh, gs, dr, tk₀, os⟩ := by
  have X' : K.In hh := X.keeps S.keep
  refine codeAny_call_function (fd := fnOf name qual params body scope dV kV doc pm an cdv ct) (body := body) hroom (X' _ _ ho) rfl hco hgen rfl (codeRec_of X' hcd) ?_
  rw [hbind]
  refine wpAny_bind (wpAny_newObj_type (wpAny_pure ?_) (by simp only [PySem.sizeOk, PySem.sizeLine_eq, List.size_toArray]; lia))
  have k1 : ∀ b o, hh.get? b = some o → (hh.push (tupOf rest)).get? b = some o := push_keep _ _
  have S' : Sep g (hh.push (tupOf rest)) ((hh.objs.size, tupOf rest) :: news) := by
    refine ⟨fun b o e => k1 b o (S.keep b o e), fun q hq => ?_, ?_⟩
    · rcases List.mem_cons.mp hq with rfl | hq
      · refine ⟨Heap.get?_push_size _ rfl, ?_⟩
        cases e : g.get? hh.objs.size with
        | none => rfl
        | some o => exact absurd (Heap.lt_size e) (Nat.not_lt.mpr hsz)
      · exact ⟨k1 _ _ (S.own q hq).1, (S.own q hq).2⟩
    · rw [List.map_cons, List.nodup_cons]
      refine ⟨fun hm => ?_, S.nd⟩
      obtain ⟨q, hq, e⟩ := List.mem_map.mp hm
      have := Heap.lt_size (S.own q hq).1
      rw [e] at this
      exact Nat.lt_irrefl _ this
  refine wpAny_newFunctionEnv hcell (hloc _) (fun h₁ hns hsb => ⟨(T.nolimit.keeps S'.keep).fresh _ hsb, codeAny_func ?_⟩) hk
  have hk₁ : ∀ b o, (hh.push (tupOf rest)).get? b = some o → h₁.get? b = some o := fun b o e => hsb.extBut b o (Nat.ne_of_lt (Heap.lt_size e)) (Heap.get?_push_of_some _ e)
  refine wpAny_noRaise (h hh.objs.size (hh.push (tupOf rest)).objs.size _ h₁ _ ⟨hns, fun b o e => hk₁ b o (S'.keep b o e), ?_⟩ ?_ ⟨(fun q hq => ⟨hk₁ _ _ (S'.own q hq).1, Nat.ne_of_lt (Heap.lt_size (S'.own q hq).1), (S'.own q hq).2⟩), S'.nd⟩)
  · rw [Heap.size_push]; exact Nat.le_succ_of_le hsz
  · have hr : (((binds (.ref hh.objs.size)).reverse).map (·.1)).Nodup := by rw [List.map_reverse]; exact (List.reverse_perm _).nodup_iff.mpr (hbn _)
    have := Knows.mp hr
    exact ⟨fun q hq => this.has q (List.mem_reverse.mpr hq), hbn _⟩
end
section
variable {prog : Program} {w : World} {A : Around} {h₀ hh : Heap} {L : Addr} {m : Str → Option Value} {news : List (Addr × Obj)} {E : Value → Shared → Prop} {gs : Array GenState} {dr : Drawn} {os : OsState} {tk₀ : Nat}
theorem iaddM {a b : Int} {t u : Tok} {Q : Value → Shared → Prop} (h : ∀ t' tk', Q (.int (a + b) t') ⟨hh, gs, dr, tk', os⟩) : wpAny (model prog w) A (inplaceOp .Add (.int a t) (.int b u)) Q E ⟨hh, gs, dr, tk₀, os⟩ := PyProof.Rows.iadd_int (h _ _)
theorem isubM {a b : Int} {t u : Tok} {Q : Value → Shared → Prop} (h : ∀ t' tk', Q (.int (a - b) t') ⟨hh, gs, dr, tk', os⟩) : wpAny (model prog w) A (inplaceOp .Sub (.int a t) (.int b u)) Q E ⟨hh, gs, dr, tk₀, os⟩ := PyProof.Rows.isub_int (h _ _)
end
end
section
theorem pow64 (f0 f1 f2 f3 : Int) (t0 t1 t2 t3 : Tok) (h0 : 0 ≤ f0 ∧ f0 < 64) (h1 : 0 ≤ f1 ∧ f1 < 64) (h2 : 0 ≤ f2 ∧ f2 < 64) (h3 : 0 ≤ f3 ∧ f3 < 64) {i : Nat} (h : i < 4) :
    ∃ (c f : Int) (t : Tok), 64 ^ (3 - (i : Int)).toNat = c ∧ f.natAbs < 64 ∧ [Value.int f0 t0, .int f1 t1, .int f2 t2, .int f3 t3].toArray[(i : Int).toNat]? = some (.int f t) ∧ [f0 * 262144, f1 * 4096, f2 * 64, f3 * 1][i]? = some (f * c) := by
  have hj : i = 0 ∨ i = 1 ∨ i = 2 ∨ i = 3 := by lia
  rcases hj with rfl | rfl | rfl | rfl
  · exact ⟨262144, f0, t0, rfl, by lia, rfl, rfl⟩
  · exact ⟨4096, f1, t1, rfl, by lia, rfl, rfl⟩
  · exact ⟨64, f2, t2, rfl, by lia, rfl, rfl⟩
  · exact ⟨1, f3, t3, rfl, by lia, rfl, rfl⟩
section
variable (w : World) (loose : List Str) (mean : ExcName → Option Value) (mg mb : Str → Option Value)
theorem c_oct (ax : Addr) (vs : List Value) (ep : Nat) (fs : List Int) (hf : Four fs) (hi : IntsAre vs fs) :
   PureFn w loose mean mg mb 2 261 [.ref ax] [] (fun h => h.get? ax = some (listOf vs.toArray ep)) (fun v _ => ∃ c u, v = .bytes c u ∧ KBw.bInts c = packL fs) := by
  unfold PureFn
  k_fill
  intro dp un gd outer base s Q E hB hX hT hdp hun hpre hret
  refine wpAny_call ?_
  refine nameG fun GG hGG => ?_
  obtain ⟨hh, gs, dr, tk, os⟩ := s
  refine hGG ?_; clear hGG GG
  refine' enterNC (g := hh) (news := []) (l := []) (binds := [(Str.ofString "figures", .ref ax)]) ?kX ?kT ?ksz ?kS ?k6 ?k7 ?k8 ?k9 ?kk ?knd ?kl ?kln ?_ ?co ?gen ?kd
  case kX => assumption
  case kT => assumption
  case ksz => first | exact Nat.le_refl _ | assumption
  case kS => first | assumption | exact Sep.nil fun _ _ e => e
  case k6 => k_is
  case k7 => k_is
  case k8 => k_room
  case k9 => first | exact BindsTo.of_eq (by kernel_rfl!) | exact binds_K (by k_in) rfl (by k_is) rfl rfl rfl | fail "enter: no rule for these arguments"
  case kk => exact rfl
  case knd => decide +kernel
  case kl => exact fun _ _ hq => nomatch hq
  case kln => exact List.nodup_nil
  case co => exact rfl
  case gen => exact rfl
  case kd => exact rfl
  intro L' m' h₁ tk' cells F' V' N' Y'
  k_cells Y'
  simp only [List.cons_append, List.nil_append] at N'
  show wpAny _ _ (execs (_ :: _) _) _ _ _
  refine seqG ?_
  intro R' hR'
  refine wpAny_Assign_Name ?_
  refine Call_ ?_
  k_dflt (refine' nmB ‹_› ‹_› ‹_› (by k_is) (by boot_by_name) (by decide) ?_ rfl rfl rfl (by kernel_rfl) (by kernel_rfl))
  refine callWith_method1 ?_
  refine args_cons ?_
  refine' evalLC_L rfl (by decide) rfl (by decide) rfl ?_ (by (intro _; rfl))
  refine Call_ ?_
  k_dflt (refine' nmB ‹_› ‹_› ‹_› (by k_is) (by boot_by_name) (by decide) ?_ rfl rfl rfl (by kernel_rfl) (by kernel_rfl))
  refine PyProof.Rows.callWith_type1 ?_
  refine args_cons ?_
  refine constIntM ?_
  refine args_nil ?_
  try dsimp only [List.cons_append, List.nil_append]
  rename Fr _ _ _ _ => oldF
  rename Led _ _ _ _ => oldN
  refine rangeM oldF oldN ?_
  intro r' h' tk' t1' t2' F' N'
  clear oldF oldN
  rename Fr _ _ _ _ => oldF; rename Led _ _ _ _ => oldN
  refine rangeSrc 4 (by rfl) (by rfl) oldF oldN (by k_mem) (by decide) ?_
  clear oldF oldN; intro I' h' F' N' S'
  refine nameG fun GG hGG => ?_
  obtain ⟨f0, f1, f2, f3, rfl, hf0, hf1, hf2, hf3⟩ := hf.cases
  refine hGG ?_; clear hGG GG
  unfold Fig at *
  refine LCAtL.mk (fun i ys made => made = [] ∧ IntsAre ys ([f0 * 262144, f1 * 4096, f2 * 64, f3 * 1].take i)) S' F' N' ⟨rfl, IntsAre.nil⟩ ?_ ?_
  · intro i v C ys made g' h tk hi4 hP hJ Fo Fc Nc
    clear F' N' S' V'
    refine nameG fun GG hGG => ?_
    obtain ⟨t, rfl⟩ := hP
    obtain ⟨rfl, hys⟩ := hJ
    refine hGG ?_; clear hGG GG
    have Vc : Knows _ _ := Knows.mp (l := [(Str.ofString "k", Value.int (i : Int) t)]) (by simp)
    simp only [List.nil_append] at Nc
    have hax : h.get? ax = some (listOf vs.toArray ep) := Fc.keep _ _ (Fo.keep _ _ (by assumption))
    refine nameG fun GG hGG => ?_
    obtain ⟨t0, t1, t2, t3, rfl⟩ := ints4 hi
    obtain ⟨c, f, tf, hcj, hfb, hfx, hcf⟩ := pow64 f0 f1 f2 f3 t0 t1 t2 t3 hf0 hf1 hf2 hf3 (show i < 4 from hi4)
    refine hGG ?_; clear hGG GG
    with_reducible refine testsOf.nil ?_
    rw [if_pos rfl]
    with_reducible refine wpAny_BinOp ?_
    refine Subscript_ ?_
    refine' nmCq ‹_› rfl (by k_mem) ‹_› ?_ (by kernel_rfl)
    refine' nmVq ‹_› ‹_› rfl (by walk_at "g") ?_ (by kernel_rfl)
    refine' itemM (by walk_at "o") (by walk_at "om") (by walk_at "om") (by first | assumption | (simp only [Int.toNat_natCast, Int.reduceToNat, List.getElem?_toArray, List.getElem?_cons_zero, List.getElem?_cons_succ]; rfl) | rfl) ?_ (by with_unfolding_all rfl)
    with_reducible refine wpAny_BinOp ?_
    refine constIntM ?_
    with_reducible refine wpAny_BinOp ?_
    refine constIntM ?_
    refine' nmVq ‹_› ‹_› rfl (by walk_at "g") ?_ (by kernel_rfl)
    with_reducible refine subM ?_
    refine powM c (by walk_at "om") (by walk_at "om") (by decide) hcj ?_
    with_reducible refine mulM (by walk_at "om") ?_
    dsimp only
    refine EPost.intro [] (by assumption) (by assumption) (by walk_at "u") ⟨rfl, ?_⟩
    rw [take_step hcf]
    exact ints_snoc hys _ _
  · rintro D h'' tk'' ys made ep'' ⟨rfl, hys⟩ F' N'
    simp only [List.take_succ_cons, List.take_zero] at hys
    refine args_nil ?_
    try dsimp only [List.cons_append, List.nil_append]
    rename Fr _ _ _ _ => oldF
    rename Led _ _ _ _ => oldN
    refine' sumM ?z9hS (by rfl) oldF oldN ?z9ho ?z9hi ?z9hz ?_
    case z9ho => walk_at "o"
    case z9hi => assumption
    case z9hS => (simp only [List.sum_cons, List.sum_nil, Int.add_zero, Int.mul_one]; exact rfl)
    case z9hz => simp
    intro h' tk' t' F' N'
    clear oldF oldN
    with_reducible rename Knows _ _ => oldV
    rename Fr _ _ _ _ => oldF
    rename Led _ _ _ _ => oldN
    refine' stVq oldF oldN oldV (by walk_at "m") ?_ rfl (by kernel_rfl)
    intro m' h' tk' F' N' V'
    clear oldF oldN oldV
    refine hR'.next ?_
    clear hR' R'
    refine oneN ?_
    refine wpAny_Return_some ?_
    refine Call_ ?_
    k_dflt (refine' nmB ‹_› ‹_› ‹_› (by k_is) (by boot_by_name) (by decide) ?_ rfl rfl rfl (by kernel_rfl) (by kernel_rfl))
    refine PyProof.Rows.callWith_type1 ?_
    refine args_cons ?_
    refine List_ ?_
    refine args_cons ?_
    with_reducible refine wpAny_BinOp ?_
    refine' nmVq ‹_› ‹_› rfl (by walk_at "g") ?_ (by kernel_rfl)
    refine constIntM ?_
    with_reducible refine fdivM (by walk_at "om") (by walk_at "om") ?_
    refine args_cons ?_
    with_reducible refine wpAny_BinOp ?_
    with_reducible refine wpAny_BinOp ?_
    refine' nmVq ‹_› ‹_› rfl (by walk_at "g") ?_ (by kernel_rfl)
    refine constIntM ?_
    with_reducible refine fdivM (by walk_at "om") (by walk_at "om") ?_
    refine constIntM ?_
    with_reducible refine modM (by walk_at "om") ?_
    refine args_cons ?_
    with_reducible refine wpAny_BinOp ?_
    refine' nmVq ‹_› ‹_› rfl (by walk_at "g") ?_ (by kernel_rfl)
    refine constIntM ?_
    with_reducible refine modM (by walk_at "om") ?_
    refine args_nil ?_
    try dsimp only [List.cons_append, List.nil_append]
    rename Fr _ _ _ _ => oldF
    rename Led _ _ _ _ => oldN
    refine newList_M oldF oldN ?_
    intro a' h' F' N'
    clear oldF oldN
    refine args_nil ?_
    try dsimp only [List.cons_append, List.nil_append]
    rename Fr _ _ _ _ => oldF
    rename Led _ _ _ _ => oldN
    refine' bytesM oldF oldN rfl (by k_mem) (by (first | (show IntsAre [_, _, _, _] _; exact IntsAre.cons _ _ (IntsAre.cons _ _ (IntsAre.cons _ _ (IntsAre.cons _ _ IntsAre.nil)))) | (show IntsAre [_, _, _] _; exact IntsAre.cons _ _ (IntsAre.cons _ _ (IntsAre.cons _ _ IntsAre.nil))))) (by (intro q hq; simp only [List.mem_cons, List.not_mem_nil, or_false] at hq; (first | (rcases hq with h1 | h1 | h1 | h1 <;> (subst h1; first | exact sgn_in _ | omega)) | (rcases hq with h1 | h1 | h1 <;> (subst h1; omega))))) (by (simp only [List.length_cons, List.length_nil]; decide)) ?_
    intro c' h' t' k' F' N' hc'
    clear oldF oldN
    all_goals (refine hret _ _ _ ⟨_, _, rfl, ?_⟩ (by exact fun b o e => Fr.keep (by assumption) b o e))
    rename KBw.bInts _ = _ => hc
    rw [hc]
    show _ = [_, _, _]
    congr 1; · exact oct1 hf1 hf2 hf3
    congr 1; · exact oct2 hf2 hf3
    congr 1; · exact oct3 hf3
end
end
section
section
variable (w : World) (loose : List Str) (mean : ExcName → Option Value) (mg mb : Str → Option Value)
noncomputable def extK (i j : Int) (fs : List Int) (k : Nat) : List Int :=
  (if fs.getD k 0 > 61 ∧ (k = 0 ∨ fs.getD (k - 1) 0 = 125 - fs.getD k 0) then List.replicate (if fs.getD k 0 = 62 then i else j).toNat (fs.getD k 0) else []) ++ [fs.getD k 0]
noncomputable def gro (i j : Int) (fs : List Int) : Nat → List Int
  | 0 => []
  | k + 1 => gro i j fs k ++ extK i j fs k
theorem extK_len {i j : Int} (hi : 0 ≤ i ∧ i ≤ 4) (hj : 0 ≤ j ∧ j ≤ 4) (fs : List Int) (k : Nat) : (extK i j fs k).length ≤ 5 := by
  unfold extK
  split
  · rw [List.length_append, List.length_replicate, List.length_cons, List.length_nil]
    split <;> omega
  · simp
theorem gro_len {i j : Int} (hi : 0 ≤ i ∧ i ≤ 4) (hj : 0 ≤ j ∧ j ≤ 4) (fs : List Int) : ∀ k, (gro i j fs k).length ≤ 5 * k
  | 0 => Nat.le_refl _
  | k + 1 => by
    have h1 := gro_len hi hj fs k
    have h2 := extK_len hi hj fs k
    show (gro i j fs k ++ extK i j fs k).length ≤ _
    rw [List.length_append]
    omega
theorem itemOf {vs : List Value} {fs : List Int} (h : IntsAre vs fs) {k : Nat} (hk : k < fs.length) : ∃ tf, vs.toArray[((k : Nat) : Int).toNat]? = some (Value.int (fs.getD k 0) tf) := by
  have hv : k < vs.length := by rw [h.length]; exact hk
  refine nameG fun GG hGG => ?_
  obtain ⟨f, t, e1, e2⟩ := ints_get h k vs[k] (List.getElem?_eq_getElem hv)
  refine hGG ?_; clear hGG GG
  refine ⟨t, ?_⟩
  rw [Int.toNat_natCast, List.getElem?_toArray, List.getElem?_eq_getElem hv, e2, List.getD_eq_getElem?_getD, e1]
  rfl
theorem figOf {fs : List Int} (h : ∀ f ∈ fs, Fig f) (k : Nat) : 0 ≤ fs.getD k 0 ∧ fs.getD k 0 < 64 := by
  rw [List.getD_eq_getElem?_getD]
  cases e : fs[k]? with
  | none => exact ⟨by decide, by decide⟩
  | some f => exact h f (List.mem_of_getElem? e)
theorem gro_fig {i j : Int} {fs : List Int} (h : ∀ f ∈ fs, Fig f) : ∀ k, ∀ f ∈ gro i j fs k, Fig f
  | 0, f, hf => nomatch hf
  | k + 1, f, hf => by
    rcases List.mem_append.mp hf with h1 | h1
    · exact gro_fig h k f h1
    · have : f = fs.getD k 0 := by
        unfold extK at h1
        rcases List.mem_append.mp h1 with h2 | h2
        · split at h2
          · exact List.eq_of_mem_replicate h2
          · nomatch h2
        · simpa using h2
      rw [this]; exact figOf h k
theorem c_name (ax : Addr) (vs : List Value) (ep : Nat) (fs : List Int) (hf : Four fs) (hi : IntsAre vs fs) (i j : Int) (ti tj : Tok) (hi0 : 0 ≤ i ∧ i ≤ 4) (hj0 : 0 ≤ j ∧ j ≤ 4) :
   PureFn w loose mean mg mb 2 278 [.ref ax, .int i ti, .int j tj] [] (fun h => h.get? ax = some (listOf vs.toArray ep)) (fun v _ => ∃ t, v = .str (nmStr ((gro i j fs 4).take 4)) t) := by
  unfold PureFn
  k_fill
  intro dp un gd outer base s Q E hB hX hT hdp hun hpre hret
  refine wpAny_call ?_
  refine nameG fun GG hGG => ?_
  obtain ⟨hh, gs, dr, tk, os⟩ := s
  refine hGG ?_; clear hGG GG
  refine' enterNC (g := hh) (news := []) (l := [(Str.ofString "figures", .ref ax), (Str.ofString "i", .int i ti), (Str.ofString "j", .int j tj)]) (binds := [(Str.ofString "figures", .ref ax), (Str.ofString "i", .int i ti), (Str.ofString "j", .int j tj)]) ?kX ?kT ?ksz ?kS ?k6 ?k7 ?k8 ?k9 ?kk ?knd ?kl ?kln ?_ ?co ?gen ?kd
  case kX => assumption
  case kT => assumption
  case ksz => first | exact Nat.le_refl _ | assumption
  case kS => first | assumption | exact Sep.nil fun _ _ e => e
  case k6 => k_is
  case k7 => k_is
  case k8 => k_room
  case k9 => first | exact BindsTo.of_eq (by kernel_rfl!) | exact binds_K (by k_in) rfl (by k_is) rfl rfl rfl | fail "enter: no rule for these arguments"
  case kk => exact rfl
  case knd => decide +kernel
  case kl => (intro L' q hq; simp only [List.mem_cons, List.not_mem_nil, or_false] at hq; rcases hq with rfl | rfl | rfl <;> kernel_rfl)
  case kln => (simp only [List.map_cons, List.map_nil]; decide +kernel)
  case co => exact rfl
  case gen => exact rfl
  case kd => exact rfl
  intro L' m' h₁ tk' cells F' V' N' Y'
  k_cells Y'
  simp only [List.cons_append, List.nil_append] at N'
  show wpAny _ _ (execs (_ :: _) _) _ _ _
  refine seqG ?_
  intro R' hR'
  refine wpAny_Assign_Name ?_
  walk_at "eval Constant str"
  with_reducible rename Knows _ _ => oldV
  rename Fr _ _ _ _ => oldF
  rename Led _ _ _ _ => oldN
  refine' stC oldF oldN rfl (by (intro o'; walk_at "s")) ‹_› ?_ rfl (by kernel_rfl)
  intro h' oc' F' N' hcell'
  clear oldF oldN
  refine hR'.next ?_
  clear hR' R'
  refine seqG ?_
  intro R' hR'
  refine wpAny_Assign_Name ?_
  refine List_ ?_
  refine args_nil ?_
  try dsimp only [List.cons_append, List.nil_append]
  rename Fr _ _ _ _ => oldF
  rename Led _ _ _ _ => oldN
  refine newList_M oldF oldN ?_
  intro a' h' F' N'
  clear oldF oldN
  with_reducible rename Knows _ _ => oldV
  rename Fr _ _ _ _ => oldF
  rename Led _ _ _ _ => oldN
  refine' stVq oldF oldN oldV (by walk_at "m") ?_ rfl (by kernel_rfl)
  intro m' h' tk' F' N' V'
  clear oldF oldN oldV
  refine hR'.next ?_
  clear hR' R'
  refine seqG ?_
  intro R' hR'
  refine forM ?_ (by intro _; rfl)
  refine Call_ ?_
  k_dflt (refine' nmB ‹_› ‹_› ‹_› (by k_is) (by boot_by_name) (by decide) ?_ rfl rfl rfl (by kernel_rfl) (by kernel_rfl))
  refine PyProof.Rows.callWith_type1 ?_
  refine args_cons ?_
  refine constIntM ?_
  refine args_nil ?_
  try dsimp only [List.cons_append, List.nil_append]
  rename Fr _ _ _ _ => oldF
  rename Led _ _ _ _ => oldN
  refine rangeM oldF oldN ?_
  intro r' h' tk' t1' t2' F' N'
  clear oldF oldN
  rename Fr _ _ _ _ => oldF; rename Led _ _ _ _ => oldN; rename Knows _ _ => oldV
  rename _ = Data.cell (some _) => hcell
  have ⟨G, hG⟩ : ∃ G, G = a' := ⟨_, rfl⟩
  have ⟨oc, hoc⟩ : ∃ oc, oc = oc' := ⟨_, rfl⟩
  subst hG; subst hoc
  refine rangeSrcF 4 (by rfl) (by rfl) oldF oldN (by k_mem) (by decide) ?_
  intro I' h' F' N' hI S'
  clear oldF oldN
  have N2 := Led.sub N' (List.sublist_cons_self _ _)
  clear N'
  refine ForAt.mk (fun k m news => ∃ ys ep, Knows m [(Str.ofString "figures", .ref ax), (Str.ofString "i", .int i ti), (Str.ofString "j", .int j tj), (Str.ofString "grown", .ref G)] ∧ news = [(G, listOf (List.toArray ys) ep), (L' + 1, oc)] ∧ IntsAre ys (gro i j fs k)) S' F' N2 ?_ ?_ ?_ (fstoreL rfl rfl (by kernel_rfl)) ?_ ?_
  · intro hm; exact hI (List.mem_cons_of_mem _ hm)
  · exact ⟨[], 0, oldV, rfl, IntsAre.nil⟩
  · intro i m news _ q hq; nomatch hq
  · clear F' N2 S'
    intro k v m₁ news₁ m₂ news₂ it h tk hk z1 z2 z3 F' N'
    refine nameG fun GG hGG => ?_
    obtain ⟨t, rfl⟩ := z1
    obtain ⟨ys, ep', V1, rfl, hys⟩ := z2
    obtain ⟨rfl, rfl⟩ := z3
    refine hGG ?_; clear hGG GG
    try (with_reducible refine nameQ ?_; intro Q' hQ')
    have V' := V1.set (x := Str.ofString "k") (v := Value.int (k : Int) t) (l' := _) (by walk_at "m")
    clear V1
    obtain ⟨tf, hk1⟩ : ∃ tf, vs.toArray[((k : Nat) : Int).toNat]? = some (Value.int (fs.getD k 0) tf) := itemOf hi (by rw [hf.1]; exact hk)
    have hk2 : 0 < k → ∃ tf, vs.toArray[((k : Int) - 1).toNat]? = some (Value.int (fs.getD (k - 1) 0) tf) := fun h => by
      have e : ((k : Int) - 1) = ((k - 1 : Nat) : Int) := by lia
      rw [e]; exact itemOf hi (by rw [hf.1]; lia)
    obtain ⟨tg, hk2⟩ : ∃ tg, 0 < k → vs.toArray[((k : Int) - 1).toNat]? = some (Value.int (fs.getD (k - 1) 0) tg) := by
      by_cases h : 0 < k
      · obtain ⟨tg, e⟩ := hk2 h; exact ⟨tg, fun _ => e⟩
      · exact ⟨0, fun q => absurd q h⟩
    have hyl : ys.length ≤ 20 := by rw [hys.length]; exact Nat.le_trans (gro_len hi0 hj0 fs k) (by walk_at "oml")
    have hfk : 0 ≤ fs.getD k 0 ∧ fs.getD k 0 < 64 := figOf hf.2 k
    generalize hfe : fs.getD k 0 = f at *
    have fin : ∀ h' tk' m' R ys' ep' l5, Fr hh L' h' m' → Led hh L' h' R → [(I', it), (G, listOf (List.toArray ys') ep'), (L' + 1, oc)].Sublist R → Knows m' l5 → [(Str.ofString "figures", Value.ref ax), (Str.ofString "i", .int i ti), (Str.ofString "j", .int j tj), (Str.ofString "grown", .ref G)].Sublist l5 → IntsAre ys' (gro i j fs k ++ extK i j fs k) →
        FPost hh L' gs dr os (I', it) (fun m news => ∃ ys ep, Knows m [(Str.ofString "figures", .ref ax), (Str.ofString "i", .int i ti), (Str.ofString "j", .int j tj), (Str.ofString "grown", .ref G)] ∧ news = [(G, listOf (List.toArray ys) ep), (L' + 1, oc)] ∧ IntsAre ys (gro i j fs (k + 1))) ⟨h', gs, dr, tk', os⟩ :=
      fun h' tk' m' R ys' ep' l5 F N s V s5 i5 => FPost.intro _ F N s ⟨ys', ep', V.sub s5, rfl, i5⟩
    refine seqG ?_
    intro R' hR'
    refine wpAny_If ?_
    walk_at "isTrue BoolOp"
    refine wpAny_isTrue_Compare1 ?_
    refine Subscript_ ?_
    refine' nmVq ‹_› ‹_› rfl (by walk_at "g") ?_ (by kernel_rfl)
    refine' nmVq ‹_› ‹_› rfl (by walk_at "g") ?_ (by kernel_rfl)
    refine' itemM ?ho ?h0 ?h1 ?hx ?_ ?hs
    case ho => walk_at "o"
    case hs => with_unfolding_all rfl
    case h0 => lia
    case h1 => lia
    case hx => first | assumption | exact hk2 (by walk_at "oml") | exact two_item (by walk_at "oml")
    refine constIntM ?_
    with_reducible refine gt_int ?_
    refine wpAny_truthy_bool ?_
    focus
     refine split_dec ?_ ?_ <;> intro _
     walk_at "isTrue BoolOp"
     walk_at "isTrue BoolOp"
     refine wpAny_isTrue_Compare1 ?_
     refine' nmVq ‹_› ‹_› rfl (by walk_at "g") ?_ (by kernel_rfl)
     refine constIntM ?_
     with_reducible refine eq_int ?_
     refine wpAny_truthy_bool ?_
     focus
      refine split_bool ?_ ?_ <;> intro hb <;> (first | (have := eq_of_beq hb; clear hb) | (have := ne_of_beq_false hb; clear hb))
      rw [if_pos rfl]
      walk_at "isTrue BoolOp"
      rw [if_pos rfl]
      refine oneN ?_
      with_reducible refine wpAny_AugAssign_Name ?_
      refine' ldVn ‹_› ‹_› rfl (by walk_at "g") ?_ rfl (by kernel_rfl)
      with_reducible refine wpAny_BinOp ?_
      refine List_ ?_
      refine args_cons ?_
      refine Subscript_ ?_
      refine' nmVq ‹_› ‹_› rfl (by walk_at "g") ?_ (by kernel_rfl)
      refine' nmVq ‹_› ‹_› rfl (by walk_at "g") ?_ (by kernel_rfl)
      refine' itemM ?ho ?h0 ?h1 ?hx ?_ ?hs
      case ho => walk_at "o"
      case hs => with_unfolding_all rfl
      case h0 => lia
      case h1 => lia
      case hx => first | assumption | exact hk2 (by walk_at "oml") | exact two_item (by walk_at "oml")
      refine args_nil ?_
      try dsimp only [List.cons_append, List.nil_append]
      rename Fr _ _ _ _ => oldF
      rename Led _ _ _ _ => oldN
      refine newList_M oldF oldN ?_
      intro a' h' F' N'
      clear oldF oldN
      refine Subscript_ ?_
      refine List_ ?_
      refine args_cons ?_
      refine' nmVq ‹_› ‹_› rfl (by walk_at "g") ?_ (by kernel_rfl)
      refine args_cons ?_
      refine' nmVq ‹_› ‹_› rfl (by walk_at "g") ?_ (by kernel_rfl)
      refine args_nil ?_
      try dsimp only [List.cons_append, List.nil_append]
      rename Fr _ _ _ _ => oldF
      rename Led _ _ _ _ => oldN
      refine newList_M oldF oldN ?_
      intro a' h' F' N'
      clear oldF oldN
      with_reducible refine wpAny_BinOp ?_
      refine Subscript_ ?_
      refine' nmVq ‹_› ‹_› rfl (by walk_at "g") ?_ (by kernel_rfl)
      refine' nmVq ‹_› ‹_› rfl (by walk_at "g") ?_ (by kernel_rfl)
      refine' itemM ?ho ?h0 ?h1 ?hx ?_ ?hs
      case ho => walk_at "o"
      case hs => with_unfolding_all rfl
      case h0 => lia
      case h1 => lia
      case hx => first | assumption | exact hk2 (by walk_at "oml") | exact two_item (by walk_at "oml")
      refine constIntM ?_
      with_reducible refine subM ?_
      refine' itemM ?ho ?h0 ?h1 ?hx ?_ ?hs
      case ho => walk_at "o"
      case hs => with_unfolding_all rfl
      case h0 => lia
      case h1 => lia
      case hx => first | assumption | exact hk2 (by walk_at "oml") | exact two_item (by walk_at "oml")
      rename Fr _ _ _ _ => oldF
      rename Led _ _ _ _ => oldN
      refine' mulLM oldF oldN (by walk_at "o") (by walk_at "b") (by walk_at "b") ?_
      intro a' h' F' N'
      clear oldF oldN
      rename Fr _ _ _ _ => oldF
      rename Led _ _ _ _ => oldN
      refine' iaddLM oldF oldN (by walk_at "s") (by walk_at "o") (by walk_at "b") ?_
      intro h' F' N'
      clear oldF oldN
      with_reducible rename Knows _ _ => oldV
      rename Fr _ _ _ _ => oldF
      rename Led _ _ _ _ => oldN
      refine' stVq oldF oldN oldV (by walk_at "m") ?_ rfl (by kernel_rfl)
      intro m' h' tk' F' N' V'
      clear oldF oldN oldV
      refine hR'.next ?_
      clear hR' R'
      refine oneN ?_
      refine wpAny_Expr_any ?_
      refine MethodCall_ ?_
      refine' nmVq ‹_› ‹_› rfl (by walk_at "g") ?_ (by kernel_rfl)
      refine getMethod_builtin ⟨_, (by walk_at "o"), rfl⟩ PySem.F.plainAttrs_list PySem.F.slot_list_append PySem.F.type_list_append (by intro a e; cases e; exact ⟨_, (by walk_at "o"), rfl⟩) ?_
      refine callWith_method1 ?_
      refine args_cons ?_
      refine Subscript_ ?_
      refine' nmVq ‹_› ‹_› rfl (by walk_at "g") ?_ (by kernel_rfl)
      refine' nmVq ‹_› ‹_› rfl (by walk_at "g") ?_ (by kernel_rfl)
      refine' itemM ?ho ?h0 ?h1 ?hx ?_ ?hs
      case ho => walk_at "o"
      case hs => with_unfolding_all rfl
      case h0 => lia
      case h1 => lia
      case hx => first | assumption | exact hk2 (by walk_at "oml") | exact two_item (by walk_at "oml")
      refine args_nil ?_
      try dsimp only [List.cons_append, List.nil_append]
      rename Fr _ _ _ _ => oldF
      rename Led _ _ _ _ => oldN
      refine' appendLM oldF oldN (by walk_at "s") (by walk_at "b") ?_
      intro h' F' N'
      clear oldF oldN
      with_reducible refine hQ' _ _ ?_
      clear hQ' Q'
      dsimp only
      rotate_left
      walk_at "isTrue BoolOp"
      refine wpAny_isTrue_Compare1 ?_
      refine Subscript_ ?_
      refine' nmVq ‹_› ‹_› rfl (by walk_at "g") ?_ (by kernel_rfl)
      with_reducible refine wpAny_BinOp ?_
      refine' nmVq ‹_› ‹_› rfl (by walk_at "g") ?_ (by kernel_rfl)
      refine constIntM ?_
      with_reducible refine subM ?_
      refine' itemM ?ho ?h0 ?h1 ?hx ?_ ?hs
      case ho => walk_at "o"
      case hs => with_unfolding_all rfl
      case h0 => lia
      case h1 => lia
      case hx => first | assumption | exact hk2 (by walk_at "oml") | exact two_item (by walk_at "oml")
      with_reducible refine wpAny_BinOp ?_
      refine constIntM ?_
      refine Subscript_ ?_
      refine' nmVq ‹_› ‹_› rfl (by walk_at "g") ?_ (by kernel_rfl)
      refine' nmVq ‹_› ‹_› rfl (by walk_at "g") ?_ (by kernel_rfl)
      refine' itemM ?ho ?h0 ?h1 ?hx ?_ ?hs
      case ho => walk_at "o"
      case hs => with_unfolding_all rfl
      case h0 => lia
      case h1 => lia
      case hx => first | assumption | exact hk2 (by walk_at "oml") | exact two_item (by walk_at "oml")
      with_reducible refine subM ?_
      with_reducible refine eq_int ?_
      refine wpAny_truthy_bool ?_
      focus
       refine split_bool ?_ ?_ <;> intro hb <;> (first | (have := eq_of_beq hb; clear hb) | (have := ne_of_beq_false hb; clear hb))
       rw [if_pos rfl]
       walk_at "isTrue BoolOp"
       rw [if_pos rfl]
       refine oneN ?_
       with_reducible refine wpAny_AugAssign_Name ?_
       refine' ldVn ‹_› ‹_› rfl (by walk_at "g") ?_ rfl (by kernel_rfl)
       with_reducible refine wpAny_BinOp ?_
       refine List_ ?_
       refine args_cons ?_
       refine Subscript_ ?_
       refine' nmVq ‹_› ‹_› rfl (by walk_at "g") ?_ (by kernel_rfl)
       refine' nmVq ‹_› ‹_› rfl (by walk_at "g") ?_ (by kernel_rfl)
       refine' itemM ?ho ?h0 ?h1 ?hx ?_ ?hs
       case ho => walk_at "o"
       case hs => with_unfolding_all rfl
       case h0 => lia
       case h1 => lia
       case hx => first | assumption | exact hk2 (by walk_at "oml") | exact two_item (by walk_at "oml")
       refine args_nil ?_
       try dsimp only [List.cons_append, List.nil_append]
       rename Fr _ _ _ _ => oldF
       rename Led _ _ _ _ => oldN
       refine newList_M oldF oldN ?_
       intro a' h' F' N'
       clear oldF oldN
       refine Subscript_ ?_
       refine List_ ?_
       refine args_cons ?_
       refine' nmVq ‹_› ‹_› rfl (by walk_at "g") ?_ (by kernel_rfl)
       refine args_cons ?_
       refine' nmVq ‹_› ‹_› rfl (by walk_at "g") ?_ (by kernel_rfl)
       refine args_nil ?_
       try dsimp only [List.cons_append, List.nil_append]
       rename Fr _ _ _ _ => oldF
       rename Led _ _ _ _ => oldN
       refine newList_M oldF oldN ?_
       intro a' h' F' N'
       clear oldF oldN
       with_reducible refine wpAny_BinOp ?_
       refine Subscript_ ?_
       refine' nmVq ‹_› ‹_› rfl (by walk_at "g") ?_ (by kernel_rfl)
       refine' nmVq ‹_› ‹_› rfl (by walk_at "g") ?_ (by kernel_rfl)
       refine' itemM ?ho ?h0 ?h1 ?hx ?_ ?hs
       case ho => walk_at "o"
       case hs => with_unfolding_all rfl
       case h0 => lia
       case h1 => lia
       case hx => first | assumption | exact hk2 (by walk_at "oml") | exact two_item (by walk_at "oml")
       refine constIntM ?_
       with_reducible refine subM ?_
       refine' itemM ?ho ?h0 ?h1 ?hx ?_ ?hs
       case ho => walk_at "o"
       case hs => with_unfolding_all rfl
       case h0 => lia
       case h1 => lia
       case hx => first | assumption | exact hk2 (by walk_at "oml") | exact two_item (by walk_at "oml")
       rename Fr _ _ _ _ => oldF
       rename Led _ _ _ _ => oldN
       refine' mulLM oldF oldN (by walk_at "o") (by walk_at "b") (by walk_at "b") ?_
       intro a' h' F' N'
       clear oldF oldN
       rename Fr _ _ _ _ => oldF
       rename Led _ _ _ _ => oldN
       refine' iaddLM oldF oldN (by walk_at "s") (by walk_at "o") (by walk_at "b") ?_
       intro h' F' N'
       clear oldF oldN
       with_reducible rename Knows _ _ => oldV
       rename Fr _ _ _ _ => oldF
       rename Led _ _ _ _ => oldN
       refine' stVq oldF oldN oldV (by walk_at "m") ?_ rfl (by kernel_rfl)
       intro m' h' tk' F' N' V'
       clear oldF oldN oldV
       refine hR'.next ?_
       clear hR' R'
       refine oneN ?_
       refine wpAny_Expr_any ?_
       refine MethodCall_ ?_
       refine' nmVq ‹_› ‹_› rfl (by walk_at "g") ?_ (by kernel_rfl)
       refine getMethod_builtin ⟨_, (by walk_at "o"), rfl⟩ PySem.F.plainAttrs_list PySem.F.slot_list_append PySem.F.type_list_append (by intro a e; cases e; exact ⟨_, (by walk_at "o"), rfl⟩) ?_
       refine callWith_method1 ?_
       refine args_cons ?_
       refine Subscript_ ?_
       refine' nmVq ‹_› ‹_› rfl (by walk_at "g") ?_ (by kernel_rfl)
       refine' nmVq ‹_› ‹_› rfl (by walk_at "g") ?_ (by kernel_rfl)
       refine' itemM ?ho ?h0 ?h1 ?hx ?_ ?hs
       case ho => walk_at "o"
       case hs => with_unfolding_all rfl
       case h0 => lia
       case h1 => lia
       case hx => first | assumption | exact hk2 (by walk_at "oml") | exact two_item (by walk_at "oml")
       refine args_nil ?_
       try dsimp only [List.cons_append, List.nil_append]
       rename Fr _ _ _ _ => oldF
       rename Led _ _ _ _ => oldN
       refine' appendLM oldF oldN (by walk_at "s") (by walk_at "b") ?_
       intro h' F' N'
       clear oldF oldN
       with_reducible refine hQ' _ _ ?_
       clear hQ' Q'
       dsimp only
       rotate_left
       walk_at "isTrue BoolOp"
       rw [if_neg Bool.false_ne_true]
       rw [if_neg Bool.false_ne_true]
       refine wpAny_execs_nil ?_
       refine hR'.next ?_
       clear hR' R'
       refine oneN ?_
       refine wpAny_Expr_any ?_
       refine MethodCall_ ?_
       refine' nmVq ‹_› ‹_› rfl (by walk_at "g") ?_ (by kernel_rfl)
       refine getMethod_builtin ⟨_, (by walk_at "o"), rfl⟩ PySem.F.plainAttrs_list PySem.F.slot_list_append PySem.F.type_list_append (by intro a e; cases e; exact ⟨_, (by walk_at "o"), rfl⟩) ?_
       refine callWith_method1 ?_
       refine args_cons ?_
       refine Subscript_ ?_
       refine' nmVq ‹_› ‹_› rfl (by walk_at "g") ?_ (by kernel_rfl)
       refine' nmVq ‹_› ‹_› rfl (by walk_at "g") ?_ (by kernel_rfl)
       refine' itemM ?ho ?h0 ?h1 ?hx ?_ ?hs
       case ho => walk_at "o"
       case hs => with_unfolding_all rfl
       case h0 => lia
       case h1 => lia
       case hx => first | assumption | exact hk2 (by walk_at "oml") | exact two_item (by walk_at "oml")
       refine args_nil ?_
       try dsimp only [List.cons_append, List.nil_append]
       rename Fr _ _ _ _ => oldF
       rename Led _ _ _ _ => oldN
       refine' appendLM oldF oldN (by walk_at "s") (by walk_at "b") ?_
       intro h' F' N'
       clear oldF oldN
       with_reducible refine hQ' _ _ ?_
       clear hQ' Q'
       dsimp only
       rotate_left
      rotate_left 2
     rotate_left 3
     rw [if_neg Bool.false_ne_true]
     refine wpAny_execs_nil ?_
     refine hR'.next ?_
     clear hR' R'
     refine oneN ?_
     refine wpAny_Expr_any ?_
     refine MethodCall_ ?_
     refine' nmVq ‹_› ‹_› rfl (by walk_at "g") ?_ (by kernel_rfl)
     refine getMethod_builtin ⟨_, (by walk_at "o"), rfl⟩ PySem.F.plainAttrs_list PySem.F.slot_list_append PySem.F.type_list_append (by intro a e; cases e; exact ⟨_, (by walk_at "o"), rfl⟩) ?_
     refine callWith_method1 ?_
     refine args_cons ?_
     refine Subscript_ ?_
     refine' nmVq ‹_› ‹_› rfl (by walk_at "g") ?_ (by kernel_rfl)
     refine' nmVq ‹_› ‹_› rfl (by walk_at "g") ?_ (by kernel_rfl)
     refine' itemM ?ho ?h0 ?h1 ?hx ?_ ?hs
     case ho => walk_at "o"
     case hs => with_unfolding_all rfl
     case h0 => lia
     case h1 => lia
     case hx => first | assumption | exact hk2 (by walk_at "oml") | exact two_item (by walk_at "oml")
     refine args_nil ?_
     try dsimp only [List.cons_append, List.nil_append]
     rename Fr _ _ _ _ => oldF
     rename Led _ _ _ _ => oldN
     refine' appendLM oldF oldN (by walk_at "s") (by walk_at "b") ?_
     intro h' F' N'
     clear oldF oldN
     with_reducible refine hQ' _ _ ?_
     clear hQ' Q'
     dsimp only
     rotate_left
    all_goals (refine fin _ _ _ _ _ _ _ (by assumption) (by assumption) (by walk_at "u") (by assumption) (by walk_at "u") ?_)
    all_goals (unfold extK; rw [hfe])
    all_goals first
      | (have hc : f > 61 ∧ (k = 0 ∨ fs.getD (k - 1) 0 = 125 - f) := ⟨by lia, by lia⟩; rw [if_pos hc, ← List.append_assoc]; exact ints_snoc (ints_app hys (ints_rep _ _ _)) _ _)
      | (have hc : ¬ (f > 61 ∧ (k = 0 ∨ fs.getD (k - 1) 0 = 125 - f)) := (by rintro ⟨_, h | h⟩ <;> lia); rw [if_neg hc, List.nil_append]; exact ints_snoc hys _ _)
  · intro h' tk' m' news' F' N' z4
    refine nameG fun GG hGG => ?_
    obtain ⟨ys, ep', V', rfl, hys⟩ := z4
    refine hGG ?_; clear hGG GG
    have hyl : ys.length ≤ 20 := by rw [hys.length]; exact Nat.le_trans (gro_len hi0 hj0 fs 4) (by walk_at "oml")
    clear oldV
    refine hR'.next ?_
    clear hR' R'
    refine oneN ?_
    refine wpAny_Return_some ?_
    refine MethodCall_ ?_
    walk_at "eval Constant str"
    refine GM.join ?_
    refine callWith_method1 ?_
    refine args_cons ?_
    dsimp only
    refine' evalLC_L rfl (by decide) rfl (by decide) rfl ?_ (by (intro _; rfl))
    refine Subscript_ ?_
    refine' nmVq ‹_› ‹_› rfl (by walk_at "g") ?_ (by kernel_rfl)
    with_reducible refine sliceM ?_
    with_reducible refine evalPartNone ?_
    with_reducible refine evalPartSome ?_
    refine constIntM ?_
    with_reducible refine evalPartNone ?_
    rename Fr _ _ _ _ => oldF
    rename Led _ _ _ _ => oldN
    refine' sliceLM oldF oldN (by walk_at "o") (by constructor) (by constructor) (by first | exact pick_take4 _ | exact pick_take3 _ | exact pick_drop1 _) (by walk_at "b") ?_ (by with_unfolding_all rfl) (by (intro _; with_unfolding_all rfl))
    intro a' h' F' N'
    clear oldF oldN
    dsimp only
    have hys4 : IntsAre (ys.take 4) ((gro i j fs 4).take 4) := ints_take hys 4
    have hfig : ∀ f ∈ (gro i j fs 4).take 4, Fig f := fun f hf' => gro_fig hf.2 4 f (List.mem_of_mem_take hf')
    have hl4 : ((gro i j fs 4).take 4).length ≤ 4 := by rw [List.length_take]; lia
    generalize (gro i j fs 4).take 4 = gs4 at *
    generalize ys.take 4 = zs at *
    have hzs : zs.length ≤ 4 := by rw [hys4.length]; exact hl4
    rename Fr _ _ _ _ => oldF
    rename Led _ _ _ _ => oldN
    refine' listSrc rfl oldF oldN (by walk_at "o") (by (have hsl : sizeLine = 16777216 := rfl; (try simp only [List.size_toArray]); lia)) ?_
    intro I' h' F' N' S'
    clear oldF oldN
    refine LCAtL.mk (fun i ys made => made = [] ∧ StrsAre ys ((gs4.map sgS).take i)) S' F' N' ⟨rfl, StrsAre.nil⟩ ?_ ?_
    · intro i v C ys made g' h tk hi4 hP hJ Fo Fc Nc
      clear F' N' S' V'
      refine nameG fun GG hGG => ?_
      obtain ⟨f, t, hgf, rfl⟩ := ints_get hys4 i v (by simpa using hP)
      obtain ⟨rfl, hys⟩ := hJ
      refine hGG ?_; clear hGG GG
      have hfg : Fig f := hfig f (List.mem_of_getElem? hgf)
      have Vc : Knows _ _ := Knows.mp (l := [(Str.ofString "f", Value.int f t)]) (by simp)
      simp only [List.nil_append] at Nc
      with_reducible refine testsOf.nil ?_
      rw [if_pos rfl]
      refine Subscript_ ?_
      refine' nmCq ‹_› rfl (by k_mem) ‹_› ?_ (by kernel_rfl)
      refine' nmVq ‹_› ‹_› rfl (by walk_at "g") ?_ (by kernel_rfl)
      refine' signM ‹_› ?_ (by (intro _; with_unfolding_all rfl))
      intro _ _
      dsimp only
      refine EPost.intro [] (by assumption) (by assumption) (by walk_at "u") ⟨rfl, ?_⟩
      rw [take_step (x := sgS f) (by rw [List.getElem?_map, hgf]; rfl)]
      exact strs_snoc hys _ _
    · rintro D h'' tk'' ys'' made ep'' ⟨rfl, hys''⟩ F' N'
      rw [show (zs.toArray).size = (gs4.map sgS).length by simp [hys4.length], List.take_length] at hys''
      have hok : (((gs4.map sgS)).map (·.length)).sum + (gs4.map sgS).length * (Str.ofString "").length ≤ 16777216 := by
        have e : ((gs4.map sgS).map (·.length)).sum = gs4.length := by
          rw [List.map_map]
          have : ∀ l : List Int, (l.map ((fun x => x.length) ∘ sgS)).sum = l.length := by
            intro l; induction l with
            | nil => rfl
            | cons a r ih => rw [List.map_cons, List.sum_cons, ih, List.length_cons]; show 1 + _ = _; lia
          exact this gs4
        rw [e, show (Str.ofString "").length = 0 from rfl]
        lia
      refine args_nil ?_
      try dsimp only [List.cons_append, List.nil_append]
      refine' joinM (by walk_at "o") ‹_› (by first | assumption | walk_at "b") ?_
      intro _ _
      exact hret _ _ _ ⟨_, congrArg (fun z => Value.str z _) (join_nm _)⟩ (by exact fun b o e => Fr.keep (by assumption) b o e)
end
end
noncomputable def figT (n : Int) (k : Nat) : Int := [62, 63, n / 81 % 62].getD (n / 3 ^ k % 3).toNat 0
noncomputable def textT (n : Int) : List Int := (List.range 4).map (figT n)
set_option genInjectivity false in
set_option genSizeOf false in
structure TxA where
  T : Addr
  vs : List Value
  ep : Nat
noncomputable def txLed (l : List TxA) : List (Addr × Obj) := l.map fun x => (x.T, listOf x.vs.toArray x.ep)
noncomputable def txVals (l : List TxA) : List Value := l.map fun x => .ref x.T
inductive TxAre : List TxA → List (List Int) → Prop
  | nil : TxAre [] []
  | cons {a f l r} : IntsAre a.vs f → TxAre l r → TxAre (a :: l) (f :: r)
theorem TxAre.app {l l' : List TxA} {r r' : List (List Int)} (h : TxAre l r) (h' : TxAre l' r') : TxAre (l ++ l') (r ++ r') := by induction h with | nil => exact h' | cons x _ ih => exact .cons x ih
section
section
variable {prog : Program} {w : World} {A : Around} {h₀ hh : Heap} {L : Addr} {m : Str → Option Value} {news : List (Addr × Obj)} {E : Value → Shared → Prop} {gs : Array GenState} {dr : Drawn} {os : OsState} {tk₀ : Nat} {Q : Value → Shared → Prop}
theorem item3M {value slice : PySem.Expr} {D : Addr} {a b c k : Int} {t1 t2 t3 u : Tok} {ep : Nat} (ho : hh.get? D = some (listOf [Value.int a t1, .int b t2, .int c t3].toArray ep)) (h0 : 0 ≤ k) (h3 : k < 3)
    (h : ∀ t, Q (.int ([a, b, c].getD k.toNat 0) t) ⟨hh, gs, dr, tk₀, os⟩)
    (hs : subscripted slice false (.ref D) (.int k u) = operate [.ref D, .int k u] (getItem (.ref D) (.int k u))) :
    wpAny (model prog w) A (subscriptTail value slice (.ref D) (.int k u)) Q E ⟨hh, gs, dr, tk₀, os⟩ := by
  have hk : k = 0 ∨ k = 1 ∨ k = 2 := by omega
  rcases hk with rfl | rfl | rfl
  · exact itemM ho h0 (by walk_at "om") rfl (h _) hs
  · exact itemM ho h0 (by walk_at "om") rfl (h _) hs
  · exact itemM ho h0 (by walk_at "om") rfl (h _) hs
theorem pow3 (n : Int) {j : Nat} (h : j < 4) : ∃ c : Int, 3 ^ (j : Int).toNat = c ∧ 0 < c ∧ c < 100 ∧ [figT n 0, figT n 1, figT n 2, figT n 3][j]? = some ([62, 63, n / 81 % 62].getD (n / c % 3).toNat 0) := by
  have hj : j = 0 ∨ j = 1 ∨ j = 2 ∨ j = 3 := by lia
  rcases hj with rfl | rfl | rfl | rfl
  · exact ⟨1, rfl, by lia, by lia, rfl⟩
  · exact ⟨3, rfl, by lia, by lia, rfl⟩
  · exact ⟨9, rfl, by lia, by lia, rfl⟩
  · exact ⟨27, rfl, by lia, by lia, rfl⟩
theorem sliceLI {value slice : PySem.Expr} {D : Addr} {vs : List Value} {vl vu : Value} {lo hi : Option Int} {zs : List Value} (F : Fr h₀ L hh m) (N : Led h₀ L hh news) (ho : hh.IsList D vs.toArray) (pl : IsPart vl lo) (pu : IsPart vu hi)
    (e : kms_pick vs lo hi = zs) (hz : vs.length ≤ sizeLine)
    (h : ∀ D' h', Fr h₀ L h' m → Led h₀ L h' ((D', listOf zs.toArray 0) :: news) → Q (.ref D') ⟨h', gs, dr, tk₀, os⟩)
    (hs : subscripted slice false (.ref D) (.ref hh.objs.size) = operate [.ref hh.objs.size, .ref D] (getItem (.ref D) (.ref hh.objs.size))) (ht : ∀ r, letTemporaryGo value (.ref D) r = pure ()) :
    wpAny (model prog w) A (subscriptTail value slice (.ref D) (.ref hh.objs.size)) Q E ⟨hh.push { cls := .type "slice", data := .fields #[vl, vu, .none] }, gs, dr, tk₀, os⟩ :=
  kmk_slice_lit (s := ⟨hh, gs, dr, tk₀, os⟩) F N.N ho pl pu (zs := zs) (by rw [kms_pick_eq, ← e]) (fun D' h' F' N' l1 => h D' h' F' ⟨N', List.nodup_cons.mpr ⟨fun hm => by
    obtain ⟨q, hq, e⟩ := List.mem_map.mp hm
    exact absurd (l1 q hq) (by rw [show q.1 = D' from e]; exact Nat.lt_irrefl _), N.nd⟩⟩) hs ht (by simpa using hz)
end
noncomputable def HeapFnP (w : World) (loose : List Str) (mean : ExcName → Option Value) (mg mb : Str → Option Value) (pre : Heap → Prop) (k : Nat) (f : Addr) (pos : List Value) (kw : List (Str × Value)) (foot : List (Addr × Obj)) (ok : Value → List (Addr × Obj) → Prop) : Prop :=
  ∀ (dp un : Nat) (gd : Option (List Code)) (outer : List Env) (base g : Heap) (s : Shared) (Q E : Value → Shared → Prop),
    Below (topA dp un gd outer) base outer g → (hd.heap_39 w.params).In g → Top hd.view_39 loose mean mg mb g → g.objs.size ≤ s.heap.objs.size → Sep g s.heap foot → pre g →
    dp + k < recursionLimit → un + 8 * k < cLine →
    (∀ (v : Value) (h' : Heap) (tk' : Nat) (foot' : List (Addr × Obj)), ok v foot' → Sep g h' foot' → Q v ⟨h', s.gens, s.drawn, tk', s.os⟩) →
    wpAny (model PySem.Challenge.rw_oy0258_01.row.prog w) (topA dp un gd outer) (call (.ref f) pos kw) Q E s
section
variable {w : World} {loose : List Str} {mean : ExcName → Option Value} {mg mb : Str → Option Value}
theorem HeapFnP.use {k : Nat} {f : Addr} {pre : Heap → Prop} {pos : List Value} {kw : List (Str × Value)} {foot A : List (Addr × Obj)} {ok : Value → List (Addr × Obj) → Prop}
    (C : HeapFnP w loose mean mg mb pre k f pos kw foot ok) {dp un : Nat} {gd : Option (List Code)} {outer : List Env} {base h₀ : Heap} {L : Addr} {m : Str → Option Value} {hh : Heap} {g : Array GenState} {dr : Drawn} {tk₀ : Nat} {os : OsState} {Q E : Value → Shared → Prop} {env : Env}
    (B : Below (topA dp un gd outer) base outer h₀) (F : Fr h₀ L hh m) (X : (hd.heap_39 w.params).In h₀) (T : Top hd.view_39 loose mean mg mb h₀) (N : Led h₀ L hh (foot ++ A))
    (hp : ∀ h', (∀ b o, h₀.get? b = some o → h'.get? b = some o) → pre h')
    (hd : dp + (k + 1) < recursionLimit) (hu : un + 8 * (k + 1) < cLine)
    (h : ∀ (v : Value) (h' : Heap) (tk' : Nat) (foot' : List (Addr × Obj)), ok v foot' → Fr h₀ L h' m → Led h₀ L h' (foot' ++ A) → Q v ⟨h', g, dr, tk', os⟩)
    (hf : env.frame = some L) (hck : env.scope.kind = .function) :
    wpAny (model PySem.Challenge.rw_oy0258_01.row.prog w) ((topA dp un gd outer).deeper env) (call (.ref f) pos kw) Q E ⟨hh, g, dr, tk₀, os⟩ := by
  refine nameG fun GG hGG => ?_
  obtain ⟨gr, Fg, Ng, S, hsz, _⟩ := openG F N
  refine hGG ?_; clear hGG GG
  exact C (dp + 1) (un + 3) gd (env :: outer) base gr ⟨hh, g, dr, tk₀, os⟩ Q E (pushX B Fg hf hck) (X.keeps Fg.keep) (T.keeps Fg.keep) (Nat.le_of_eq hsz) S (hp gr Fg.keep) (by walk_at "om") (by walk_at "om")
    fun v h' tk' foot' o S' => h v h' tk' foot' o (closeG Fg Ng S').1 (closeG Fg Ng S').2
end
section
variable (w : World) (loose : List Str) (mean : ExcName → Option Value) (mg mb : Str → Option Value)
theorem c_textsP (ax : Addr) (vs : List Value) (ns : List Int) (hi : IntsAre vs ns) (hlen : ns.length ≤ 63) :
   HeapFnP w loose mean mg mb (fun g => g.IsList ax vs.toArray) 2 256 [.ref ax] [] [] (fun v n => ∃ (T : Addr) (l : List TxA) (e2 : Nat), v = .ref T ∧ TxAre l (([462, 640, 3251] ++ ns.take 3).map textT) ∧ n = (T, listOf (txVals l).toArray e2) :: txLed l.reverse) := by
  unfold HeapFnP
  k_fill
  intro dp un gd outer base g s Q E hB hX hT hsz hS hpre hdp hun hret
  refine nameG fun GG hGG => ?_
  obtain ⟨oS, hgo, hgc, nS, hgd⟩ := hpre
  obtain ⟨hh, gs, dr, tk, os⟩ := s
  refine hGG ?_; clear hGG GG
  dsimp only at *
  refine wpAny_call ?_
  refine' enterN (g := g) (binds := [(Str.ofString "script", .ref ax)]) ?kX ?kT ?ksz ?kS ?k6 ?k7 ?k8 ?k9 ?kl ?kbn ?_ ?co ?gen ?kd ?kc
  case kX => assumption
  case kT => assumption
  case ksz => first | exact Nat.le_refl _ | assumption
  case kS => first | assumption | exact Sep.nil fun _ _ e => e
  case k6 => k_is
  case k7 => k_is
  case k8 => k_room
  case k9 => first | exact BindsTo.of_eq (by kernel_rfl!) | exact binds_K (by k_in) rfl (by k_is) rfl rfl rfl | fail "enter: no rule for these arguments"
  case kl => exact locs rfl
  case kbn => (simp only [List.map_cons, List.map_nil]; decide +kernel)
  case co => exact rfl
  case gen => exact rfl
  case kd => exact rfl
  case kc => decide
  intro L' m' h₁ tk' F' V' N'
  have hvl : vs.length ≤ 63 := by rw [hi.length]; exact hlen
  show wpAny _ _ (execs (_ :: _) _) _ _ _
  refine oneN ?_
  refine wpAny_Return_some ?_
  dsimp only
  refine' evalLC_C rfl (by (intro _; rfl)) (by (intro _; rfl)) rfl (by decide) rfl ?_ (by (intro _; rfl))
  with_reducible refine wpAny_BinOp ?_
  refine List_ ?_
  refine args_cons ?_
  refine constIntM ?_
  refine args_cons ?_
  refine constIntM ?_
  refine args_cons ?_
  refine constIntM ?_
  refine args_nil ?_
  try dsimp only [List.cons_append, List.nil_append]
  rename Fr _ _ _ _ => oldF
  rename Led _ _ _ _ => oldN
  refine newList_M oldF oldN ?_
  intro a' h' F' N'
  clear oldF oldN
  refine Subscript_ ?_
  refine' nmVq ‹_› ‹_› rfl (by walk_at "g") ?_ (by kernel_rfl)
  with_reducible refine sliceM ?_
  with_reducible refine evalPartNone ?_
  with_reducible refine evalPartSome ?_
  refine constIntM ?_
  with_reducible refine evalPartNone ?_
  rename Fr _ _ _ _ => oldF
  rename Led _ _ _ _ => oldN
  refine' sliceLI oldF oldN (⟨oS, oldF.keep _ _ hgo, hgc, nS, hgd⟩) (by constructor) (by constructor) (pick_take3 _) (by walk_at "b") ?_ (by with_unfolding_all rfl) (by (intro _; with_unfolding_all rfl))
  intro a' h' F' N'
  clear oldF oldN
  rename Fr _ _ _ _ => oldF
  rename Led _ _ _ _ => oldN
  refine' addLM oldF oldN (by walk_at "o") (by walk_at "o") (by walk_at "b") ?_
  intro a' h' F' N'
  clear oldF oldN
  dsimp only
  obtain ⟨ws, hws, N2⟩ : ∃ ws, IntsAre ws ([462, 640, 3251] ++ ns.take 3) ∧ Led g L' h' [(a', listOf (List.toArray ws) 0)] := ⟨_, ints_app (.cons _ _ (.cons _ _ (.cons _ _ .nil))) (ints_take hi 3), N'.sub (by walk_at "u")⟩
  have F2 := F'
  have V2 := V'
  clear N' F' V'
  have hwl : ws.length ≤ 6 := by rw [hws.length, List.length_append, List.length_take]; simp; lia
  generalize [462, 640, 3251] ++ ns.take 3 = ks at *
  rename Fr _ _ _ _ => oldF
  rename Led _ _ _ _ => oldN
  refine' listSrc rfl oldF oldN (by walk_at "o") (by (have hsl : sizeLine = 16777216 := rfl; (try simp only [List.size_toArray]); lia)) ?_
  intro I' h' F' N' S'
  clear oldF oldN
  refine LCAtC.mk (fun i ys made => ∃ l, made = txLed l.reverse ∧ ys = txVals l ∧ TxAre l ((ks.take i).map textT)) S' F' N' ⟨[], rfl, rfl, .nil⟩ ?_ ?_
  · intro i v C o ys made g' h tk hi4 hP hcell hJ Fo Fc Nc
    clear F' N' S'
    refine nameG fun GG hGG => ?_
    obtain ⟨n, tn, hn, rfl⟩ := ints_get hws i v (by simpa using hP)
    obtain ⟨l, rfl, rfl, hl⟩ := hJ
    refine hGG ?_; clear hGG GG
    have Vc : Knows _ _ := Knows.mp (l := []) (by simp)
    have hXc := hX.keeps Fo.keep
    have hTc := hT.keeps Fo.keep
    with_reducible refine testsOf.nil ?_
    rw [if_pos rfl]
    dsimp only
    refine' evalLC_L rfl (by decide) rfl (by decide) rfl ?_ (by (intro _; rfl))
    refine Call_ ?_
    k_dflt (refine' nmB ‹_› ‹_› ‹_› (by k_is) (by boot_by_name) (by decide) ?_ rfl rfl rfl (by kernel_rfl) (by kernel_rfl))
    refine PyProof.Rows.callWith_type1 ?_
    refine args_cons ?_
    refine constIntM ?_
    refine args_nil ?_
    try dsimp only [List.cons_append, List.nil_append]
    rename Fr _ _ _ _ => oldF
    rename Led _ _ _ _ => oldN
    refine rangeM oldF oldN ?_
    intro r' h' tk' t1' t2' F' N'
    clear oldF oldN
    rename Fr _ _ _ _ => oldF; rename Led _ _ _ _ => oldN
    refine rangeSrc 4 (by rfl) (by rfl) oldF oldN (by k_mem) (by decide) ?_
    intro I' h' F' N' S'
    clear oldF oldN
    refine LCAtL.mk (fun j ys made => made = [] ∧ IntsAre ys ([figT n 0, figT n 1, figT n 2, figT n 3].take j)) S' F' N' ⟨rfl, IntsAre.nil⟩ ?_ ?_
    · intro j v C2 ys2 made2 g2 h2 tk2 hj hP2 hJ2 Fo2 Fc2 Nc2
      clear F' N' S' Vc
      refine nameG fun GG hGG => ?_
      obtain ⟨t, rfl⟩ := hP2
      obtain ⟨rfl, hys⟩ := hJ2
      refine hGG ?_; clear hGG GG
      have Vc2 : Knows _ _ := Knows.mp (l := [(Str.ofString "k", Value.int (j : Int) t)]) (by simp)
      simp only [List.nil_append] at Nc2
      refine nameG fun GG hGG => ?_
      obtain ⟨c, hcj, hc0, hc1, hcf⟩ := pow3 n (show j < 4 from hj)
      refine hGG ?_; clear hGG GG
      with_reducible refine testsOf.nil ?_
      rw [if_pos rfl]
      refine Subscript_ ?_
      refine List_ ?_
      refine args_cons ?_
      refine constIntM ?_
      refine args_cons ?_
      refine constIntM ?_
      refine args_cons ?_
      with_reducible refine wpAny_BinOp ?_
      with_reducible refine wpAny_BinOp ?_
      refine' nmCq ‹_› rfl (by k_mem) ‹_› ?_ (by kernel_rfl)
      refine constIntM ?_
      with_reducible refine fdivM (by walk_at "oml") (by walk_at "oml") ?_
      refine constIntM ?_
      with_reducible refine modM (by walk_at "oml") ?_
      refine args_nil ?_
      try dsimp only [List.cons_append, List.nil_append]
      rename Fr _ _ _ _ => oldF
      rename Led _ _ _ _ => oldN
      refine newList_M oldF oldN ?_
      intro a' h' F' N'
      clear oldF oldN
      with_reducible refine wpAny_BinOp ?_
      with_reducible refine wpAny_BinOp ?_
      refine' nmCq ‹_› rfl (by k_mem) ‹_› ?_ (by kernel_rfl)
      with_reducible refine wpAny_BinOp ?_
      refine constIntM ?_
      refine' nmVq ‹_› ‹_› rfl (by walk_at "g") ?_ (by kernel_rfl)
      refine powM c (by walk_at "oml") (by walk_at "oml") (by decide) hcj ?_
      with_reducible refine fdivM (by walk_at "oml") (by walk_at "oml") ?_
      refine constIntM ?_
      with_reducible refine modM (by walk_at "oml") ?_
      refine' item3M (by walk_at "o") (by walk_at "oml") (by walk_at "oml") ?_ (by with_unfolding_all rfl)
      intro _
      refine EPost.intro [] (by assumption) (by assumption) (by walk_at "u") ⟨rfl, ?_⟩
      rw [take_step hcf]
      exact ints_snoc hys _ _
    · rintro D2 h3 tk3 ys3 made3 ep3 ⟨rfl, hys3⟩ F' N'
      simp only [List.nil_append] at N'
      skip
      refine EPost.intro ((D2, listOf ys3.toArray ep3) :: txLed l.reverse) (by assumption) (by assumption) (by walk_at "u") ⟨l ++ [⟨D2, ys3, ep3⟩], ?_, ?_, ?_⟩
      · simp [txLed]
      · simp [txVals]
      · rw [take_step hn, List.map_append]
        exact hl.app (.cons hys3 .nil)
  · intro D h'' tk'' ys made ep'' z1 F' N'
    refine nameG fun GG hGG => ?_
    obtain ⟨l, rfl, rfl, hl⟩ := z1
    refine hGG ?_; clear hGG GG
    rw [show ws.toArray.size = ks.length by simp [hws.length], List.take_length] at hl
    skip
    exact hret _ _ _ _ ⟨D, l, ep'', rfl, hl, rfl⟩ (sepOf (by assumption) (by assumption) (List.Sublist.cons_cons _ (List.sublist_append_left _ _)))
end
end
section
section
variable (w : World) (loose : List Str) (mean : ExcName → Option Value) (mg mb : Str → Option Value)
noncomputable abbrev ndObj (dx : Addr) (nm : Str) (t : Tok) (np : Int) (nt : Tok) (U : Addr) : Obj := ⟨.ref 150, some dx, .plain, #[some (.str nm t), some (.int np nt), some (.ref U)]⟩
theorem c_ninit (nm : Str) (t : Tok) : InitFn w loose mean mg mb 1 146 150 [.str nm t] [] (fun x dx n => ∃ U nt, n = [(U, listOf #[] 0), (x, ndObj dx nm t 0 nt U), (dx, dictOf [] 0)]) := by
  unfold InitFn
  k_fill
  intro A g hh x dx gs dr tk os R hA hdep hX hT hsz hS hret
  refine' enterN (g := g) (binds := [(Str.ofString "self", .ref x), (Str.ofString "node", .str nm t)]) ?kX ?kT ?ksz ?kS ?k6 ?k7 ?k8 ?k9 ?kl ?kbn ?_ ?co ?gen ?kd ?kc
  case kX => assumption
  case kT => assumption
  case ksz => first | exact Nat.le_refl _ | assumption
  case kS => first | assumption | exact Sep.nil fun _ _ e => e
  case k6 => k_is
  case k7 => k_is
  case k8 => k_room
  case k9 => first | exact BindsTo.of_eq (by kernel_rfl!) | exact binds_K (by k_in) rfl (by k_is) rfl rfl rfl | fail "enter: no rule for these arguments"
  case kl => exact locs rfl
  case kbn => (simp only [List.map_cons, List.map_nil]; decide +kernel)
  case co => exact rfl
  case gen => exact rfl
  case kd => exact rfl
  case kc => decide
  intro L' m' h₁ tk' F' V' N'
  show wpAny _ _ (execs (_ :: _) _) _ _ _
  refine seqG ?_
  intro R' hR'
  with_reducible refine plainObj_wpAny_Assign_Attribute ?_ ?_; rotate_left; with_unfolding_all rfl
  refine' nmVq ‹_› ‹_› rfl (by walk_at "g") ?_ (by kernel_rfl)
  refine' nmVq ‹_› ‹_› rfl (by walk_at "g") ?_ (by kernel_rfl)
  rename Fr _ _ _ _ => oldF
  rename Led _ _ _ _ => oldN
  k_dflt (refine' setSlotM oldF ‹_› oldN (by exact Led.inst ‹_› (by k_mem) (by k_mem)) (by k_is) (by k_is) (by k_is) (by k_is) (by k_is) (by decide) rfl (by walk_at "s") ?_; intro h' tk' F' N'; clear oldF oldN)
  refine hR'.next ?_
  clear hR' R'
  refine seqG ?_
  intro R' hR'
  with_reducible refine plainObj_wpAny_Assign_Attribute ?_ ?_; rotate_left; with_unfolding_all rfl
  refine constIntM ?_
  refine' nmVq ‹_› ‹_› rfl (by walk_at "g") ?_ (by kernel_rfl)
  rename Fr _ _ _ _ => oldF
  rename Led _ _ _ _ => oldN
  k_dflt (refine' setSlotM oldF ‹_› oldN (by exact Led.inst ‹_› (by k_mem) (by k_mem)) (by k_is) (by k_is) (by k_is) (by k_is) (by k_is) (by decide) rfl (by walk_at "s") ?_; intro h' tk' F' N'; clear oldF oldN)
  refine hR'.next ?_
  clear hR' R'
  refine oneN ?_
  with_reducible refine plainObj_wpAny_Assign_Attribute ?_ ?_; rotate_left; with_unfolding_all rfl
  refine List_ ?_
  refine args_nil ?_
  try dsimp only [List.cons_append, List.nil_append]
  rename Fr _ _ _ _ => oldF
  rename Led _ _ _ _ => oldN
  refine newList_M oldF oldN ?_
  intro a' h' F' N'
  clear oldF oldN
  refine' nmVq ‹_› ‹_› rfl (by walk_at "g") ?_ (by kernel_rfl)
  rename Fr _ _ _ _ => oldF
  rename Led _ _ _ _ => oldN
  k_dflt (refine' setSlotM oldF ‹_› oldN (by exact Led.inst ‹_› (by k_mem) (by k_mem)) (by k_is) (by k_is) (by k_is) (by k_is) (by k_is) (by decide) rfl (by walk_at "s") ?_; intro h' tk' F' N'; clear oldF oldN)
  exact hret _ _ _ ⟨_, _, rfl⟩ (sepOf (by assumption) (by assumption) (by walk_at "u"))
noncomputable def sEs (w : World) (k1 k2 k3 k4 : Tok) (v1 v2 v3 v4 : Value) : List DictEntry :=
  [⟨PyData.keyHash w.params (Str.ofString "_node2info"), .str (Str.ofString "_node2info") k1, v1⟩, ⟨PyData.keyHash w.params (Str.ofString "_ready_nodes"), .str (Str.ofString "_ready_nodes") k2, v2⟩,
   ⟨PyData.keyHash w.params (Str.ofString "_npassedout"), .str (Str.ofString "_npassedout") k3, v3⟩, ⟨PyData.keyHash w.params (Str.ofString "_nfinished"), .str (Str.ofString "_nfinished") k4, v4⟩]
theorem c_sinit : InitFn w loose mean mg mb 1 183 247 [] [] (fun x dx n => ∃ D k1 k2 k3 k4 t3 t4 e oD, (D == sysModules) = false ∧ Obj.IsDictOf (strKind PySem.Challenge.rw_oy0258_01.row.prog w) oD [] ∧ n = [(D, oD), (x, instObj 247 dx), (dx, dictOf (sEs w k1 k2 k3 k4 (.ref D) .none (.int 0 t3) (.int 0 t4)) e)]) := by
  unfold InitFn
  k_fill
  intro A g hh x dx gs dr tk os R hA hdep hX hT hsz hS hret
  have hX' : (hd.heap_39 w.params).In hh := hX.keeps hS.keep
  refine' enterN (g := g) (binds := [(Str.ofString "self", .ref x), (Str.ofString "graph", .none)]) ?kX ?kT ?ksz ?kS ?k6 ?k7 ?k8 ?k9 ?kl ?kbn ?_ ?co ?gen ?kd ?kc
  case kX => assumption
  case kT => assumption
  case ksz => first | exact Nat.le_refl _ | assumption
  case kS => first | assumption | exact Sep.nil fun _ _ e => e
  case k6 => k_is
  case k7 => k_is
  case k8 => k_room
  case k9 => first | exact BindsTo.of_eq (by kernel_rfl!) | exact binds_K (by k_in) rfl (by k_is) rfl rfl rfl | fail "enter: no rule for these arguments"
  case kl => exact locs rfl
  case kbn => (simp only [List.map_cons, List.map_nil]; decide +kernel)
  case co => exact rfl
  case gen => exact rfl
  case kd => exact rfl
  case kc => decide
  intro L' m' h₁ tk' F' V' N'
  show wpAny _ _ (execs (_ :: _) _) _ _ _
  refine seqG ?_
  intro R' hR'
  with_reducible refine plainObj_wpAny_Assign_Attribute ?_ ?_; rotate_left; with_unfolding_all rfl
  rename Fr _ _ _ _ => oldF
  rename Led _ _ _ _ => oldN
  refine newDictM oldF oldN (Top.nolimit (by assumption)) ?_
  intro d' h' o' F' N' lo' hdict'
  clear oldF oldN
  refine' nmVq ‹_› ‹_› rfl (by walk_at "g") ?_ (by kernel_rfl)
  rename Fr _ _ _ _ => oldF
  rename Led _ _ _ _ => oldN
  k_dflt (refine' setOwnM oldF ‹_› oldN (by exact Led.inst ‹_› (by k_mem) (by k_mem)) (by k_is) (by k_is) (by k_is) (by k_is) (by k_get) (by k_put) (by walk_at "s") (Nat.le_of_ble_eq_true rfl) ?_; intro h' tk' F' N'; clear oldF oldN)
  refine hR'.next ?_
  clear hR' R'
  refine seqG ?_
  intro R' hR'
  with_reducible refine plainObj_wpAny_Assign_Attribute ?_ ?_; rotate_left; with_unfolding_all rfl
  walk_at "eval Constant none"
  refine' nmVq ‹_› ‹_› rfl (by walk_at "g") ?_ (by kernel_rfl)
  rename Fr _ _ _ _ => oldF
  rename Led _ _ _ _ => oldN
  k_dflt (refine' setOwnM oldF ‹_› oldN (by exact Led.inst ‹_› (by k_mem) (by k_mem)) (by k_is) (by k_is) (by k_is) (by k_is) (by k_get) (by k_put) (by walk_at "s") (Nat.le_of_ble_eq_true rfl) ?_; intro h' tk' F' N'; clear oldF oldN)
  refine hR'.next ?_
  clear hR' R'
  refine seqG ?_
  intro R' hR'
  with_reducible refine plainObj_wpAny_Assign_Attribute ?_ ?_; rotate_left; with_unfolding_all rfl
  refine constIntM ?_
  refine' nmVq ‹_› ‹_› rfl (by walk_at "g") ?_ (by kernel_rfl)
  rename Fr _ _ _ _ => oldF
  rename Led _ _ _ _ => oldN
  k_dflt (refine' setOwnM oldF ‹_› oldN (by exact Led.inst ‹_› (by k_mem) (by k_mem)) (by k_is) (by k_is) (by k_is) (by k_is) (by k_get) (by k_put) (by walk_at "s") (Nat.le_of_ble_eq_true rfl) ?_; intro h' tk' F' N'; clear oldF oldN)
  refine hR'.next ?_
  clear hR' R'
  refine seqG ?_
  intro R' hR'
  with_reducible refine plainObj_wpAny_Assign_Attribute ?_ ?_; rotate_left; with_unfolding_all rfl
  refine constIntM ?_
  refine' nmVq ‹_› ‹_› rfl (by walk_at "g") ?_ (by kernel_rfl)
  rename Fr _ _ _ _ => oldF
  rename Led _ _ _ _ => oldN
  k_dflt (refine' setOwnM oldF ‹_› oldN (by exact Led.inst ‹_› (by k_mem) (by k_mem)) (by k_is) (by k_is) (by k_is) (by k_is) (by k_get) (by k_put) (by walk_at "s") (Nat.le_of_ble_eq_true rfl) ?_; intro h' tk' F' N'; clear oldF oldN)
  refine hR'.next ?_
  clear hR' R'
  refine oneN ?_
  refine wpAny_If ?_
  refine wpAny_isTrue_Compare1 ?_
  refine' nmVq ‹_› ‹_› rfl (by walk_at "g") ?_ (by kernel_rfl)
  walk_at "eval Constant none"
  refine wpAny_isNot_self (by rfl) ?_
  refine wpAny_truthy_bool ?_
  rw [if_neg Bool.false_ne_true]
  refine wpAny_execs_nil ?_
  dsimp only
  exact hret _ _ _ ⟨d', _, _, _, _, _, _, _, o', lo', hdict', rfl⟩ (sepOf (by assumption) (by assumption) (by walk_at "u"))
end
end
section
set_option genInjectivity false in
set_option genSizeOf false in
structure NdA where
  nm : Str
  t : Tok
  x : Addr
  dx : Addr
  U : Addr
  np : Int
  nt : Tok
  su : List Value
  ep : Nat
noncomputable def nodeLed (a : NdA) : List (Addr × Obj) := [(a.U, listOf a.su.toArray a.ep), (a.x, ndObj a.dx a.nm a.t a.np a.nt a.U), (a.dx, dictOf [] 0)]
noncomputable def nodesLed (l : List NdA) : List (Addr × Obj) := l.flatMap nodeLed
set_option genInjectivity false in
set_option genSizeOf false in
structure SrA where
  S : Addr
  dS : Addr
  D : Addr
  k1 : Tok
  k2 : Tok
  k3 : Tok
  k4 : Tok
  rdy : Value
  po : Int
  pt : Tok
  nf : Int
  ft : Tok
  e : Nat
  oD : Obj
noncomputable def sorterLed (w : World) (σ : SrA) (nds : List NdA) : List (Addr × Obj) :=
  (σ.D, σ.oD) :: (σ.S, instObj 247 σ.dS) :: (σ.dS, dictOf (sEs w σ.k1 σ.k2 σ.k3 σ.k4 (.ref σ.D) σ.rdy (.int σ.po σ.pt) (.int σ.nf σ.ft)) σ.e) :: nodesLed nds
noncomputable def kvsOf (nds : List NdA) : List (Str × Value) := nds.map fun a => (a.nm, .ref a.x)
structure SOk (w : World) (σ : SrA) (nds : List NdA) : Prop where
  lo : (σ.D == sysModules) = false
  dict : Obj.IsDictOf (PySem.strKind PySem.Challenge.rw_oy0258_01.row.prog w) σ.oD (kvsOf nds)
noncomputable abbrev Gr := List (Str × Int × List Str)
structure NdIs (a : NdA) (p : Str × Int × List Str) : Prop where
  nm : a.nm = p.1
  np : a.np = p.2.1
  su : StrsAre a.su p.2.2
inductive NdsAre : List NdA → Gr → Prop
  | nil : NdsAre [] []
  | cons {a p l G} : NdIs a p → NdsAre l G → NdsAre (a :: l) (p :: G)
theorem NdsAre.len {l : List NdA} {G : Gr} (h : NdsAre l G) : l.length = G.length := by induction h with | nil => rfl | cons _ _ ih => simp [ih]
theorem NdsAre.app {l l' : List NdA} {G G' : Gr} (h : NdsAre l G) (h' : NdsAre l' G') : NdsAre (l ++ l') (G ++ G') := by induction h with | nil => exact h' | cons x _ ih => exact .cons x ih
theorem NdsAre.names {l : List NdA} {G : Gr} (h : NdsAre l G) : l.map (·.nm) = G.map (·.1) := by induction h with | nil => rfl | cons x _ ih => simp [ih, x.nm]
theorem NdsAre.get {l : List NdA} {G : Gr} (h : NdsAre l G) : ∀ {i : Nat} {a : NdA}, l[i]? = some a → ∃ p, G[i]? = some p ∧ NdIs a p := by
  induction h with
  | nil => intro i a e; simp at e
  | cons x _ ih =>
    intro i a e
    cases i with
    | zero => simp at e; exact ⟨_, rfl, e ▸ x⟩
    | succ i => simpa using ih (by simpa using e)
noncomputable def ensure (G : Gr) (nm : Str) : Gr := if nm ∈ G.map (·.1) then G else G ++ [(nm, 0, [])]
theorem value_some {nds : List NdA} {nm : Str} {v : Value} (h : valueAt (kvsOf nds) nm = some v) : ∃ (i : Nat) (a : NdA), nds[i]? = some a ∧ a.nm = nm ∧ v = .ref a.x := by
  unfold PySem.valueAt at h
  obtain ⟨p, hp, rfl⟩ := Option.map_eq_some_iff.mp h
  have h1 := List.mem_of_find?_eq_some hp
  have h2 : p.1 = nm := by have := List.find?_some hp; simpa using this
  refine nameG fun GG hGG => ?_
  obtain ⟨a, ha, rfl⟩ := List.mem_map.mp h1
  obtain ⟨i, hi, e⟩ := List.getElem_of_mem ha
  refine hGG ?_; clear hGG GG
  exact ⟨i, a, by rw [List.getElem?_eq_getElem hi, e], h2, rfl⟩
theorem value_none {nds : List NdA} {nm : Str} (h : valueAt (kvsOf nds) nm = none) : nm ∉ nds.map (·.nm) := by
  unfold PySem.valueAt at h
  rw [Option.map_eq_none_iff, List.find?_eq_none] at h
  intro hm
  obtain ⟨a, ha, e⟩ := List.mem_map.mp hm
  exact h (a.nm, .ref a.x) (List.mem_map_of_mem (f := fun a : NdA => (a.nm, Value.ref a.x)) ha) (by simp [e])
theorem nodesLed_app (l l' : List NdA) : nodesLed (l ++ l') = nodesLed l ++ nodesLed l' := List.flatMap_append
section
variable (w : World) (loose : List Str) (mean : ExcName → Option Value) (mg mb : Str → Option Value)
theorem c_getn (σ : SrA) (nds : List NdA) (G : Gr) (ok : SOk w σ nds) (hG : NdsAre nds G) (hlen : nds.length ≤ 100) (nm : Str) (t : Tok) :
   HeapFn w loose mean mg mb 4 190 [.ref σ.S, .str nm t] [] (sorterLed w σ nds) (fun v n => ∃ (iN : Nat) (aN : NdA) (oN : Obj) (nds' : List NdA), v = .ref aN.x ∧ nds'[iN]? = some aN ∧ aN.nm = nm ∧ SOk w { σ with oD := oN } nds' ∧ NdsAre nds' (ensure G nm) ∧ n = sorterLed w { σ with oD := oN } nds') := by
  unfold HeapFn
  k_fill
  intro dp un gd outer base g s Q E hB hX hT hsz hS hdp hun hret
  refine nameG fun GG hGG => ?_
  obtain ⟨hh, gs, dr, tk, os⟩ := s
  refine hGG ?_; clear hGG GG
  refine wpAny_call ?_
  refine' enterN (g := g) (binds := [(Str.ofString "self", .ref σ.S), (Str.ofString "node", .str nm t)]) ?kX ?kT ?ksz ?kS ?k6 ?k7 ?k8 ?k9 ?kl ?kbn ?_ ?co ?gen ?kd ?kc
  case kX => assumption
  case kT => assumption
  case ksz => first | exact Nat.le_refl _ | assumption
  case kS => first | assumption | exact Sep.nil fun _ _ e => e
  case k6 => k_is
  case k7 => k_is
  case k8 => k_room
  case k9 => first | exact BindsTo.of_eq (by kernel_rfl!) | exact binds_K (by k_in) rfl (by k_is) rfl rfl rfl | fail "enter: no rule for these arguments"
  case kl => exact locs rfl
  case kbn => (simp only [List.map_cons, List.map_nil]; decide +kernel)
  case co => exact rfl
  case gen => exact rfl
  case kd => exact rfl
  case kc => decide
  intro L' m' h₁ tk' F' V' N'
  unfold sorterLed at N'
  have ok' := ok
  obtain ⟨hlo, hdc⟩ := ok
  have hkl : (kvsOf nds).length ≤ 100 := by unfold kvsOf; rw [List.length_map]; exact hlen
  cases hv : valueAt (kvsOf nds) nm with
  | some v =>
    refine nameG fun GG hGG => ?_
    obtain ⟨i, a, hi, hnm, rfl⟩ := value_some hv
    refine hGG ?_; clear hGG GG
    show wpAny _ _ (execs (_ :: _) _) _ _ _
    refine seqG ?_
    intro R' hR'
    refine wpAny_If ?_
    refine wpAny_isTrue_Compare1 ?_
    with_reducible refine wpAny_NamedExpr ?_
    refine MethodCall_ ?_
    with_reducible refine Attribute_Name_ ?_
    refine' nmVq ‹_› ‹_› rfl (by walk_at "g") ?_ (by kernel_rfl)
    k_dflt (refine' getOwnM ‹_› ‹_› (by exact Led.inst ‹_› (by k_mem) (by k_mem)) (by k_is) (by k_is) (by k_is) (by k_is) (by k_get) (by k_handed) ?_; intro _)
    refine dGetMeth (knd := PySem.strKind _ _) (by assumption) (by assumption) (by k_mem) ?_
    refine callWith_method1 ?_
    refine args_cons ?_
    refine' nmVq ‹_› ‹_› rfl (by walk_at "g") ?_ (by kernel_rfl)
    refine args_nil ?_
    try dsimp only [List.cons_append, List.nil_append]
    refine dGet1 (knd := PySem.strKind _ _) (by assumption) (by assumption) (by k_mem) (by assumption) (strKind_is _ _ _ _) _ (by assumption) ?_
    intro _
    try dsimp only [Option.getD]
    with_reducible refine assignNameM ?_
    with_reducible rename Knows _ _ => oldV
    rename Fr _ _ _ _ => oldF
    rename Led _ _ _ _ => oldN
    refine' stVq oldF oldN oldV (by walk_at "m") ?_ rfl (by kernel_rfl)
    intro m' h' tk' F' N' V'
    clear oldF oldN oldV
    walk_at "eval Constant none"
    refine wpAny_is_other (by rfl) (by intro hh; cases hh) ?_
    refine wpAny_truthy_bool ?_
    rw [if_neg Bool.false_ne_true]
    refine wpAny_execs_nil ?_
    refine hR'.next ?_
    clear hR' R'
    refine oneN ?_
    refine wpAny_Return_some ?_
    refine' nmVq ‹_› ‹_› rfl (by walk_at "g") ?_ (by kernel_rfl)
    dsimp only
    refine hret _ _ _ _ ⟨i, a, σ.oD, nds, rfl, hi, hnm, ok', ?_, rfl⟩ (sepOf (by assumption) (by assumption) (List.Sublist.refl _))
    unfold ensure
    rw [if_pos (by rw [← hG.names, ← hnm]; exact List.mem_map_of_mem (List.mem_of_getElem? hi))]
    exact hG
  | none =>
    have hst : ∀ x : Value, stored (kvsOf nds) nm x = kvsOf nds ++ [(nm, x)] := fun x => stored_absent hv x
    show wpAny _ _ (execs (_ :: _) _) _ _ _
    refine seqG ?_
    intro R' hR'
    refine wpAny_If ?_
    refine wpAny_isTrue_Compare1 ?_
    with_reducible refine wpAny_NamedExpr ?_
    refine MethodCall_ ?_
    with_reducible refine Attribute_Name_ ?_
    refine' nmVq ‹_› ‹_› rfl (by walk_at "g") ?_ (by kernel_rfl)
    k_dflt (refine' getOwnM ‹_› ‹_› (by exact Led.inst ‹_› (by k_mem) (by k_mem)) (by k_is) (by k_is) (by k_is) (by k_is) (by k_get) (by k_handed) ?_; intro _)
    refine dGetMeth (knd := PySem.strKind _ _) (by assumption) (by assumption) (by k_mem) ?_
    refine callWith_method1 ?_
    refine args_cons ?_
    refine' nmVq ‹_› ‹_› rfl (by walk_at "g") ?_ (by kernel_rfl)
    refine args_nil ?_
    try dsimp only [List.cons_append, List.nil_append]
    refine dGet1 (knd := PySem.strKind _ _) (by assumption) (by assumption) (by k_mem) (by assumption) (strKind_is _ _ _ _) _ (by assumption) ?_
    intro _
    try dsimp only [Option.getD]
    with_reducible refine assignNameM ?_
    with_reducible rename Knows _ _ => oldV
    rename Fr _ _ _ _ => oldF
    rename Led _ _ _ _ => oldN
    refine' stVq oldF oldN oldV (by walk_at "m") ?_ rfl (by kernel_rfl)
    intro m' h' tk' F' N' V'
    clear oldF oldN oldV
    walk_at "eval Constant none"
    refine wpAny_is_self (by rfl) ?_
    refine wpAny_truthy_bool ?_
    rw [if_pos rfl]
    refine oneN ?_
    refine wpAny_Assign_two ?_
    refine Call_ ?_
    k_dflt (refine' nmK ‹_› ‹_› ‹_› (by k_is) ?_ rfl rfl (by kernel_rfl) (by kernel_rfl))
    k_dflt (refine' callWith_K (by k_asm) (by k_is) ?_)
    refine args_cons ?_
    refine' nmVq ‹_› ‹_› rfl (by walk_at "g") ?_ (by kernel_rfl)
    refine args_nil ?_
    try dsimp only [List.cons_append, List.nil_append]
    refine ⟨by k_in, ?_⟩
    try dsimp only [List.nil_append, List.cons_append]
    rename Fr _ _ _ _ => oldF
    rename Led _ _ _ _ => oldN
    k_dflt (refine' InitFn.use (c_ninit _ _ _ _ _ _ _) oldF oldN ?hX ?hT ?hA ?hr ?hm ?hi ?hf ?_; (case hX => assumption); (case hT => assumption); (case hA => rfl); (case hr => k_room); (case hm => k_is); (case hi => k_is); (case hf => k_is); intro x' dx' h' tk' ft' hft' F' N'; clear oldF oldN; obtain ⟨U', nt', rfl⟩ := hft'; simp only [List.cons_append, List.nil_append] at N')
    with_reducible refine assignSubM ?_
    with_reducible refine Attribute_Name_ ?_
    refine' nmVq ‹_› ‹_› rfl (by walk_at "g") ?_ (by kernel_rfl)
    k_dflt (refine' getOwnM ‹_› ‹_› (by exact Led.inst ‹_› (by k_mem) (by k_mem)) (by k_is) (by k_is) (by k_is) (by k_is) (by k_get) (by k_handed) ?_; intro _)
    refine' nmVq ‹_› ‹_› rfl (by walk_at "g") ?_ (by kernel_rfl)
    rename Fr _ _ _ _ => oldF
    rename Led _ _ _ _ => oldN
    refine' dSet (knd := PySem.strKind _ _) oldF oldN ‹_› (by (intro o'; walk_at "s")) (strKind_is _ _ _ _) (by walk_at "b") ?_
    intro h' oD' tk' F' N' hdict'
    clear oldF oldN
    with_reducible refine assignNameM ?_
    with_reducible rename Knows _ _ => oldV
    rename Fr _ _ _ _ => oldF
    rename Led _ _ _ _ => oldN
    refine' stVq oldF oldN oldV (by walk_at "m") ?_ rfl (by kernel_rfl)
    intro m' h' tk' F' N' V'
    clear oldF oldN oldV
    refine hR'.next ?_
    clear hR' R'
    refine oneN ?_
    refine wpAny_Return_some ?_
    refine' nmVq ‹_› ‹_› rfl (by walk_at "g") ?_ (by kernel_rfl)
    dsimp only
    rename Obj.IsDictOf _ _ (stored _ _ _) => hd2
    rw [hst] at hd2
    have N2 := sepOf F' N' (List.Sublist.refl _)
    refine hret _ _ _ _ ⟨nds.length, ⟨nm, t, x', dx', U', 0, nt', [], 0⟩, oD', nds ++ [⟨nm, t, x', dx', U', 0, nt', [], 0⟩], rfl, by simp, rfl, ⟨hlo, ?_⟩, ?_, rfl⟩ (N2.perm ?_)
    · unfold kvsOf at hd2 ⊢
      rw [List.map_append]; exact hd2
    · unfold ensure
      rw [if_neg (by rw [← hG.names]; exact value_none hv)]
      exact hG.app (.cons ⟨rfl, rfl, .nil⟩ .nil)
    · unfold sorterLed
      rw [nodesLed_app]
      exact (List.perm_append_comm (l₁ := nodeLed ⟨nm, t, x', dx', U', 0, nt', [], 0⟩) (l₂ := (σ.D, oD') :: (σ.S, instObj 247 σ.dS) :: (σ.dS, dictOf (sEs w σ.k1 σ.k2 σ.k3 σ.k4 (.ref σ.D) σ.rdy (.int σ.po σ.pt) (.int σ.nf σ.ft)) σ.e) :: nodesLed nds)).trans (List.Perm.of_eq (by simp [nodesLed]))
end
end
section
open PySem PySem.W PySem.Calls PyProof.Rows
theorem bindV2 {name qual : Str} {body : List Stmt} {scope : Scope} {kV doc pm cdv ct : Value} {an : Option Addr} {r : Arg} {x y : Value} {rest : List Value} {n1 n2 : Option PySem.Expr} {p1 p2 : Pos} :
    bindArgs (fnOf name qual ⟨[], [⟨Str.ofString "self", n1, p1⟩, ⟨Str.ofString "node", n2, p2⟩], some r, [], [], none, []⟩ body scope .none kV doc pm an cdv ct) ⟨x :: y :: rest, []⟩ = (newTuple rest >>= fun t => pure [(Str.ofString "self", x), (Str.ofString "node", y), (r.arg, t)]) := by
  cases rest <;> kernel_rfl
theorem bindV1 {name qual : Str} {body : List Stmt} {scope : Scope} {kV doc pm cdv ct : Value} {an : Option Addr} {r : Arg} {x : Value} {rest : List Value} {n1 : Option PySem.Expr} {p1 : Pos} :
    bindArgs (fnOf name qual ⟨[], [⟨Str.ofString "self", n1, p1⟩], some r, [], [], none, []⟩ body scope .none kV doc pm an cdv ct) ⟨x :: rest, []⟩ = (newTuple rest >>= fun t => pure [(Str.ofString "self", x), (r.arg, t)]) := by
  cases rest <;> kernel_rfl
theorem lenTupM {prog : Program} {w : World} {A : Around} {E : Value → Shared → Prop} {hh : Heap} {gs : Array GenState} {dr : Drawn} {os : OsState} {tk₀ : Nat} {D0 : Addr} {vs : List Value} {Q : Value → Shared → Prop} (ho : hh.get? D0 = some (tupOf vs)) (hz : vs.length ≤ 1000) (h : ∀ t tk, Q (.int (vs.length : Nat) t) ⟨hh, gs, dr, tk, os⟩) : wpAny (model prog w) A (call (.builtin "len") [.ref D0]) Q E ⟨hh, gs, dr, tk₀, os⟩ := by
  refine len_tuple (items := vs.toArray) ⟨_, ho, rfl, _, rfl⟩ ?_ (h _ _)
  simp only [List.size_toArray]; omega
theorem Led.back {h₀ h : Heap} {L : Addr} {x : Addr × Obj} {l : List (Addr × Obj)} (N : Led h₀ L h (x :: l)) : Led h₀ L h (l ++ [x]) := N.perm (List.perm_append_comm (l₁ := [x]) (l₂ := l))
theorem Led.front {h₀ h : Heap} {L : Addr} {x : Addr × Obj} {l : List (Addr × Obj)} (N : Led h₀ L h (l ++ [x])) : Led h₀ L h (x :: l) := N.perm (List.perm_append_comm (l₁ := l) (l₂ := [x]))
theorem nodesLed_cons (a : NdA) (l : List NdA) : nodesLed (a :: l) = (a.U, listOf a.su.toArray a.ep) :: (a.x, ndObj a.dx a.nm a.t a.np a.nt a.U) :: (a.dx, dictOf [] 0) :: nodesLed l := rfl
theorem sorter_split (w : World) (σ : SrA) (pre post : List NdA) (a : NdA) (A : List (Addr × Obj)) : sorterLed w σ (pre ++ a :: post) ++ A =
    (σ.D, σ.oD) :: (σ.S, instObj 247 σ.dS) :: (σ.dS, dictOf (sEs w σ.k1 σ.k2 σ.k3 σ.k4 (.ref σ.D) σ.rdy (.int σ.po σ.pt) (.int σ.nf σ.ft)) σ.e) :: (nodesLed pre ++ ((a.U, listOf a.su.toArray a.ep) :: (a.x, ndObj a.dx a.nm a.t a.np a.nt a.U) :: (a.dx, dictOf [] 0) :: (nodesLed post ++ A))) := by
  unfold sorterLed
  rw [nodesLed_app, nodesLed_cons]
  simp
theorem sorter_open (w : World) (σ : SrA) (nds : List NdA) (A : List (Addr × Obj)) : sorterLed w σ nds ++ A =
    (σ.D, σ.oD) :: (σ.S, instObj 247 σ.dS) :: (σ.dS, dictOf (sEs w σ.k1 σ.k2 σ.k3 σ.k4 (.ref σ.D) σ.rdy (.int σ.po σ.pt) (.int σ.nf σ.ft)) σ.e) :: (nodesLed nds ++ A) := rfl
theorem split_at {α : Type} {l : List α} {i : Nat} {a : α} (h : l[i]? = some a) : ∃ pre post, l = pre ++ a :: post := by
  obtain ⟨hi, e⟩ := List.getElem?_eq_some_iff.mp h
  refine ⟨l.take i, l.drop (i + 1), ?_⟩
  rw [← e, List.getElem_cons_drop hi, List.take_append_drop]
theorem SOk.kv {w : World} {σ : SrA} {nds nds' : List NdA} (h : SOk w σ nds) (e : kvsOf nds' = kvsOf nds) : SOk w σ nds' := ⟨h.lo, e ▸ h.dict⟩
theorem kvsOf_mid {pre post : List NdA} {a a' : NdA} (h1 : a'.nm = a.nm) (h2 : a'.x = a.x) : kvsOf (pre ++ a' :: post) = kvsOf (pre ++ a :: post) := by
  unfold kvsOf; simp [h1, h2]
noncomputable def modG (G : Gr) (nm : Str) (f : Int → List Str → Int × List Str) : Gr := G.map fun p => if p.1 = nm then (p.1, f p.2.1 p.2.2) else p
theorem modG_names (G : Gr) (nm : Str) (f : Int → List Str → Int × List Str) : (modG G nm f).map (·.1) = G.map (·.1) := by
  unfold modG
  rw [List.map_map]
  refine List.map_congr_left fun p _ => ?_
  show (if p.1 = nm then (p.1, f p.2.1 p.2.2) else p).1 = p.1
  split <;> rfl
theorem modG_off {G : Gr} {nm : Str} {f : Int → List Str → Int × List Str} (h : nm ∉ G.map (·.1)) : modG G nm f = G := by
  unfold modG
  refine (List.map_congr_left fun p hp => ?_).trans (List.map_id _)
  rw [if_neg (fun e : p.1 = nm => h (by rw [← e]; exact List.mem_map_of_mem (f := fun q : Str × Int × List Str => q.1) hp))]; rfl
theorem NdsAre.split {pre post : List NdA} {a : NdA} {G : Gr} (h : NdsAre (pre ++ a :: post) G) : ∃ G1 p G2, G = G1 ++ p :: G2 ∧ NdsAre pre G1 ∧ NdIs a p ∧ NdsAre post G2 := by
  induction pre generalizing G with
  | nil => cases h with | cons x r => exact ⟨[], _, _, rfl, .nil, x, r⟩
  | cons b l ih =>
    cases h with
    | cons x r =>
      obtain ⟨G1, p, G2, rfl, h1, h2, h3⟩ := ih r
      exact ⟨_ :: G1, p, G2, rfl, .cons x h1, h2, h3⟩
theorem NdsAre.mod {pre post : List NdA} {a a' : NdA} {G : Gr} (h : NdsAre (pre ++ a :: post) G) (hn : (G.map (·.1)).Nodup) {f : Int → List Str → Int × List Str} (hf : ∀ p, NdIs a p → NdIs a' (p.1, f p.2.1 p.2.2)) : NdsAre (pre ++ a' :: post) (modG G a.nm f) := by
  obtain ⟨G1, p, G2, rfl, h1, h2, h3⟩ := h.split
  rw [List.map_append, List.map_cons, List.nodup_append, List.nodup_cons] at hn
  obtain ⟨_, ⟨n2, _⟩, n3⟩ := hn
  have e : modG (G1 ++ p :: G2) a.nm f = G1 ++ (p.1, f p.2.1 p.2.2) :: G2 := by
    have e1 := modG_off (f := f) (G := G1) (nm := a.nm) (fun hm => n3 _ hm p.1 (.head _) h2.nm)
    have e2 := modG_off (f := f) (G := G2) (nm := a.nm) (fun hm => n2 (h2.nm ▸ hm))
    unfold modG at e1 e2 ⊢
    rw [List.map_append, List.map_cons, e1, e2, if_pos h2.nm.symm]
  rw [e]
  exact h1.app (.cons (hf p h2) h3)
theorem ensure_names (G : Gr) (nm : Str) : (ensure G nm).map (·.1) = if nm ∈ G.map (·.1) then G.map (·.1) else G.map (·.1) ++ [nm] := by
  unfold ensure; split <;> simp
theorem ensure_nodup {G : Gr} (h : (G.map (·.1)).Nodup) (nm : Str) : ((ensure G nm).map (·.1)).Nodup := by
  rw [ensure_names]
  split
  · exact h
  · rename_i q
    rw [List.nodup_append]
    exact ⟨h, by simp, fun a ha b hb e => by simp at hb; subst hb; exact q (e ▸ ha)⟩
theorem ensure_len (G : Gr) (nm : Str) : (ensure G nm).length ≤ G.length + 1 := by unfold ensure; split <;> simp
theorem modG_len (G : Gr) (nm : Str) (f : Int → List Str → Int × List Str) : (modG G nm f).length = G.length := by unfold modG; simp
noncomputable def bump (G : Gr) (nm : Str) (k : Int) : Gr := modG G nm fun n s => (n + k, s)
noncomputable def follow (G : Gr) (nm s : Str) : Gr := modG G nm fun n l => (n, l ++ [s])
noncomputable def addF (nm : Str) (G : Gr) (q : Str) : Gr := follow (ensure G q) q nm
noncomputable def addG (G : Gr) (nm : Str) (ps : List Str) : Gr := ps.foldl (addF nm) (bump (ensure G nm) nm ps.length)
noncomputable def short (G : Gr) (n : Nat) : Prop := ∀ p ∈ G, p.2.2.length ≤ n
theorem short_ensure {G : Gr} {n : Nat} (h : short G n) (nm : Str) : short (ensure G nm) n := by
  unfold ensure
  split
  · exact h
  · intro p hp
    rcases List.mem_append.mp hp with q | q
    · exact h p q
    · simp at q; subst q; exact Nat.zero_le _
theorem short_mod {G : Gr} {n n' : Nat} (h : short G n) (nm : Str) {f : Int → List Str → Int × List Str} (hn : n ≤ n') (hf : ∀ i l, l.length ≤ n → (f i l).2.length ≤ n') : short (modG G nm f) n' := by
  intro p hp
  unfold modG at hp
  obtain ⟨q, hq, rfl⟩ := List.mem_map.mp hp
  have := h q hq
  show (if q.1 = nm then (q.1, f q.2.1 q.2.2) else q).2.2.length ≤ n'
  split
  · exact hf _ _ this
  · exact Nat.le_trans this hn
theorem short_addF {G : Gr} {n : Nat} (h : short G n) (nm q : Str) : short (addF nm G q) (n + 1) :=
  by
  unfold addF follow
  exact short_mod (f := fun n l => (n, l ++ [nm])) (short_ensure h q) q (Nat.le_succ _) fun i l hl => by show (l ++ [nm]).length ≤ _; rw [List.length_append]; exact Nat.succ_le_succ hl
theorem short_addFs (nm : Str) : ∀ (ps : List Str) {G : Gr} {n : Nat}, short G n → short (ps.foldl (addF nm) G) (n + ps.length)
  | [], _, _, h => h
  | q :: r, G, n, h => by
    have := short_addFs nm r (short_addF h nm q)
    rw [List.length_cons, show n + (r.length + 1) = n + 1 + r.length from by lia]; exact this
theorem short_bump {G : Gr} {n : Nat} (h : short G n) (nm : Str) (k : Int) : short (bump G nm k) n := by
  unfold bump
  exact short_mod (f := fun n s => (n + k, s)) h nm (Nat.le_refl _) fun _ _ hl => hl
theorem short_addG {G : Gr} {n : Nat} (h : short G n) (nm : Str) (ps : List Str) : short (addG G nm ps) (n + ps.length) := short_addFs nm ps (short_bump (short_ensure h nm) nm _)
theorem NdsAre.short {pre post : List NdA} {a : NdA} {G : Gr} {n : Nat} (h : NdsAre (pre ++ a :: post) G) (s : short G n) : a.su.length ≤ n := by
  obtain ⟨G1, p, G2, rfl, _, h2, _⟩ := h.split
  rw [strs_len h2.su]
  exact s p (List.mem_append_right _ (.head _))
theorem addF_nodup {G : Gr} (h : (G.map (·.1)).Nodup) (nm q : Str) : ((addF nm G q).map (·.1)).Nodup := by unfold addF follow; rw [modG_names]; exact ensure_nodup h q
theorem addF_len (nm : Str) (G : Gr) (q : Str) : (addF nm G q).length ≤ G.length + 1 := by unfold addF follow; rw [modG_len]; exact ensure_len G q
theorem addFs_nodup (nm : Str) : ∀ (ps : List Str) {G : Gr}, (G.map (·.1)).Nodup → ((ps.foldl (addF nm) G).map (·.1)).Nodup
  | [], _, h => h
  | q :: r, _, h => addFs_nodup nm r (addF_nodup h nm q)
theorem addFs_len (nm : Str) : ∀ (ps : List Str) (G : Gr), (ps.foldl (addF nm) G).length ≤ G.length + ps.length
  | [], G => Nat.le_refl _
  | q :: r, G => by
    have h1 := addFs_len nm r (addF nm G q)
    have h2 := addF_len nm G q
    rw [List.foldl_cons, List.length_cons]; lia
theorem addG_nodup {G : Gr} (h : (G.map (·.1)).Nodup) (nm : Str) (ps : List Str) : ((addG G nm ps).map (·.1)).Nodup := addFs_nodup nm ps (by unfold bump; rw [modG_names]; exact ensure_nodup h nm)
end
section
open PySem PySem.W PySem.Calls PyProof.Rows
theorem SOk.re {w : World} {σ σ' : SrA} {nds : List NdA} (h : SOk w σ nds) (h1 : σ'.D = σ.D) (h2 : σ'.oD = σ.oD) : SOk w σ' nds := ⟨h1 ▸ h.lo, h2 ▸ h.dict⟩
section
variable {prog : Program} {w : World} {A : Around} {h₀ hh : Heap} {L : Addr} {m : Str → Option Value} {news news' : List (Addr × Obj)} {E : Value → Shared → Prop} {gs : Array GenState} {dr : Drawn} {os : OsState} {tk₀ : Nat}
theorem truthyListM {D : Addr} {vs : List Value} {ep : Nat} {Q : Bool → Shared → Prop} (ho : hh.get? D = some (listOf vs.toArray ep)) (hz : vs.length ≤ 1000) (h : ∀ tk, Q (!vs.isEmpty) ⟨hh, gs, dr, tk, os⟩) : wpAny (model prog w) A (truthy (.ref D)) Q E ⟨hh, gs, dr, tk₀, os⟩ := by
  refine wpAny_truthy_list (items := vs.toArray) ⟨_, ho, rfl, _, rfl⟩ (by simp only [List.size_toArray]; omega) ?_
  rw [show vs.toArray.isEmpty = vs.isEmpty by simp]
  exact h _
theorem boolListM {D : Addr} {vs : List Value} {ep : Nat} {Q : Value → Shared → Prop} (ho : hh.get? D = some (listOf vs.toArray ep)) (hz : vs.length ≤ 1000) (h : ∀ tk, Q (.bool (!vs.isEmpty)) ⟨hh, gs, dr, tk, os⟩) : wpAny (model prog w) A (call (.type "bool") [.ref D]) Q E ⟨hh, gs, dr, tk₀, os⟩ := by
  refine call_bool_1 (S := fun _ R s => s.heap.get? D = some (listOf vs.toArray ep) ∧ ∀ tk, R (.ok (.ret (.bool (!vs.isEmpty)))) { s with toks := tk }) (Meets.of_wp fun prog w A R s hs => ?_) ⟨ho, fun tk => ⟨rfl, h tk⟩⟩
  obtain ⟨hp, g, d, tk, os⟩ := s
  have f1 := F.conv_sub_bool
  have key : ∀ (A : Around) (Q : Bool → Shared → Prop) (E : Value → Shared → Prop) tk, (∀ tk, Q (!vs.isEmpty) ⟨hp, g, d, tk, os⟩) → wpAny (model prog w) A (truthy (.ref D)) Q E ⟨hp, g, d, tk, os⟩ := fun A Q E tk h => truthyListM hs.1 hz h
  unfold Builtin.«bool.__new__»
  refine wpAny_bind (m := isType _) (wpAny_of_eq (a := true) (by first | rfl | kernel_rfl!) ?_)
  refine wpAny_bind (m := isSubtype _ _) ?_
  rw [f1]
  refine wpAny_pure ?_
  refine wpAny_bind (m := someArgs "bool" 0 1 _) (wpAny_of_eq (a := [Value.ref D]) (by first | rfl | kernel_rfl!) ?_)
  refine wpAny_bind (key _ _ _ _ fun tk => ?_)
  exact wpAny_pure ⟨_, rfl, hs.2 tk⟩
theorem Upd.of {D : Addr} {o o' : Obj} (N : Led h₀ L hh news) (e : SetAt D o o' news news') : Upd D o o' news news' := e.upd N.nd
theorem clearM {D : Addr} {vs : List Value} {ep : Nat} {Q : Value → Shared → Prop} (F : Fr h₀ L hh m) (N : Led h₀ L hh news) (e : SetAt D (listOf vs.toArray ep) (listOf (List.toArray []) (ep + 1)) news news') (hne : vs.length ≠ 0) (hz : vs.length ≤ 1000)
    (h : ∀ h', Fr h₀ L h' m → Led h₀ L h' news' → Q .none ⟨h', gs, dr, tk₀, os⟩) : wpAny (model prog w) A (call (.builtin "list.clear") [.ref D]) Q E ⟨hh, gs, dr, tk₀, os⟩ :=
  kl_clear (its := vs.toArray) F N.N (e.upd N.nd) (by simpa using hne) (by have : sizeLine = 16777216 := rfl; simp; lia) fun h' F' N' => h h' F' ⟨N', e.keys ▸ N.nd⟩
theorem tupleOfM {D : Addr} {vs : List Value} {ep : Nat} {Q : Value → Shared → Prop} (F : Fr h₀ L hh m) (N : Led h₀ L hh news) (ho : hh.get? D = some (listOf vs.toArray ep)) (hz : vs.length ≤ 1000)
    (h : ∀ T h', Fr h₀ L h' m → Led h₀ L h' ((T, tupOf vs) :: news) → Q (.ref T) ⟨h', gs, dr, tk₀, os⟩) : wpAny (model prog w) A (call (.type "tuple") [.ref D]) Q E ⟨hh, gs, dr, tk₀, os⟩ := by
  refine call_tuple_list (items := vs.toArray) ⟨_, ho, rfl, _, rfl⟩ (fun h' hk => ?_) (by have : sizeLine = 16777216 := rfl; rw [List.size_toArray]; lia)
  have hn := newAddr (keepFr F hk) (keepLed N hk)
  refine h _ _ (keepFr F fun b o e => push_keep _ _ _ _ (hk b o e)) ?_
  have N1 := keepLed N (h' := h'.push (tupOf vs)) fun b o e => push_keep _ _ _ _ (hk b o e)
  exact ⟨fun q hq => by
    rcases List.mem_cons.mp hq with rfl | hq
    · exact ⟨Heap.get?_push_size _ rfl, hn.1, hn.2.1⟩
    · exact N1.N q hq, List.nodup_cons.mpr ⟨hn.2.2, N1.nd⟩⟩
end
theorem put_rdy {w : World} {k1 k2 k3 k4 : Tok} {a b c d v kv : Value} {h : Int} {n : Nat} : (putL (Str.ofString "_ready_nodes") h kv v (sEs w k1 k2 k3 k4 a b c d), putN (Str.ofString "_ready_nodes") (sEs w k1 k2 k3 k4 a b c d) n) = (sEs w k1 k2 k3 k4 a v c d, n) := by with_unfolding_all rfl
theorem put_po {w : World} {k1 k2 k3 k4 : Tok} {a b c d v kv : Value} {h : Int} {n : Nat} : (putL (Str.ofString "_npassedout") h kv v (sEs w k1 k2 k3 k4 a b c d), putN (Str.ofString "_npassedout") (sEs w k1 k2 k3 k4 a b c d) n) = (sEs w k1 k2 k3 k4 a b v d, n) := by with_unfolding_all rfl
theorem put_nf {w : World} {k1 k2 k3 k4 : Tok} {a b c d v kv : Value} {h : Int} {n : Nat} : (putL (Str.ofString "_nfinished") h kv v (sEs w k1 k2 k3 k4 a b c d), putN (Str.ofString "_nfinished") (sEs w k1 k2 k3 k4 a b c d) n) = (sEs w k1 k2 k3 k4 a b c v, n) := by with_unfolding_all rfl
end
section
open PySem PySem.W PySem.Calls PyProof.Rows
theorem value_has {nds : List NdA} {nm : Str} (h : nm ∈ nds.map (·.nm)) : ∃ (pre post : List NdA) (ndA : NdA), nds = pre ++ ndA :: post ∧ ndA.nm = nm ∧ valueAt (kvsOf nds) nm = some (.ref ndA.x) := by
  cases e : valueAt (kvsOf nds) nm with
  | none => exact absurd h (value_none e)
  | some v =>
    obtain ⟨i, ndA, hi, hn, rfl⟩ := value_some e
    obtain ⟨pre, post, hp⟩ := split_at hi
    exact ⟨pre, post, ndA, hp, hn, rfl⟩
noncomputable def passF (G : Gr) (q : Str) : Gr := modG G q fun _ s => (-1, s)
theorem passF_names (G : Gr) (q : Str) : (passF G q).map (·.1) = G.map (·.1) := modG_names _ _ _
theorem passFs_names : ∀ (l : List Str) (G : Gr), (l.foldl passF G).map (·.1) = G.map (·.1)
  | [], _ => rfl
  | q :: r, G => by rw [List.foldl_cons, passFs_names r, passF_names]
noncomputable def skel (G : Gr) : List (Str × List Str) := G.map fun p => (p.1, p.2.2)
noncomputable def npOf (G : Gr) (q : Str) : Int := ((G.find? fun p => p.1 == q).map (·.2.1)).getD 0
noncomputable def suOf (G : Gr) (q : Str) : List Str := (((skel G).find? fun p => p.1 == q).map (·.2)).getD []
theorem skel_names (G : Gr) : (skel G).map (·.1) = G.map (·.1) := by unfold skel; rw [List.map_map]; rfl
theorem skel_mod (G : Gr) (q : Str) (f : Int → Int) : skel (modG G q fun n l => (f n, l)) = skel G := by
  unfold skel modG
  rw [List.map_map]
  refine List.map_congr_left fun p _ => ?_
  show ((if p.1 = q then (p.1, f p.2.1, p.2.2) else p).1, (if p.1 = q then (p.1, f p.2.1, p.2.2) else p).2.2) = _
  split <;> rfl
theorem suOf_skel {G G' : Gr} (h : skel G = skel G') (q : Str) : suOf G q = suOf G' q := by unfold suOf; rw [h]
theorem names_skel {G G' : Gr} (h : skel G = skel G') : G.map (·.1) = G'.map (·.1) := by rw [← skel_names, h, skel_names]
theorem find_mid {α : Type} {l1 l2 : List α} {x : α} {p : α → Bool} (h : ∀ y ∈ l1, p y = false) (hx : p x = true) : (l1 ++ x :: l2).find? p = some x := by
  rw [List.find?_append, List.find?_eq_none.mpr (fun y hy => by rw [h y hy]; simp), List.find?_cons_of_pos hx]; rfl
theorem NdsAre.np {pre post : List NdA} {a : NdA} {G : Gr} (h : NdsAre (pre ++ a :: post) G) (hn : (G.map (·.1)).Nodup) : npOf G a.nm = a.np := by
  obtain ⟨G1, p, G2, rfl, _, h2, _⟩ := h.split
  rw [List.map_append, List.map_cons, List.nodup_append] at hn
  unfold npOf
  rw [find_mid (x := p) (fun y hy => ?_) (by simp [h2.nm])]
  · exact h2.np.symm
  · refine beq_false_of_ne fun e => hn.2.2 y.1 (List.mem_map_of_mem hy) p.1 (.head _) ?_
    rw [e, h2.nm]
theorem NdsAre.suO {pre post : List NdA} {a : NdA} {G : Gr} (h : NdsAre (pre ++ a :: post) G) (hn : (G.map (·.1)).Nodup) : StrsAre a.su (suOf G a.nm) := by
  obtain ⟨G1, p, G2, rfl, _, h2, _⟩ := h.split
  rw [List.map_append, List.map_cons, List.nodup_append] at hn
  unfold suOf skel
  rw [List.map_append, List.map_cons, find_mid (x := (p.1, p.2.2)) (fun y hy => ?_) (by simp [h2.nm])]
  · exact h2.su
  · obtain ⟨z, hz, rfl⟩ := List.mem_map.mp hy
    refine beq_false_of_ne fun e => hn.2.2 z.1 (List.mem_map_of_mem hz) p.1 (.head _) ?_
    rw [← h2.nm, ← e]
noncomputable def relaxS (st : Gr × List Str) (s : Str) : Gr × List Str := (modG st.1 s fun n l => (n - 1, l), if npOf (modG st.1 s fun n l => (n - 1, l)) s = 0 then st.2 ++ [s] else st.2)
noncomputable def finF (st : Gr × List Str) (q : Str) : Gr × List Str := (suOf st.1 q).foldl relaxS (modG st.1 q fun _ l => (-2, l), st.2)
theorem relaxS_skel (st : Gr × List Str) (s : Str) : skel (relaxS st s).1 = skel st.1 := skel_mod st.1 s fun n => n - 1
theorem relaxs_skel : ∀ (l : List Str) (st : Gr × List Str), skel (l.foldl relaxS st).1 = skel st.1
  | [], _ => rfl
  | s :: r, st => by rw [List.foldl_cons, relaxs_skel r, relaxS_skel]
theorem finF_skel (st : Gr × List Str) (q : Str) : skel (finF st q).1 = skel st.1 := by unfold finF; rw [relaxs_skel, skel_mod]
theorem finFs_skel : ∀ (l : List Str) (st : Gr × List Str), skel (l.foldl finF st).1 = skel st.1
  | [], _ => rfl
  | s :: r, st => by rw [List.foldl_cons, finFs_skel r, finF_skel]
theorem relaxS_len (st : Gr × List Str) (s : Str) : (relaxS st s).2.length ≤ st.2.length + 1 := by
  unfold relaxS
  dsimp only
  split
  · rw [List.length_append]; exact Nat.le_refl _
  · exact Nat.le_succ _
theorem relaxs_len : ∀ (l : List Str) (st : Gr × List Str), (l.foldl relaxS st).2.length ≤ st.2.length + l.length
  | [], _ => Nat.le_refl _
  | s :: r, st => by
    have h1 := relaxs_len r (relaxS st s)
    have h2 := relaxS_len st s
    rw [List.foldl_cons, List.length_cons]; lia
theorem short_su {G : Gr} {n : Nat} (h : short G n) (q : Str) : (suOf G q).length ≤ n := by
  unfold suOf
  cases e : (skel G).find? fun p => p.1 == q with
  | none => exact Nat.zero_le _
  | some p =>
    obtain ⟨z, hz, rfl⟩ := List.mem_map.mp (List.mem_of_find?_eq_some e)
    exact h z hz
theorem finFs_len {n : Nat} : ∀ (l : List Str) (st : Gr × List Str), (∀ q, (suOf st.1 q).length ≤ n) → (l.foldl finF st).2.length ≤ st.2.length + l.length * n
  | [], _, _ => by simp
  | q :: r, st, h => by
    have h1 := finFs_len (n := n) r (finF st q) (fun q' => by rw [suOf_skel (finF_skel st q)]; exact h q')
    have h2 := relaxs_len (suOf st.1 q) (modG st.1 q fun _ l => (-2, l), st.2)
    have h3 := h q
    rw [List.foldl_cons, List.length_cons, Nat.succ_mul]
    have h4 : (finF st q).2.length ≤ st.2.length + n := Nat.le_trans h2 (Nat.add_le_add_left h3 _)
    lia
end
section
open PySem PySem.W PySem.Calls PyProof.Rows
noncomputable def liOf (l : Addr) (i : Nat) : Obj := { cls := .type "list_iterator", data := .fields #[.ref l, .int i 0] }
noncomputable def mwOf (it : Addr) : Obj := { cls := .type "method-wrapper", data := .fields #[.builtin "list_iterator.__next__", .ref it] }
structure NewStop (h h' : Heap) (e : Addr) : Prop where
  keeps : ∀ b o, h.get? b = some o → h'.get? b = some o
  new : h.get? e = none
  there : ∃ ob vs a0, h'.get? e = some ob ∧ ob.cls = .type "StopIteration" ∧ ob.data = .fields vs ∧ vs[1]? = some .none ∧ vs[0]? = some a0
namespace MW
theorem slot_get : Slot "wrapper_descriptor" "__get__" "wrapper_descriptor.__get__" :=
  .of (owner := "wrapper_descriptor") (n := "__get__") (by rw [typeLookup_type, builtinLookup_eq_fast]; kernel_rfl) (by decide +kernel) (by decide +kernel) (by decide +kernel)
    (by first | exact .inl (by decide +kernel) | exact .inr (by decide +kernel)) (by rw [isSubtype_type]; kernel_rfl)
theorem entry_get : entryFor table "wrapper_descriptor.__get__" = some Builtin.«wrapper_descriptor.__get__» := entryFor_of_tree (by kernel_rfl)
theorem args_get (a b c : Value) : argsOk "wrapper_descriptor.__get__" ⟨[a, b, c], []⟩ := by unfold argsOk; kernel_rfl
theorem type_next : typeOf (.builtin "list_iterator.__next__") = pure (.type "wrapper_descriptor") := by show builtinType _ = _; rw [builtinType_eq_fast]; kernel_rfl
theorem sub_li : isSubtype (.type "list_iterator") (.type "list_iterator") = pure true := by rw [isSubtype_type]; kernel_rfl
section
variable {prog : Program} {w : World} {M : Model} {A : Around} {E : Value → Shared → Prop} {hh : Heap} {gs : Array GenState} {dr : Drawn} {os : OsState} {tk₀ : Nat} {it l : Addr} {i : Nat}
theorem run_get {P : Fin → Shared → Prop} (hi : hh.get? it = some (liOf l i)) (h : P (.done (.ret (.ref hh.objs.size))) ⟨hh.push (mwOf it), gs, dr, tk₀, os⟩) :
    wpAny M A (Builtin.«wrapper_descriptor.__get__» ⟨[.builtin "list_iterator.__next__", .ref it, .type "list_iterator"], []⟩) P E ⟨hh, gs, dr, tk₀, os⟩ := by
  have hT : ∀ s : Shared, s.heap = hh → s.TypeIs (.ref it) "list_iterator" := fun s e => ⟨_, e ▸ hi, rfl⟩
  unfold Builtin.«wrapper_descriptor.__get__»
  refine wpAny_bind (wpAny_of_eq (a := (.builtin "list_iterator.__next__", some (.ref it), some (.type "list_iterator"))) (by first | rfl | kernel_rfl) ?_)
  dsimp only
  refine wpAny_bind (m := (kfb_private% "checkInstance") _ _) ?_
  refine wpAny_bind (m := (kfb_private% "nameAndClass") _) (wpAny_of_eq (a := (Str.ofString "__next__", .type "list_iterator")) (by first | rfl | kernel_rfl) ?_)
  dsimp only
  refine wpAny_bind (wpAny_isInstance (T := "list_iterator") (b := true) ⟨_, hi, rfl⟩ sub_li ?_)
  rw [if_neg (by decide)]
  refine wpAny_pure ?_
  exact wpAny_bind (wpAny_newObj_type (wpAny_pure h))
theorem get_lookup : typeLookup (.type "wrapper_descriptor") "__get__" = pure (some (.builtin "wrapper_descriptor.__get__")) := by rw [typeLookup_type, builtinLookup_eq_fast]; kernel_rfl
theorem set_lookup : typeLookup (.type "wrapper_descriptor") "__set__" = pure none := by rw [typeLookup_type, builtinLookup_eq_fast]; kernel_rfl
theorem del_lookup : typeLookup (.type "wrapper_descriptor") "__delete__" = pure none := by rw [typeLookup_type, builtinLookup_eq_fast]; kernel_rfl
theorem meets_next (a l : Addr) (i : Nat) (u : Tok) : Meets (Builtin.«object.__getattribute__» ⟨[.ref a, .str (Str.ofString "__next__") u], []⟩) (fun _ R s => s.heap.get? a = some (liOf l i) ∧ R (.ok (.ret (.ref s.heap.objs.size))) { s with heap := s.heap.push (mwOf a) }) :=
  Meets.of_wp fun prog w A R s hs => by
    refine nameG fun GG hGG => ?_
    obtain ⟨hp, g, d, tk, os⟩ := s
    obtain ⟨hx, hs⟩ := hs
    refine hGG ?_; clear hGG GG
    have hT : (⟨hp, g, d, tk, os⟩ : Shared).TypeIs (.ref a) "list_iterator" := ⟨_, hx, rfl⟩
    have f1 := slot_listiter_next.lookup
    have f2 := type_next
    have f3 := get_lookup
    have f4 := set_lookup
    have f5 := del_lookup
    have hx' : hp.get? a = some { cls := .type "list_iterator", dict := none, data := .fields #[.ref l, .int i 0], slots := #[] } := hx
    unfold Builtin.«object.__getattribute__»
    repeat (any_goals (first | assumption | wp_step))
    exact codeAny_call_builtin slot_get.plain entry_get (slot_get.check _ _ _ _ _ _ _ _ f2 (args_get _ _ _) (run_get hx' (wpAny_pure ⟨_, rfl, hs⟩)))
theorem slot_ga : Slot "list_iterator" "__getattribute__" "object.__getattribute__" :=
  .of (owner := "object") (n := "__getattribute__") (by rw [typeLookup_type, builtinLookup_eq_fast]; kernel_rfl) (by decide +kernel) (by decide +kernel) (by decide +kernel)
    (by first | exact .inl (by decide +kernel) | exact .inr (by decide +kernel)) (by rw [isSubtype_type]; kernel_rfl)
theorem getNext {expr : Bool} {Q : Value → Shared → Prop} (hi : hh.get? it = some (liOf l i)) (h : ∀ tk, Q (.ref hh.objs.size) ⟨hh.push (mwOf it), gs, dr, tk, os⟩) : wpAny (model prog w) A (getAttr (.ref it) (Str.ofString "__next__") expr) Q E ⟨hh, gs, dr, tk₀, os⟩ := by
  have hT : ∀ tk', (⟨hh, gs, dr, tk', os⟩ : Shared).TypeIs (.ref it) "list_iterator" := fun _ => ⟨_, hi, rfl⟩
  have f3 := slot_ga.lookup
  have f4 := slot_ga.bind (.ref it)
  have hi0 := hi
  have hi' : hh.get? it = some { cls := .type "list_iterator", dict := none, data := .fields #[.ref l, .int i 0], slots := #[] } := hi
  clear hi
  unfold getAttr getAttrBy
  repeat (any_goals (first | assumption | exact hT _ | ((with_reducible show wpAny _ _ (call (Value.builtin "object.__getattribute__") _ _) _ _ _); refine call_meets slot_ga (hT _) PySem.F.entry_object_getattribute (PySem.F.args_object_getattribute_2 _ _) (meets_next it l i _) ⟨hi0, ?_⟩) | wp_step))
  rw [if_neg (by cases expr <;> exact Bool.false_ne_true)]
  unfold boundAndCalled
  repeat (any_goals (first | assumption | exact hT _ | ((with_reducible show wpAny _ _ (call (Value.builtin "object.__getattribute__") _ _) _ _ _); refine call_meets slot_ga (hT _) PySem.F.entry_object_getattribute (PySem.F.args_object_getattribute_2 _ _) (meets_next it l i _) ⟨hi0, ?_⟩) | wp_step))
  show wpAny _ _ (handedOut _) _ _ _
  exact wpAny_pure (h _)
theorem check_next : checkBoundCall "list_iterator.__next__" ⟨[.ref it], []⟩ = pure () := by first | kernel_rfl | rfl
theorem call_mw {x : Addr} {Q : Value → Shared → Prop} (hx : hh.get? x = some (mwOf it)) (h : wpAny (model prog w) A.in1 (Builtin.«list_iterator.__next__» ⟨[.ref it], []⟩) (fun fin s' => ∃ r, fin = .done (.ret r) ∧ Q r s') E ⟨hh, gs, dr, tk₀, os⟩) :
    wpAny (model prog w) A (call (.ref x) []) Q E ⟨hh, gs, dr, tk₀, os⟩ := by
  refine wpAny_call (codeAny_of_tree ?_)
  show wpAny _ A.in1 (callAny (.ref x) ⟨[], []⟩) _ _ _
  refine wpAny_bind (m := load x) (wpAny_load hx ?_)
  show wpAny _ _ (if (Value.type "method-wrapper" == Value.type "method" || Value.type "method-wrapper" == Value.type "builtin_function_or_method" || Value.type "method-wrapper" == Value.type "method-wrapper") = true then _ else _) _ _ _
  rw [if_pos (by decide)]
  refine KFB.if_so (show (Value.type "method-wrapper" != Value.type "method") = true by decide) ?_
  refine wpAny_bind (wpAny_of_eq (a := ()) check_next ?_)
  refine wpAny_bind (wpAny_pure (wpAny_pure ?_))
  refine ⟨Code.quiet_builtin _ (by decide +kernel), codeAny_builtin entry_listiter_next ?_⟩
  rw [Around.under_plainId (by decide +kernel)]
  exact wpAny_mono h (fun fin s' z => by obtain ⟨r, rfl, z⟩ := z; exact z) fun _ _ z => z
theorem next_item {Q : Fin → Shared → Prop} {vs : List Value} {ep : Nat} {x : Value} (hi : hh.get? it = some (liOf l i)) (hl : hh.get? l = some (listOf vs.toArray ep)) (hx : vs[i]? = some x)
    (h : ∀ h', h'.get? it = some (liOf l (i + 1)) → Heap.SameBut it hh h' → Q (.done (.ret x)) ⟨h', gs, dr, tk₀, os⟩) : wpAny M A (Builtin.«list_iterator.__next__» ⟨[.ref it], []⟩) Q E ⟨hh, gs, dr, tk₀, os⟩ := by
  have hx' : vs.toArray[i]? = some x := by simpa using hx
  show wpAny _ _ (field (.ref it) 0 >>= _) _ _ _
  refine wpAny_bind (wpAny_field hi rfl (x := .ref l) rfl ?_)
  show wpAny _ _ (if (Value.ref l == Value.none) = true then _ else _) _ _ _
  rw [if_neg (show ¬ ((Value.ref l == Value.none) = true) from Bool.false_ne_true)]
  show wpAny _ _ (field (.ref it) 1 >>= _) _ _ _
  refine wpAny_bind (wpAny_field hi rfl (x := .int i 0) rfl ?_)
  show wpAny _ _ (seqItems? (.ref l) >>= _) _ _ _
  refine wpAny_bind (wpAny_seqItems hl rfl ?_)
  simp only [Int.toNat_natCast, hx']
  refine wpAny_bind (wpAny_setField hi rfl (by simp) (wpAny_pure (h _ ?_ (Heap.SameBut.update ..))))
  rw [Heap.get?_update_self _ hi (Obj.isFreed_of_fields (Obj.data_mapFields rfl _))]
  simp [liOf, Obj.mapFields, rawInt]
theorem next_end {Q : Fin → Shared → Prop} {vs : List Value} {ep : Nat} (hA : A.handled = none) (hi : hh.get? it = some (liOf l i)) (hl : hh.get? l = some (listOf vs.toArray ep)) (hx : vs[i]? = none)
    (h : ∀ hm h' e o', hm.get? it = some o' → Heap.SameBut it hh hm → NewStop hm h' e → E (.ref e) ⟨h', gs, dr, tk₀, os⟩) : wpAny M A (Builtin.«list_iterator.__next__» ⟨[.ref it], []⟩) Q E ⟨hh, gs, dr, tk₀, os⟩ := by
  have hx' : vs.toArray[i]? = none := by simpa using hx
  show wpAny _ _ (field (.ref it) 0 >>= _) _ _ _
  refine wpAny_bind (wpAny_field hi rfl (x := .ref l) rfl ?_)
  show wpAny _ _ (if (Value.ref l == Value.none) = true then _ else _) _ _ _
  rw [if_neg (show ¬ ((Value.ref l == Value.none) = true) from Bool.false_ne_true)]
  show wpAny _ _ (field (.ref it) 1 >>= _) _ _ _
  refine wpAny_bind (wpAny_field hi rfl (x := .int i 0) rfl ?_)
  show wpAny _ _ (seqItems? (.ref l) >>= _) _ _ _
  refine wpAny_bind (wpAny_seqItems hl rfl ?_)
  simp only [Int.toNat_natCast, hx']
  refine wpAny_bind (wpAny_rule (wpAny_bind (wpAny_setField hi rfl (by simp) ?_)))
  show wpAny _ _ (newExc (.type "StopIteration") [] >>= _) _ _ _
  refine wpAny_bind ?_
  unfold newExc newTuple
  refine wpAny_bind (wpAny_newObj_type ?_ (by size_fits))
  refine wpAny_bind (m := firstArgMember _ _) (wpAny_of_eq (a := Value.none) (by first | rfl | (simp only [firstArgMember]; rfl)) ?_)
  refine wpAny_newObj_type ?_ (by size_fits)
  unfold raiseNew
  refine wpAny_bind (wpAny_handled ?_)
  rw [hA]
  refine wpAny_bind (wpAny_pure (wpAny_throw ?_))
  refine h (hh.update it (Obj.mapFields (·.setIfInBounds 0 .none))) _ _ _ (Heap.get?_update_self _ hi (Obj.isFreed_of_fields (Obj.data_mapFields rfl _))) (Heap.SameBut.update ..) ⟨fun b o q => Heap.get?_push_of_some _ (Heap.get?_push_of_some _ q), Heap.get?_none_of_le (by rw [Heap.size_push]; exact Nat.le_succ _), ⟨_, _, _, Heap.get?_push_size _ rfl, rfl, rfl, rfl, rfl⟩⟩
end
end MW
section
variable {prog : Program} {w : World} {A₀ : Around} {E : Value → Shared → Prop} {s' : Shared} {base g g₀ h : Heap} {outer : List Env} {L a e : Addr} {m : Str → Option Value} {name : Str} {scope : Scope} {cd : Value}
  {b₀ : Stmt} {suite : List Stmt} {pos np : Pos} {rest : List ExceptHandler} {Q : Flow → Shared → Prop} {news : List (Addr × Obj)} {KF : Frag}
  {p : Program} {loose : List Str} {mean : ExcName → Option Value} {mg mb : Str → Option Value} {x : Str} {T' : String}
theorem caught_own (hx0 : NewStop h s'.heap e) (F : Fr g L h m) (N : News g L h news) (K : Below A₀ base outer g) (XB : KF.In base) (TB : Top p loose mean mg mb base)
    (D : KtsDicts (outer.filterMap (·.frame)) g) (T0 : KtsTurn (outer.filterMap (·.frame)) g₀ g)
    (ex : nsIn KF mainGlobals x = some none) (hv : bootBuiltins x = some (.type T')) (hn' : x ≠ "__name__")
    (hexc : isSubtype (.type T') (.type "BaseException") = pure true) (hnt : isSubtype (.type ((Manifest.find? T').elim "type" fun y => y.metatype)) (.type "tuple") = pure false) (hsub : isSubtype (.type "StopIteration") (.type T') = pure true)
    (k : ∀ h' g', KtsTurn (outer.filterMap (·.frame)) g₀ g' → Fr g' L h' m → News g' L h' news → Below A₀ base outer g' → KF.In g' → Top p loose mean mg mb g' → KtsDicts (outer.filterMap (·.frame)) g' →
      wpAny (model prog w) ((A₀.deeper (envOf name scope L a cd)).mark (some (.ref e))) (execs (b₀ :: suite) (envOf name scope L a cd)) Q E { s' with heap := h' })
    (hk : scope.kind = .function := by rfl) (hx : (envOf name scope L a cd).kindOf x = some .globalImplicit := by rfl) (hd : (x == ("__debug__" : Str)) = false := by decide)
    (hE : PassesOwnAt (model prog w) ((A₀.deeper (envOf name scope L a cd)).mark (some (.ref e))) (A₀.deeper (envOf name scope L a cd)) (envOf name scope L a cd) E := by passes_own) :
    wpAny (model prog w) (A₀.deeper (envOf name scope L a cd)) (noteFrame (.ref e) (envOf name scope L a cd))
      (fun _ s₂ => wpAny (model prog w) (A₀.deeper (envOf name scope L a cd)) (setFlight (.ref e) none) (fun _ s₃ =>
        wpAny (model prog w) (A₀.deeper (envOf name scope L a cd)) (handleBy (.ref e) (envOf name scope L a cd) (.ExceptHandler (some (.Name x np)) none (b₀ :: suite) pos :: rest)) Q E s₃) E s₂) E s' := by
  have K' := K.push (name := name) (a := a) (cd := cd) F hk
  have hin : ∀ env ∈ (envOf name scope L a cd :: outer), ∀ b, env.frame = some b → b ∈ (envOf name scope L a cd :: outer).filterMap (·.frame) := fun env he b hb => List.mem_filterMap.mpr ⟨env, he, hb⟩
  have hB : base.StaysIn (hideAll h ((envOf name scope L a cd :: outer).filterMap (·.frame))) := fun b o q => hideAll_get _ (K'.stays b o q) fun hm => by
    rw [(K'.frames.mem hm).1] at q; cases q
  have hBh : ∀ b o, h.get? b = some o → b ∉ (envOf name scope L a cd :: outer).filterMap (·.frame) → (hideAll h ((envOf name scope L a cd :: outer).filterMap (·.frame))).get? b = some o := fun b o q nm => hideAll_get _ q nm
  have hl : ∀ q ∈ news, (hideAll h ((envOf name scope L a cd :: outer).filterMap (·.frame))).get? q.1 = some q.2 ∧ g.get? q.1 = none ∧ q.1 ≠ L := fun q hq => by
    refine ⟨hideAll_get _ (N q hq).1 fun hm => ?_, (N q hq).2.2, (N q hq).2.1⟩
    obtain ⟨env, he, hf⟩ := List.mem_filterMap.mp hm
    rcases List.mem_cons.mp he with rfl | he
    · exact (N q hq).2.1 (Option.some.inj hf).symm
    · obtain ⟨o, ho, _⟩ := (K.frames.mem (List.mem_filterMap.mpr ⟨env, he, hf⟩)).2
      rw [(N q hq).2.2] at ho; cases ho
  refine nameG fun GG hGG => ?_
  obtain ⟨ob, vs, a0, he, hcls, hdt, h1, h0⟩ := hx0.there
  refine hGG ?_; clear hGG GG
  have hen : (hideAll h ((envOf name scope L a cd :: outer).filterMap (·.frame))).get? e = none := by
    cases q : (hideAll h ((envOf name scope L a cd :: outer).filterMap (·.frame))).get? e with
    | none => rfl
    | some o => have := of_hideAll _ q; rw [hx0.new] at this; cases this
  have hff : s'.heap.FunFrames (hideAll h ((envOf name scope L a cd :: outer).filterMap (·.frame))) (envOf name scope L a cd :: outer) := (funFrames_hide K'.frames hin).of_keeps fun b o hb _ => ⟨o, hx0.keeps b o hb, rfl⟩
  have hkb : (hideAll h ((envOf name scope L a cd :: outer).filterMap (·.frame))).StaysIn s'.heap := fun b o hb => hx0.keeps b o (of_hideAll _ hb)
  generalize hideAll h ((envOf name scope L a cd :: outer).filterMap (·.frame)) = B at *
  unfold noteFrame
  have hf : (envOf name scope L a cd).frame = some L := rfl
  simp only [hf]
  refine wpAny_bind (wpAny_field he hdt h1 ?_)
  rw [if_neg (by decide)]
  refine wpAny_newEntryW (base := B) K'.stack hff hf he hkb hen hdt (Array.getElem?_eq_some_iff.mp h1).1 h0 fun h₅ hL => ?_
  refine nameG fun GG hGG => ?_
  obtain ⟨k1, k2, k3, k4⟩ := hL
  refine hGG ?_; clear hGG GG
  have hheld : Heap.FlyingW B (envOf name scope L a cd :: outer) e (.type "StopIteration") a0 h₅ := ⟨k1, hen, k2, by rw [← hcls]; exact k3⟩
  have hsm : h.UpToSlots h₅ := (Heap.UpToSlots.of_keeps hx0.keeps).trans k4
  refine nameG fun GG hGG => ?_
  obtain ⟨g₅, T₅, F₅, K₅⟩ := kts_ground K F hBh k1 hsm
  refine hGG ?_; clear hGG GG
  have X₅ : KF.In g₅ := XB.keeps K₅.stays
  have P₅ : TopRead p loose mg mb g₅ := topRead_of (TB.keeps K₅.stays)
  obtain ⟨ob5, hob, hobc⟩ := hheld.there
  refine wpAny_handleBy_builtin (X := "StopIteration") (T := T') (b := true) hexc hnt hsub (name_B F₅ X₅ P₅ ex hv hn' ⟨rfl, ⟨ob5, hob, hobc⟩, ?_⟩ hk hx hd)
  refine lands_againW hheld fun h₆ hfl₆ hsm₆ => ?_
  refine nameG fun GG hGG => ?_
  obtain ⟨g₆, T₆, F₆, K₆⟩ := kts_ground K F hBh hfl₆.1 (hsm.trans hsm₆)
  refine hGG ?_; clear hGG GG
  have Nl : News g₆ L h₆ news := fun q hq => ⟨hfl₆.1 _ _ (hl q hq).1, (hl q hq).2.2, T₆.none_ _ (hl q hq).2.1⟩
  have X₆ : KF.In g₆ := XB.keeps K₆.stays
  have P₆ : Top p loose mean mg mb g₆ := TB.keeps K₆.stays
  have D₆ : KtsDicts (outer.filterMap (·.frame)) g₆ := D.turn T₆
  exact wpAny_passesOwnAt hE (k h₆ g₆ (T0.trans T₆) F₆ Nl K₆ X₆ P₆ D₆)
end
end
section
open PySem PySem.W PySem.Calls PyProof.Rows
noncomputable abbrev frs (outer : List Env) : List Addr := outer.filterMap (·.frame)
noncomputable def TurnFn (w : World) (loose : List Str) (mean : ExcName → Option Value) (mg mb : Str → Option Value) (k : Nat) (f : Addr) (pos : List Value) (kw : List (Str × Value)) (foot : List (Addr × Obj)) (ok : Value → List (Addr × Obj) → Prop) : Prop :=
  ∀ (dp un : Nat) (gd : Option (List Code)) (outer : List Env) (base g : Heap) (s : Shared) (Q E : Value → Shared → Prop),
    Below (topA dp un gd outer) base outer g → (hd.heap_39 w.params).In base → Top hd.view_39 loose mean mg mb base → KtsDicts (frs outer) g → g.objs.size ≤ s.heap.objs.size → Sep g s.heap foot →
    dp + k < recursionLimit → un + 8 * k < cLine →
    (∀ (v : Value) (h' g' : Heap) (tk' : Nat) (foot' : List (Addr × Obj)), ok v foot' → KtsTurn (frs outer) g g' → Sep g' h' foot' → Q v ⟨h', s.gens, s.drawn, tk', s.os⟩) →
    wpAny (model PySem.Challenge.rw_oy0258_01.row.prog w) (topA dp un gd outer) (call (.ref f) pos kw) Q E s
theorem turn_below {A : Around} {base g g' : Heap} {outer : List Env} (B : Below A base outer g) (T : KtsTurn (frs outer) g g') : Below A base outer g' :=
  ⟨B.stack, fun b o e => T.other b o (B.stays b o e) (fun hm => by rw [(B.frames.mem hm).1] at e; cases e), B.frames.of_keeps fun b o e _ => by
    obtain ⟨sl, hs⟩ := T.up e
    exact ⟨_, hs, rfl⟩⟩
theorem turn_upTo {fs : List Addr} {g g' : Heap} (T : KtsTurn fs g g') : g.UpToSlots g' := fun b o e _ => T.up e
theorem frameDict {h₀ h : Heap} {L : Addr} {m : Str → Option Value} (F : Fr h₀ L h m) : ∃ o es n, h.get? L = some o ∧ o.data = .dict es n := by
  refine nameG fun GG hGG => ?_
  obtain ⟨o, es, ep, e, hd, _⟩ := F.ns
  refine hGG ?_; clear hGG GG
  exact ⟨o, _, _, e, hd⟩
theorem frs_cons {env : Env} {outer : List Env} {L : Addr} (hf : env.frame = some L) : frs (env :: outer) = L :: frs outer := by
  unfold frs
  rw [List.filterMap_cons, hf]
theorem turned {A : Around} {base h₀ gr gr' : Heap} {outer : List Env} {env : Env} {L : Addr} {m : Str → Option Value} {R : List (Addr × Obj)} (B : Below A base outer h₀) (D : KtsDicts (frs outer) h₀) (hf : env.frame = some L) (F : Fr h₀ L gr m) (N : Led h₀ L gr R) (T : KtsTurn (frs (env :: outer)) gr gr') :
    ∃ h₁, KtsTurn (frs outer) h₀ h₁ ∧ Fr h₁ L gr' m ∧ Led h₁ L gr' R := by
  rw [frs_cons hf] at T
  have hL : h₀.get? L = none := kts_self F
  have off : ∀ b, h₀.get? b = none → b ∉ frs outer := fun b e hm => by
    refine nameG fun GG hGG => ?_
    obtain ⟨_, o, ho, _⟩ := B.frames.mem hm
    refine hGG ?_; clear hGG GG
    rw [e] at ho; cases ho
  obtain ⟨T₁, S₁⟩ := kts_turn_at (h := gr') (fs := frs outer) (g := h₀)
    (fun b hb => by obtain ⟨_, o, ho, _⟩ := B.frames.mem hb; exact ⟨o, ho⟩)
    (fun b o e nm => T.other b o (F.keep b o e) (fun hm => by
      rcases List.mem_cons.mp hm with z | z
      · rw [z, hL] at e; cases e
      · exact nm z))
    (fun b o e hm => T.frame b o (F.keep b o e) (.tail _ hm))
  refine ⟨_, T₁, ⟨(turn_upTo T).ns F.ns, S₁, by rw [T₁.size]; exact F.above⟩, ⟨fun q hq => ⟨T.other _ _ (N.N q hq).1 (fun hm => ?_), (N.N q hq).2.1, T₁.none_ _ (N.N q hq).2.2⟩, N.nd⟩⟩
  rcases List.mem_cons.mp hm with z | z
  · exact (N.N q hq).2.1 z
  · exact off _ (N.N q hq).2.2 z
section
variable {w : World} {loose : List Str} {mean : ExcName → Option Value} {mg mb : Str → Option Value}
theorem TurnFn.use {k : Nat} {f : Addr} {pos : List Value} {kw : List (Str × Value)} {foot A : List (Addr × Obj)} {ok : Value → List (Addr × Obj) → Prop}
    (C : TurnFn w loose mean mg mb k f pos kw foot ok) {dp un : Nat} {gd : Option (List Code)} {outer : List Env} {base h₀ : Heap} {L : Addr} {m : Str → Option Value} {hh : Heap} {g : Array GenState} {dr : Drawn} {tk₀ : Nat} {os : OsState} {Q E : Value → Shared → Prop} {env : Env}
    (B : Below (topA dp un gd outer) base outer h₀) (F : Fr h₀ L hh m) (X : (hd.heap_39 w.params).In base) (T : Top hd.view_39 loose mean mg mb base) (D : KtsDicts (frs outer) h₀) (N : Led h₀ L hh (foot ++ A))
    (hdp : dp + (k + 1) < recursionLimit) (hu : un + 8 * (k + 1) < cLine)
    (h : ∀ (v : Value) (h' h₁ : Heap) (tk' : Nat) (foot' : List (Addr × Obj)), ok v foot' → KtsTurn (frs outer) h₀ h₁ → Below (topA dp un gd outer) base outer h₁ → KtsDicts (frs outer) h₁ → (hd.heap_39 w.params).In h₁ → Top hd.view_39 loose mean mg mb h₁ → Fr h₁ L h' m → Led h₁ L h' (foot' ++ A) → Q v ⟨h', g, dr, tk', os⟩)
    (hf : env.frame = some L) (hck : env.scope.kind = .function) :
    wpAny (model PySem.Challenge.rw_oy0258_01.row.prog w) ((topA dp un gd outer).deeper env) (call (.ref f) pos kw) Q E ⟨hh, g, dr, tk₀, os⟩ := by
  refine nameG fun GG hGG => ?_
  obtain ⟨gr, Fg, Ng, S, hsz, _⟩ := openG F N
  refine hGG ?_; clear hGG GG
  refine C (dp + 1) (un + 3) gd (env :: outer) base gr ⟨hh, g, dr, tk₀, os⟩ Q E (pushX B Fg hf hck) X T ?_ (Nat.le_of_eq hsz) S (by lia) (by lia) fun v h' gr' tk' foot' o T' S' => ?_
  · intro b hb
    rw [frs_cons hf] at hb
    rcases List.mem_cons.mp hb with rfl | hb
    · exact frameDict Fg
    · refine nameG fun GG hGG => ?_
      obtain ⟨o, es, n, ho, hdd⟩ := D b hb
      refine hGG ?_; clear hGG GG
      exact ⟨o, es, n, Fg.keep _ _ ho, hdd⟩
  · refine nameG fun GG hGG => ?_
    obtain ⟨h₁, T₁, F₁, N₁⟩ := turned B D hf Fg Ng T'
    refine hGG ?_; clear hGG GG
    have B₁ := turn_below B T₁
    exact h v h' h₁ tk' foot' o T₁ B₁ (D.turn T₁) (X.keeps B₁.stays) (T.keeps B₁.stays) (closeG F₁ N₁ S').1 (closeG F₁ N₁ S').2
end
end
section
open PySem PySem.W PySem.Calls PyProof.Rows
noncomputable def FPostT (L : Addr) (gs : Array GenState) (dr : Drawn) (os : OsState) (own : Addr × Obj) (Jn : Heap → (Str → Option Value) → List (Addr × Obj) → Prop) (s₃ : Shared) : Prop :=
  ∃ g' h' tk' m' R news₂, s₃ = ⟨h', gs, dr, tk', os⟩ ∧ Fr g' L h' m' ∧ Led g' L h' R ∧ (own :: news₂).Sublist R ∧ Jn g' m' news₂
theorem FPostT.intro {L : Addr} {gs : Array GenState} {dr : Drawn} {os : OsState} {own : Addr × Obj} {Jn : Heap → (Str → Option Value) → List (Addr × Obj) → Prop} {g' h' : Heap} {tk' : Nat} {m' : Str → Option Value} {R : List (Addr × Obj)} (news₂ : List (Addr × Obj))
    (F : Fr g' L h' m') (N : Led g' L h' R) (hs : (own :: news₂).Sublist R) (j : Jn g' m' news₂) : FPostT L gs dr os own Jn ⟨h', gs, dr, tk', os⟩ := ⟨g', h', tk', m', R, news₂, rfl, F, N, hs, j⟩
structure SrcT (prog : Program) (w : World) (A : Around) (L : Addr) (hh : Heap) (I : Addr) (n : Nat) (P : Nat → Value → Prop) (fx : List (Addr × Obj)) : Prop where
  ex : ∃ (fp : List Addr) (St : Nat → Heap → Prop), Walks prog w A I fp [I] n P St ∧ St 0 hh ∧ (∀ i h, St i h → ∃ o, h.get? I = some o) ∧ I ≠ L ∧ (∀ b ∈ fp, b ≠ I → ∃ o, (b, o) ∈ fx ∧ hh.get? b = some o)
section
variable {prog : Program} {w : World} {A : Around} {E : Value → Shared → Prop} {env : Env} {iter : PySem.Expr} {x : Str} {px pos : Pos} {s : Shared}
theorem for_coreT {body : List Stmt} {h₀ hh : Heap} {L I : Addr} {n : Nat} {P : Nat → Value → Prop} {m : Str → Option Value} {news fx : List (Addr × Obj)} {gs : Array GenState} {dr : Drawn} {os : OsState} {tk₀ : Nat} {R : Result → Shared → Prop}
    {Jt : Value → (Str → Option Value) → List (Addr × Obj) → (Str → Option Value) → List (Addr × Obj) → Prop}
    (S : SrcT prog w A L hh I n P fx) (F : Fr h₀ L hh m) (N : Led h₀ L hh news) (hI0 : h₀.get? I = none) (hIn : I ∉ news.map (·.1)) (J : Nat → Heap → (Str → Option Value) → List (Addr × Obj) → Prop) (j0 : J 0 h₀ m news)
    (hfx : ∀ i g m news, J i g m news → ∀ q ∈ fx, q ∈ news) (ST : ∀ g, FStore prog w A env x g L Jt)
    (step : ∀ i v g m news₁ m' news' it h tk, i < n → P i v → J i g m news₁ → Jt v m news₁ m' news' → Fr g L h m' → Led g L h ((I, it) :: news') →
      wpAny (model prog w) A (execs body env) (fun f s₃ => match f with | .next | .cont => FPostT L gs dr os (I, it) (J (i + 1)) s₃ | .brk => R (.ok .next) s₃ | .ret v => R (.ok (.ret v)) s₃) (fun _ _ => False) ⟨h, gs, dr, tk, os⟩)
    (hR : ∀ g h' tk m' news', Fr g L h' m' → Led g L h' news' → J n g m' news' → R (.ok .next) ⟨h', gs, dr, tk, os⟩) :
    codeAny (model prog w) A (.forLoop (.Name x px) (.ref I) body [] env) R ⟨hh, gs, dr, tk₀, os⟩ := by
  refine nameG fun GG hGG => ?_
  obtain ⟨fp, St, W, st0, has, hIL, hfp⟩ := S.ex
  refine hGG ?_; clear hGG GG
  refine codeAny_forLoop (fun k s' => ∃ i g h tk m news, s' = ⟨h, gs, dr, tk, os⟩ ∧ k = n + 1 - i ∧ i ≤ n ∧ St i h ∧ Fr g L h m ∧ Led g L h news ∧ g.get? I = none ∧ I ∉ news.map (·.1) ∧ J i g m news) ?_ (n + 1) ⟨0, h₀, hh, tk₀, m, news, rfl, rfl, Nat.zero_le _, st0, F, N, hI0, hIn, j0⟩
  intro k s' z1
  refine nameG fun GG hGG => ?_
  obtain ⟨i, g, h, tk, m, news, rfl, rfl, hi, st, F, N, hI0, hIn, j⟩ := z1
  refine hGG ?_; clear hGG GG
  have nx : ∀ h1 : Heap, (∀ b o, b ∉ [I] → h.get? b = some o → h1.get? b = some o) → Fr g L h1 m ∧ Led g L h1 news := fun h1 hk1 => by
    refine ⟨⟨F.ns.at' fun o e => hk1 _ o (by simp only [List.mem_singleton]; exact fun e => hIL e.symm) e, fun b o e => hk1 b o (by simp only [List.mem_singleton]; rintro rfl; rw [hI0] at e; cases e) (F.keep b o e), F.above⟩, ⟨fun q hq => ⟨hk1 _ _ (by simp only [List.mem_singleton]; rintro e; exact hIn (e ▸ List.mem_map_of_mem hq)) (N.N q hq).1, (N.N q hq).2⟩, N.nd⟩⟩
  by_cases hlt : i < n
  · refine W.item i _ _ _ hlt st fun v h1 tk1 hP st1 hk1 => ?_
    refine nameG fun GG hGG => ?_
    obtain ⟨F1, N1⟩ := nx h1 hk1
    obtain ⟨it, hit⟩ := has _ _ st1
    refine hGG ?_; clear hGG GG
    have N1' : Led g L h1 ((I, it) :: news) := Led.cons (fun q hq => by
      rcases List.mem_cons.mp hq with rfl | hq
      · exact ⟨hit, hIL, hI0⟩
      · exact N1.N q hq) N1.nd fun q hq e => hIn (by have := List.mem_map_of_mem (f := fun q : Addr × Obj => q.1) hq; rwa [show q.1 = I from e] at this)
    refine wpAny_assign_Name (ST g v m news h1 gs dr _ os _ _ I it F1 N1' fun m' news' h2 tk2 jt F2 N2 => ?_)
    refine wpAny_noRaise (wpAny_mono (step i v g m news m' news' it h2 tk2 hlt hP j jt F2 N2) (fun f s₃ q => ?_) fun _ _ e => e)
    have fin : FPostT L gs dr os (I, it) (J (i + 1)) s₃ → ∃ m, m < n + 1 - i ∧ ∃ i g h tk m_1 news, s₃ = ⟨h, gs, dr, tk, os⟩ ∧ m = n + 1 - i ∧ i ≤ n ∧ St i h ∧ Fr g L h m_1 ∧ Led g L h news ∧ g.get? I = none ∧ I ∉ news.map (·.1) ∧ J i g m_1 news := by
      intro z2
      refine nameG fun GG hGG => ?_
      obtain ⟨g3, h3, tk3, m3, R3, news3, rfl, F3, N3, hs, j3⟩ := z2
      refine hGG ?_; clear hGG GG
      have N3' := Led.sub N3 hs
      refine ⟨n + 1 - (i + 1), by lia, i + 1, g3, h3, tk3, m3, news3, rfl, rfl, hlt, ?_, F3, N3'.tail, (N3'.N _ (.head _)).2.2, fun hm => ?_, j3⟩
      · refine W.frame _ _ _ st1 fun b hb o e => ?_
        by_cases hbI : b = I
        · subst hbI
          rw [hit] at e; cases e
          exact (N3'.N _ (.head _)).1
        · obtain ⟨o2, hm2, _⟩ := hfp b hb hbI
          have h5 := hfx _ _ _ _ j _ hm2
          rw [(N1.N _ h5).1] at e; cases e
          exact (N3'.tail.N _ (hfx _ _ _ _ j3 _ hm2)).1
      · obtain ⟨q, hq, e⟩ := List.mem_map.mp hm
        exact N3'.off q hq e
    cases f with
    | next => exact fin q
    | cont => exact fin q
    | brk => exact q
    | ret v => exact q
  · have hin : i = n := by lia
    subst hin
    refine W.done _ _ _ st fun h1 tk1 hk1 => wpAny_execs_nil ?_
    obtain ⟨F1, N1⟩ := nx h1 hk1
    exact hR g h1 tk1 m news F1 N1 j
noncomputable def ForT (prog : Program) (w : World) (A : Around) (env : Env) (x : Str) (body : List Stmt) (Q : Flow → Shared → Prop) (it : Value) (s₂ : Shared) : Prop :=
  ∀ px E, ∃ I, it = .ref I ∧ codeAny (model prog w) A (.forLoop (.Name x px) (.ref I) body [] env) (fun r s' => match r with | .ok f => Q f s' | .error e => cameBackBy (model prog w) A env E e s') s₂
theorem forTM {body : List Stmt} {Q : Flow → Shared → Prop} (h : wpAny (model prog w) A (eval iter env) (fun xv s₁ => wpAny (model prog w) A (pyIter xv) (ForT prog w A env x body Q) E s₁) E s)
    (hs : ∀ x, foldedSetIterable iter env x = pure x) : wpAny (model prog w) A (exec (.For (.Name x px) iter body [] pos) env) Q E s := by
  refine wpAny_For (wpAny_mono h (fun xv s₁ h₁ => wpAny_mono h₁ (fun it s₂ h₂ => ?_) fun _ _ e => e) fun _ _ e => e) hs
  obtain ⟨I, rfl, c⟩ := h₂ px E
  exact c
noncomputable def WPostT (L : Addr) (gs : Array GenState) (dr : Drawn) (os : OsState) (J : Nat → Heap → (Str → Option Value) → List (Addr × Obj) → Prop) (n : Nat) (s₃ : Shared) : Prop :=
  ∃ g' h' tk' m' R news₂ k, s₃ = ⟨h', gs, dr, tk', os⟩ ∧ Fr g' L h' m' ∧ Led g' L h' R ∧ news₂.Sublist R ∧ k < n ∧ J k g' m' news₂
theorem WPostT.intro {L : Addr} {gs : Array GenState} {dr : Drawn} {os : OsState} {J : Nat → Heap → (Str → Option Value) → List (Addr × Obj) → Prop} {n : Nat} {g' h' : Heap} {tk' : Nat} {m' : Str → Option Value} {R : List (Addr × Obj)} (news₂ : List (Addr × Obj)) (k : Nat)
    (F : Fr g' L h' m') (N : Led g' L h' R) (hs : news₂.Sublist R) (hk : k < n) (j : J k g' m' news₂) : WPostT L gs dr os J n ⟨h', gs, dr, tk', os⟩ := ⟨g', h', tk', m', R, news₂, k, rfl, F, N, hs, hk, j⟩
theorem whileT {test : PySem.Expr} {body orelse : List Stmt} {Q : Flow → Shared → Prop} {h₀ hh : Heap} {L : Addr} {m : Str → Option Value} {news : List (Addr × Obj)} {gs : Array GenState} {dr : Drawn} {os : OsState} {tk₀ : Nat} (J : Nat → Heap → (Str → Option Value) → List (Addr × Obj) → Prop) (n₀ : Nat)
    (F : Fr h₀ L hh m) (N : Led h₀ L hh news) (j0 : J n₀ h₀ m news)
    (turn : ∀ n g m news h tk, Fr g L h m → Led g L h news → J n g m news → wpAny (model prog w) A (isTrue test env (eval test env)) (fun b s₂ =>
      if b = true then wpAny (model prog w) A (execs body env) (fun f s₃ => match f with | .next | .cont => WPostT L gs dr os J n s₃ | .brk => Q .next s₃ | .ret v => Q (.ret v) s₃) (fun _ _ => False) s₂
      else wpAny (model prog w) A (execs orelse env) Q (fun _ _ => False) s₂) (fun _ _ => False) ⟨h, gs, dr, tk, os⟩) :
    wpAny (model prog w) A (exec (.While test body orelse pos) env) Q E ⟨hh, gs, dr, tk₀, os⟩ := by
  refine wpAny_While (codeAny_whileLoop (fun n s' => ∃ g h tk m news, s' = ⟨h, gs, dr, tk, os⟩ ∧ Fr g L h m ∧ Led g L h news ∧ J n g m news) ?_ n₀ ⟨h₀, hh, tk₀, m, news, rfl, F, N, j0⟩)
  intro n s' z3
  refine nameG fun GG hGG => ?_
  obtain ⟨g, h, tk, m, news, rfl, F, N, j⟩ := z3
  refine hGG ?_; clear hGG GG
  refine wpAny_noRaise (wpAny_mono (turn n g m news h tk F N j) (fun b s₂ q => ?_) fun _ _ e => e)
  cases b with
  | false =>
    rw [if_neg (by decide)] at q ⊢
    exact wpAny_noRaise (wpAny_mono q (fun f s₃ q => q) fun _ _ e => e)
  | true =>
    rw [if_pos rfl] at q ⊢
    refine wpAny_noRaise (wpAny_mono q (fun f s₃ q => ?_) fun _ _ e => e)
    have fin : WPostT L gs dr os J n s₃ → ∃ k, k < n ∧ ∃ g h tk m news, s₃ = ⟨h, gs, dr, tk, os⟩ ∧ Fr g L h m ∧ Led g L h news ∧ J k g m news := by
      intro z4
      refine nameG fun GG hGG => ?_
      obtain ⟨g3, h3, tk3, m3, R3, news3, k, rfl, F3, N3, hs, hk, j3⟩ := z4
      refine hGG ?_; clear hGG GG
      exact ⟨k, hk, g3, h3, tk3, m3, news3, rfl, F3, N3.sub hs, j3⟩
    cases f with
    | next => exact fin q
    | cont => exact fin q
    | brk => exact q
    | ret v => exact q
end
end
section
open PySem PySem.W PySem.Calls PyProof.Rows
theorem Led.new {h₀ h h' : Heap} {L D : Addr} {o : Obj} {news : List (Addr × Obj)} (N : News h₀ L h' ((D, o) :: news)) (nd : (news.map (·.1)).Nodup) (lt : ∀ p ∈ news, p.1 < D) : Led h₀ L h' ((D, o) :: news) :=
  ⟨N, List.nodup_cons.mpr ⟨fun hm => by
    obtain ⟨q, hq, e⟩ := List.mem_map.mp hm
    have := lt q hq
    rw [show q.1 = D from e] at this
    exact absurd this (Nat.lt_irrefl _), nd⟩⟩
section
variable {prog : Program} {w : World} {A : Around} {h₀ hh : Heap} {L : Addr} {m : Str → Option Value} {news news' : List (Addr × Obj)} {E : Value → Shared → Prop} {gs : Array GenState} {dr : Drawn} {os : OsState} {tk₀ : Nat}
theorem setNewM {Q : Value → Shared → Prop} (F : Fr h₀ L hh m) (N : Led h₀ L hh news) (h : ∀ D h' o, Fr h₀ L h' m → Led h₀ L h' ((D, o) :: news) → Obj.SetObjOf (PySem.strKind prog w) o (fun _ => false) 0 → Q (.ref D) ⟨h', gs, dr, tk₀, os⟩) :
    wpAny (model prog w) A (call (.type "set") []) Q E ⟨hh, gs, dr, tk₀, os⟩ :=
  kse_new F N.N fun D h' _ F' N' lt _ hs => h D h' _ F' (Led.new (h := hh) N' N.nd lt) hs
variable {d : Addr} {o : Obj} {S : Str → Bool} {n : Nat} {q : Str} {t : Tok}
theorem setGetM {pl : Sem Bool} {Q : Value × List Value → Shared → Prop} (N : Led h₀ L hh news) (hm : (d, o) ∈ news) (hs : Obj.SetObjOf (PySem.strKind prog w) o S n) (hb : n < scanBound) (h : Q (.builtin "set.add", [.ref d]) ⟨hh, gs, dr, tk₀, os⟩) :
    wpAny (model prog w) A (getMethod (.ref d) "add" pl) Q E ⟨hh, gs, dr, tk₀, os⟩ :=
  getMethod_set_add (hs.setOf (N.N _ hm).1 hb) h
theorem setInM {Q : Value → Shared → Prop} (N : Led h₀ L hh news) (hm : (d, o) ∈ news) (hs : Obj.SetObjOf (PySem.strKind prog w) o S n) (hb : n < scanBound) {b : Bool} (hv : S q = b) (h : ∀ tk, Q (.bool b) ⟨hh, gs, dr, tk, os⟩) :
    wpAny (model prog w) A (compareOp .In (.str q t) (.ref d)) Q E ⟨hh, gs, dr, tk₀, os⟩ :=
  wpAny_inSet_of (strKind_is _ _ _ _) rfl (hs.setOf (N.N _ hm).1 hb) (by rw [hv]; exact h _)
theorem setAddM {g : Obj → List (Addr × Obj)} {Q : Value → Shared → Prop} (F : Fr h₀ L hh m) (N : Led h₀ L hh news) (hs : Obj.SetObjOf (PySem.strKind prog w) o S n) (U : ∀ o', SetAt d o o' news (g o')) (hb : n + 1 < scanBound)
    (h : ∀ h' o' tk, Fr h₀ L h' m → Led h₀ L h' (g o') → o'.SetObjOf (PySem.strKind prog w) (fun k' => S k' || decide (k' = q)) (if S q then n else n + 1) → Q .none ⟨h', gs, dr, tk, os⟩) :
    wpAny (model prog w) A (call (.builtin "set.add") [.ref d, .str q t]) Q E ⟨hh, gs, dr, tk₀, os⟩ := by
  have hm := N.N (d, o) (U o).mem
  refine call_set_add (strKind_is _ _ _ _) rfl (hs.setOf hm.1 (by lia)) hb fun h' hsb hS => ?_
  obtain ⟨o', ho', hs'⟩ := hS.objOf
  have := N.set F (U o') hsb ho'
  exact h h' o' _ this.1 this.2 hs'
theorem delM {kvs : List (Str × Value)} {g : Obj → List (Addr × Obj)} {Q : Unit → Shared → Prop} (F : Fr h₀ L hh m) (N : Led h₀ L hh news) (hd : o.IsDictOf (PySem.strKind prog w) kvs) (U : ∀ o', SetAt d o o' news (g o')) (hsz : kvs.length ≤ 1000) (hv : (valueAt kvs q).isSome = true)
    (h : ∀ h' o' tk, Fr h₀ L h' m → Led h₀ L h' (g o') → o'.IsDictOf (PySem.strKind prog w) (without kvs q) → Q () ⟨h', gs, dr, tk, os⟩) :
    wpAny (model prog w) A (delItem (.ref d) (.str q t)) Q E ⟨hh, gs, dr, tk₀, os⟩ := by
  have hm := N.N (d, o) (U o).mem
  have hD := Heap.dictOf_iff.mpr ⟨o, hm.1, hd⟩
  refine wpAny_delItem_slot hD.typeIs (by decide) PySem.F.slot_dict_delitem ?_
  refine call_meetsIn PySem.F.slot_dict_delitem hD.typeIs PySem.F.entry_dict_delitem (PySem.F.args_dict_delitem_2 _ _) (meets_dict_delitem_pairs (PySem.strKind prog w) d (strKind_is _ _ _ _)) ⟨kvs, hD, by have : sizeLine = 16777216 := rfl; lia, hv, fun h' hm' hs' => ?_⟩
  obtain ⟨o', ho', hd'⟩ := Heap.dictOf_iff.mp hm'
  have := N.set F (U o') hs' ho'
  exact h h' o' _ this.1 this.2 hd'
theorem popM {D : Addr} {vs : List Value} {ep : Nat} {y : Value} {Q : Value → Shared → Prop} (F : Fr h₀ L hh m) (N : Led h₀ L hh news) (e : SetAt D (listOf (List.toArray (vs ++ [y])) ep) (listOf vs.toArray (ep + 1)) news news') (hz : vs.length ≤ 1000)
    (h : ∀ h', Fr h₀ L h' m → Led h₀ L h' news' → Q y ⟨h', gs, dr, tk₀, os⟩) : wpAny (model prog w) A (call (.builtin "list.pop") [.ref D]) Q E ⟨hh, gs, dr, tk₀, os⟩ := by
  have hl : ∀ (l : List Value) (x : Value), kl_last (l ++ [x]) = some (l, x) := by
    intro l
    induction l with
    | nil => intro x; rfl
    | cons a r ih =>
      intro x
      have := ih x
      cases r with
      | nil => rfl
      | cons b r => simp only [List.cons_append, kl_last] at this ⊢; rw [this]
  refine kl_pop (its := List.toArray (vs ++ [y])) F N.N (hl vs y) (e.upd N.nd) (by have : sizeLine = 16777216 := rfl; simp; lia) fun h' F' N' => h h' F' ⟨N', e.keys ▸ N.nd⟩
theorem lenListM {D : Addr} {vs : List Value} {ep : Nat} {Q : Value → Shared → Prop} (ho : hh.get? D = some (listOf vs.toArray ep)) (hz : vs.length ≤ 1000) (h : ∀ t tk, Q (.int (vs.length : Nat) t) ⟨hh, gs, dr, tk, os⟩) : wpAny (model prog w) A (call (.builtin "len") [.ref D]) Q E ⟨hh, gs, dr, tk₀, os⟩ := by
  refine len_list (items := vs.toArray) ⟨_, ho, rfl, _, rfl⟩ ?_ (h _ _)
  simp only [List.size_toArray]; omega
theorem iterListM {D : Addr} {vs : List Value} {ep : Nat} {Q : Value → Shared → Prop} (F : Fr h₀ L hh m) (N : Led h₀ L hh news) (ho : hh.get? D = some (listOf vs.toArray ep))
    (h : ∀ I h', Fr h₀ L h' m → Led h₀ L h' ((I, liOf D 0) :: news) → Q (.ref I) ⟨h', gs, dr, tk₀, os⟩) : wpAny (model prog w) A (call (.builtin "iter") [.ref D]) Q E ⟨hh, gs, dr, tk₀, os⟩ := by
  refine call_function_entry (by decide +kernel) (by decide +kernel) kdk_entry_iter (kdk_args_iter _) ?_
  unfold Builtin.«iter»
  refine wpAny_bind (m := someArgs "iter" 1 2 _) (wpAny_of_eq (a := [Value.ref D]) (by first | rfl | kernel_rfl!) ?_)
  show wpAny _ _ (pyIter (.ref D) >>= _) _ _ _
  refine wpAny_bind (wpAny_pyIter_list (items := vs.toArray) ⟨_, ho, rfl, _, rfl⟩ ?_)
  exact wpAny_pure ⟨_, rfl, h _ _ (F.push _) (Led.new (h := hh) (News.push F N.N _ rfl) N.nd fun q hq => Heap.lt_size (N.N q hq).1)⟩
theorem getNextM {expr : Bool} {it l : Addr} {i : Nat} {Q : Value → Shared → Prop} (F : Fr h₀ L hh m) (N : Led h₀ L hh news) (hm : (it, liOf l i) ∈ news) (h : ∀ X h', Fr h₀ L h' m → Led h₀ L h' ((X, mwOf it) :: news) → ∀ tk, Q (.ref X) ⟨h', gs, dr, tk, os⟩) :
    wpAny (model prog w) A (getAttr (.ref it) (Str.ofString "__next__") expr) Q E ⟨hh, gs, dr, tk₀, os⟩ :=
  MW.getNext (N.N _ hm).1 fun tk => h _ _ (F.push _) (Led.new (h := hh) (News.push F N.N _ rfl) N.nd fun q hq => Heap.lt_size (N.N q hq).1) tk
theorem mwItemM {X it l : Addr} {i : Nat} {vs : List Value} {ep : Nat} {v : Value} {Q : Value → Shared → Prop} (F : Fr h₀ L hh m) (N : Led h₀ L hh news) (hx : (X, mwOf it) ∈ news) (hl : hh.get? l = some (listOf vs.toArray ep)) (U : SetAt it (liOf l i) (liOf l (i + 1)) news news') (hv : vs[i]? = some v)
    (h : ∀ h', Fr h₀ L h' m → Led h₀ L h' news' → Q v ⟨h', gs, dr, tk₀, os⟩) : wpAny (model prog w) A (call (.ref X) []) Q E ⟨hh, gs, dr, tk₀, os⟩ := by
  refine MW.call_mw (N.N _ hx).1 (MW.next_item (N.N _ U.mem).1 hl hv fun h' ho' hs' => ⟨_, rfl, ?_⟩)
  have := N.set F U hs' ho'
  exact h h' this.1 this.2
theorem mwEndM {X it l : Addr} {i : Nat} {vs : List Value} {ep : Nat} {g : Obj → List (Addr × Obj)} {Q : Value → Shared → Prop} (hA : A.handled = none) (F : Fr h₀ L hh m) (N : Led h₀ L hh news) (hx : (X, mwOf it) ∈ news) (hl : hh.get? l = some (listOf vs.toArray ep)) (U : ∀ o', SetAt it (liOf l i) o' news (g o')) (hv : vs[i]? = none)
    (h : ∀ hm h' e o', Fr h₀ L hm m → Led h₀ L hm (g o') → NewStop hm h' e → E (.ref e) ⟨h', gs, dr, tk₀, os⟩) : wpAny (model prog w) A (call (.ref X) []) Q E ⟨hh, gs, dr, tk₀, os⟩ := by
  refine MW.call_mw (N.N _ hx).1 (MW.next_end hA (N.N _ (U (liOf l i)).mem).1 hl hv fun hm h' e o' ho' hs' hn => ?_)
  have := N.set F (U o') hs' ho'
  exact h hm h' e o' this.1 this.2 hn
theorem dictKeysT {kvs : List (Str × Value)} {Q : Value → Shared → Prop} (hA : A.handled = none) (F : Fr h₀ L hh m) (N : Led h₀ L hh news) (hm : (d, o) ∈ news) (hd : o.IsDictOf (PySem.strKind prog w) kvs) (lo : (d == sysModules) = false)
    (h : ∀ I h', Fr h₀ L h' m → Led h₀ L h' news → I ∉ news.map (·.1) → h₀.get? I = none → SrcT prog w A L h' I kvs.length (fun i v => ∃ q x t, kvs[i]? = some (q, x) ∧ v = .str q t) [(d, o)] → Q (.ref I) ⟨h', gs, dr, tk₀, os⟩) :
    wpAny (model prog w) A (pyIter (.ref d)) Q E ⟨hh, gs, dr, tk₀, os⟩ := by
  obtain ⟨ep, ha⟩ := KdkAt.of hd
  have ho := (N.N _ hm).1
  refine wpAny_pyIter_dict lo (ha.dictAt ho) ?_
  have hn := newAddr F N
  have hlt := Heap.lt_size ho
  have hk := push_keep hh { cls := .type "dict_keyiterator", data := .fields #[.ref d, .int 0 0, .int kvs.length 0, .int ep 0] }
  refine h _ _ (keepFr F hk) (keepLed N hk) hn.2.2 hn.2.1 ⟨⟨[hh.objs.size, d], (fun i h => h.IsKeyIter hh.objs.size d i kvs.length ep ∧ h.DictAt (PySem.strKind prog w) d kvs ep), ?_, ⟨⟨_, Heap.get?_push_size _ rfl, rfl, rfl⟩, ha.dictAt (hk _ _ ho)⟩, ?_, hn.1, ?_⟩⟩
  · have W := Walks.dictKeys (prog := prog) (w := w) (knd := PySem.strKind prog w) hA hh.objs.size d (Nat.ne_of_lt hlt) kvs ep
    exact { sub := W.sub, frame := W.frame, item := fun i s Q E hi st hQ => W.item i s Q E hi st fun v h' tk hP => hQ v h' tk (by
              obtain ⟨q, x, h1, h2⟩ := hP
              obtain ⟨t, rfl⟩ := PySem.Value.isStrOf_shape h2
              exact ⟨q, x, t, h1, rfl⟩), done := W.done, self := W.self }
  · intro i h st; obtain ⟨o, e, _⟩ := st.1; exact ⟨o, e⟩
  · intro b hb hne
    simp only [List.mem_cons, List.not_mem_nil, or_false] at hb
    rcases hb with rfl | rfl
    · exact absurd rfl hne
    · exact ⟨_, .head _, hk _ _ ho⟩
end
end
section
open PySem PySem.W PySem.Calls PyProof.Rows
structure StopHere (p : Prop) : Prop where
  go : p
set_option genInjectivity false in
set_option genSizeOf false in
structure StE where
  q : Str
  t : Tok
  X : Addr
  I : Addr
  l : Addr
  j : Nat
noncomputable def stkLed (st : List StE) : List (Addr × Obj) := st.flatMap fun s => [(s.X, mwOf s.I), (s.I, liOf s.l s.j)]
theorem stkLed_cons (s : StE) (st : List StE) : stkLed (s :: st) = (s.X, mwOf s.I) :: (s.I, liOf s.l s.j) :: stkLed st := rfl
noncomputable def stkStrs (st : List StE) : List Value := st.reverse.map fun s => Value.str s.q s.t
noncomputable def stkRefs (st : List StE) : List Value := st.reverse.map fun s => Value.ref s.X
theorem stkStrs_cons (s : StE) (st : List StE) : stkStrs (s :: st) = stkStrs st ++ [Value.str s.q s.t] := by simp [stkStrs]
theorem stkRefs_cons (s : StE) (st : List StE) : stkRefs (s :: st) = stkRefs st ++ [Value.ref s.X] := by simp [stkRefs]
theorem stkStrs_len (st : List StE) : (stkStrs st).length = st.length := by simp [stkStrs]
theorem stkRefs_len (st : List StE) : (stkRefs st).length = st.length := by simp [stkRefs]
structure StkOk (ρ : Str → Nat) (nds : List NdA) (st : List StE) : Prop where
  nodes : ∀ s ∈ st, ∃ nd ∈ nds, nd.nm = s.q ∧ nd.U = s.l
  desc : st.Pairwise fun a b => ρ a.q < ρ b.q
theorem StkOk.tail {ρ : Str → Nat} {nds : List NdA} {s : StE} {st : List StE} (h : StkOk ρ nds (s :: st)) : StkOk ρ nds st := ⟨fun x hx => h.nodes x (.tail _ hx), (List.pairwise_cons.mp h.desc).2⟩
theorem StkOk.len {ρ : Str → Nat} {nds : List NdA} (hρ : ∀ q, ρ q ≤ 100) : ∀ {st : List StE}, StkOk ρ nds st → st.length ≤ 101 := by
  have key : ∀ (st : List StE) (a : StE), (a :: st).Pairwise (fun a b => ρ a.q < ρ b.q) → ρ a.q + (a :: st).length ≤ 101 := by
    intro st
    induction st with
    | nil => intro a _; have := hρ a.q; simp; lia
    | cons b r ih =>
      intro a h
      have h1 := List.pairwise_cons.mp h
      have h2 := ih b h1.2
      have h3 := h1.1 b (.head _)
      rw [List.length_cons]; lia
  intro st h
  cases st with
  | nil => exact Nat.zero_le _
  | cons a r => have := key r a h.desc; lia
noncomputable def sumU (S : Str → Bool) (f : Str × Int × List Str → Nat) (G : Gr) : Nat := (G.map fun p => if S p.1 = true then 0 else f p).sum
theorem sumU_le (S : Str → Bool) (f : Str × Int × List Str → Nat) (q : Str) : ∀ G : Gr, sumU (fun x => S x || decide (x = q)) f G ≤ sumU S f G
  | [] => Nat.le_refl _
  | p :: r => by
    have ih := sumU_le S f q r
    unfold sumU at ih ⊢
    rw [List.map_cons, List.map_cons, List.sum_cons, List.sum_cons]
    refine Nat.add_le_add ?_ ih
    by_cases h : S p.1 = true
    · simp [h]
    · by_cases h2 : p.1 = q <;> simp [h, h2]
theorem sumU_drop {S : Str → Bool} {f : Str × Int × List Str → Nat} {q : Str} {p : Str × Int × List Str} : ∀ {G : Gr}, p ∈ G → p.1 = q → S q = false → sumU (fun x => S x || decide (x = q)) f G + f p ≤ sumU S f G
  | a :: r, hp, e, hS => by
    unfold sumU
    rw [List.map_cons, List.map_cons, List.sum_cons, List.sum_cons]
    rcases List.mem_cons.mp hp with rfl | hp
    · have := sumU_le S f q r
      unfold sumU at this
      rw [e, hS]
      simp only [decide_true, Bool.or_true, if_true, Bool.false_eq_true, if_false]
      dsimp only at this ⊢
      omega
    · have ih := sumU_drop (f := f) hp e hS
      unfold sumU at ih
      have : (if (S a.1 || decide (a.1 = q)) = true then 0 else f a) ≤ (if S a.1 = true then 0 else f a) := by
        by_cases h : S a.1 = true
        · simp [h]
        · by_cases h2 : a.1 = q <;> simp [h, h2]
      dsimp only at ih ⊢
      omega
theorem sumU_none {f : Str × Int × List Str → Nat} (G : Gr) : sumU (fun _ => false) f G = (G.map f).sum := by unfold sumU; simp
theorem su_mem {G : Gr} {q : Str} (h : q ∈ G.map (·.1)) : ∃ p ∈ G, p.1 = q ∧ suOf G q = p.2.2 := by
  unfold suOf
  cases e : (skel G).find? fun p => p.1 == q with
  | none =>
    rw [List.find?_eq_none] at e
    obtain ⟨p, hp, rfl⟩ := List.mem_map.mp h
    exact absurd (beq_self_eq_true _) (e (p.1, p.2.2) (List.mem_map_of_mem (f := fun p : Str × Int × List Str => (p.1, p.2.2)) hp))
  | some z =>
    have hz := List.mem_of_find?_eq_some e
    have hq := List.find?_some e
    unfold skel at hz
    obtain ⟨p, hp, rfl⟩ := List.mem_map.mp hz
    exact ⟨p, hp, by simpa using hq, rfl⟩
noncomputable def stkM (G : Gr) (st : List StE) : Nat := (st.map fun s => (suOf G s.q).length + 1 - s.j).sum
theorem stkM_cons (G : Gr) (s : StE) (st : List StE) : stkM G (s :: st) = ((suOf G s.q).length + 1 - s.j) + stkM G st := by unfold stkM; rw [List.map_cons, List.sum_cons]
structure TurnedAt (dp un : Nat) (gd : Option (List Code)) (outer : List Env) (base g g' : Heap) : Prop where
  turn : KtsTurn (frs outer) g g'
  below : Below (topA dp un gd outer) base outer g'
  dicts : KtsDicts (frs outer) g'
theorem keys_none {kvs : List (Str × Value)} {q : Str} (h : q ∉ kvs.map (·.1)) : valueAt kvs q = none := by
  unfold PySem.valueAt
  rw [Option.map_eq_none_iff, List.find?_eq_none]
  intro p hp e
  exact h (by have := List.mem_map_of_mem (f := fun q : Str × Value => q.1) hp; simpa [show p.1 = q by simpa using e] using this)
theorem keys_some {kvs : List (Str × Value)} {q : Str} (h : q ∈ kvs.map (·.1)) : (valueAt kvs q).isSome = true := by
  cases e : valueAt kvs q with
  | some v => rfl
  | none =>
    unfold PySem.valueAt at e
    rw [Option.map_eq_none_iff, List.find?_eq_none] at e
    obtain ⟨p, hp, rfl⟩ := List.mem_map.mp h
    exact absurd (by simp) (e p hp)
theorem keys_without {kvs : List (Str × Value)} {l : List Str} {q : Str} (h : kvs.map (·.1) = l ++ [q]) (hq : q ∉ l) : (without kvs q).map (·.1) = l := by
  have key : ∀ (kvs : List (Str × Value)), (without kvs q).map (·.1) = (kvs.map (·.1)).filter fun x => decide (x ≠ q) := by
    intro kvs
    induction kvs with
    | nil => rfl
    | cons p r ih =>
      unfold PySem.without at ih ⊢
      rw [List.filter_cons, List.map_cons, List.filter_cons]
      split
      · rw [List.map_cons, ih]
      · exact ih
  rw [key, h, List.filter_append, List.filter_cons_of_neg (by simp), List.filter_nil, List.append_nil]
  exact List.filter_eq_self.mpr fun x hx => by simpa using fun e : x = q => hq (e ▸ hx)
noncomputable def cyLed (w : World) (σ : SrA) (nds : List NdA) (NA EA IA SA : Addr) (oN oE : Obj) (ep1 ep2 : Nat) (st : List StE) : List (Addr × Obj) :=
  stkLed st ++ ((NA, oN) :: (EA, oE) :: (IA, listOf (List.toArray (stkRefs st)) ep1) :: (SA, listOf (List.toArray (stkStrs st)) ep2) :: (sorterLed w σ nds ++ []))
noncomputable abbrev cyNames (S D SA IA EA NA : Addr) : List (Str × Value) := [(Str.ofString "self", .ref S), (Str.ofString "n2i", .ref D), (Str.ofString "stack", .ref SA), (Str.ofString "itstack", .ref IA), (Str.ofString "seen", .ref EA), (Str.ofString "node2stacki", .ref NA)]
structure CyOk (w : World) (ρ : Str → Nat) (nds : List NdA) (G : Gr) (st : List StE) (Sn : Str → Bool) (n : Nat) (kvs : List (Str × Value)) (oE oN : Obj) : Prop where
  hset : Obj.SetObjOf (PySem.strKind PySem.Challenge.rw_oy0258_01.row.prog w) oE Sn n
  hdict : Obj.IsDictOf (PySem.strKind PySem.Challenge.rw_oy0258_01.row.prog w) oN kvs
  keys : kvs.map (·.1) = st.reverse.map (·.q)
  stk : StkOk ρ nds st
  cnt : n + sumU Sn (fun _ => 1) G ≤ 90
noncomputable def cyM (G : Gr) (Sn : Str → Bool) (st : List StE) : Nat := sumU Sn (fun p => p.2.2.length + 2) G + stkM G st
theorem sumU_one (G : Gr) : sumU (fun _ => false) (fun _ => 1) G = G.length := by
  rw [sumU_none]
  induction G with
  | nil => rfl
  | cons a r ih => rw [List.map_cons, List.sum_cons, ih, List.length_cons]; lia
end
section
open PySem PySem.W PySem.Calls PyProof.Rows
section
variable {prog : Program} {w : World} {A : Around} {hh : Heap} {E : Value → Shared → Prop} {gs : Array GenState} {dr : Drawn} {os : OsState} {tk₀ : Nat}
theorem lastItemM {value slice : PySem.Expr} {D : Addr} {vs : List Value} {ep : Nat} {x : Value} {u : Tok} {Q : Value → Shared → Prop} (ho : hh.get? D = some (listOf (List.toArray (vs ++ [x])) ep)) (hz : vs.length ≤ 1000) (h : Q x ⟨hh, gs, dr, tk₀, os⟩)
    (hs : subscripted slice false (.ref D) (.int (-1) u) = operate [.ref D, .int (-1) u] (getItem (.ref D) (.int (-1) u))) :
    wpAny (model prog w) A (subscriptTail value slice (.ref D) (.int (-1) u)) Q E ⟨hh, gs, dr, tk₀, os⟩ := by
  refine tail_any ⟨_, ho, rfl⟩ slot_list_getitem.lookup (wpAny_getItem_list_neg (items := List.toArray (vs ++ [x])) ⟨_, ho, rfl, _, rfl⟩ (by decide) ?_ (by decide) ?_ h) hs
  · simp only [List.size_toArray, List.length_append, List.length_cons, List.length_nil]; lia
  · simp only [List.size_toArray, List.length_append, List.length_cons, List.length_nil]
    rw [show (-1 + ((vs.length + (0 + 1) : Nat) : Int)).toNat = vs.length by lia]
    simp
theorem negM {a : Int} {t : Tok} {Q : Value → Shared → Prop} (h : Q (.int (-a) tk₀) ⟨hh, gs, dr, tk₀ + 1, os⟩) : wpAny (model prog w) A (unaryOp .USub (.int a t)) Q E ⟨hh, gs, dr, tk₀, os⟩ := PyProof.Rows.neg_int h
theorem callWithMw {pos : Pos} {X it : Addr} {env : Env} {Q : Value → Shared → Prop} (hx : hh.get? X = some (mwOf it)) (h : wpAny (model prog w) A (call (.ref X) []) Q E ⟨hh, gs, dr, tk₀, os⟩) :
    wpAny (model prog w) A (callWith pos (.ref X) [] (backTo pos (starEach [] env)) []) Q E ⟨hh, gs, dr, tk₀, os⟩ := by
  unfold callWith
  refine wpAny_bind (wpAny_holding ?_)
  refine wpAny_of_eq (a := ⟨[], []⟩) (by first | rfl | kernel_rfl) ?_
  refine wpAny_bind (wpAny_standAt ?_)
  refine wpAny_bind (m := keeperOf (.ref X)) ?_
  unfold keeperOf
  refine wpAny_bind (wpAny_load hx ?_)
  show wpAny _ _ (if (Value.type "method-wrapper" != Value.type "method") = true then _ else _) _ _ _
  rw [if_pos (show (Value.type "method-wrapper" != Value.type "method") = true by decide)]
  refine wpAny_pure ?_
  exact wpAny_bind (wpAny_mono h (fun r s₂ hr => wpAny_bind (wpAny_holding (wpAny_point (wpAny_pure hr)))) fun _ _ x => x)
end
end
section
open PySem PySem.W PySem.Calls PyProof.Rows
section
variable {prog : Program} {w : World} {A : Around} {h₀ hh : Heap} {L : Addr} {m : Str → Option Value} {news news' : List (Addr × Obj)} {E : Value → Shared → Prop} {gs : Array GenState} {dr : Drawn} {os : OsState} {tk₀ : Nat} {d v : Addr} {o : Obj}
noncomputable def viewOf (d : Addr) : Obj := { cls := .type "dict_values", data := .fields #[.ref d] }
theorem valsSrc {kvs : List (Str × Value)} {Q : Value → Shared → Prop} (hA : A.handled = none) (F : Fr h₀ L hh m) (N : Led h₀ L hh news) (hv : (v, viewOf d) ∈ news) (hm : (d, o) ∈ news) (hd : o.IsDictOf (PySem.strKind prog w) kvs) (hk : kvs.length ≤ sizeLine)
    (h : ∀ I h', Fr h₀ L h' m → Led h₀ L h' news → Src prog w A h₀ L h' news I kvs.length (fun i v => ∃ q, kvs[i]? = some (q, v)) → Q (.ref I) ⟨h', gs, dr, tk₀, os⟩) :
    wpAny (model prog w) A (pyIter (.ref v)) Q E ⟨hh, gs, dr, tk₀, os⟩ := by
  obtain ⟨ep, ha⟩ := KdkAt.of hd
  have ho := (N.N _ hm).1
  have hvw := (N.N _ hv).1
  refine wpAny_pyIter_values (s := ⟨hh, gs, dr, tk₀, os⟩) ⟨_, hvw, rfl, rfl⟩ (ha.dictAt ho) ?_
  have hn := newAddr F N
  have hlt := Heap.lt_size ho
  have hpk := push_keep hh { cls := .type "dict_valueiterator", data := .fields #[.ref d, .int 0 0, .int kvs.length 0, .int ep 0] }
  refine h _ _ (keepFr F hpk) (keepLed N hpk) ⟨[hh.objs.size, d], [hh.objs.size], (fun i h => h.IsValIter hh.objs.size d i kvs.length ep ∧ h.DictAt (PySem.strKind prog w) d kvs ep), Walks.dictValues (prog := prog) (w := w) (knd := PySem.strKind prog w) hA hh.objs.size d (Nat.ne_of_lt hlt) kvs ep, ⟨⟨_, Heap.get?_push_size _ rfl, rfl, rfl⟩, ha.dictAt (hpk _ _ ho)⟩, ?_, ?_, ?_, hk⟩
  · intro b hb
    simp only [List.mem_cons, List.not_mem_nil, or_false] at hb
    rcases hb with rfl | rfl
    · exact ⟨_, Heap.get?_push_size _ rfl⟩
    · exact ⟨_, hpk _ _ ho⟩
  · intro b hb; rw [List.mem_singleton.mp hb]; exact hn
  · intro i h st b hb; rw [List.mem_singleton.mp hb]; obtain ⟨o, e, _⟩ := st.1; exact ⟨o, e⟩
theorem valuesM {kvs : List (Str × Value)} {Q : Value → Shared → Prop} (F : Fr h₀ L hh m) (N : Led h₀ L hh news) (hm : (d, o) ∈ news) (hd : o.IsDictOf (PySem.strKind prog w) kvs) (lo : (d == sysModules) = false)
    (h : ∀ D h', Fr h₀ L h' m → Led h₀ L h' ((D, viewOf d) :: news) → Q (.ref D) ⟨h', gs, dr, tk₀, os⟩) : wpAny (model prog w) A (call (.builtin "dict.values") [.ref d]) Q E ⟨hh, gs, dr, tk₀, os⟩ :=
  kdl_view_values F N.N hm hd lo fun D h' F' N' lt => h D h' F' (Led.new (h := hh) N' N.nd lt)
theorem valuesGetM {pl : Sem Bool} {kvs : List (Str × Value)} {Q : Value × List Value → Shared → Prop} (N : Led h₀ L hh news) (hm : (d, o) ∈ news) (hd : o.IsDictOf (PySem.strKind prog w) kvs) (h : Q (.builtin "dict.values", [.ref d]) ⟨hh, gs, dr, tk₀, os⟩) :
    wpAny (model prog w) A (getMethod (.ref d) (PySem.Str.ofString "values") pl) Q E ⟨hh, gs, dr, tk₀, os⟩ := by
  obtain ⟨es, ep, hx⟩ := id hd
  have ho := (N.N _ hm).1
  exact getMethod_builtin ⟨_, ho, hx.1.1⟩ PySem.F.plainAttrs_dict PySem.F.slot_dict_values PySem.F.type_dict_values (by intro a e; cases e; exact ⟨_, ho, hx.1.2.1⟩) h
end
noncomputable def HeapCode (w : World) (loose : List Str) (mean : ExcName → Option Value) (mg mb : Str → Option Value) (k : Nat) (f : Addr) (pos : List Value) (kw : List (Str × Value)) (foot : List (Addr × Obj)) (ok : Value → List (Addr × Obj) → Prop) : Prop :=
  ∀ (dp un : Nat) (gd : Option (List Code)) (outer : List Env) (base g : Heap) (s : Shared) (R : Result → Shared → Prop),
    Below (topA dp un gd outer) base outer g → (hd.heap_39 w.params).In g → Top hd.view_39 loose mean mg mb g → g.objs.size ≤ s.heap.objs.size → Sep g s.heap foot →
    dp + k < recursionLimit → un + 8 * k < cLine →
    (∀ (v : Value) (h' : Heap) (tk' : Nat) (foot' : List (Addr × Obj)), ok v foot' → Sep g h' foot' → R (.ok (.ret v)) ⟨h', s.gens, s.drawn, tk', s.os⟩) →
    codeAny (model PySem.Challenge.rw_oy0258_01.row.prog w) (topA dp un gd outer) (.call (.ref f) ⟨pos, kw⟩) R s
section
variable {w : World} {loose : List Str} {mean : ExcName → Option Value} {mg mb : Str → Option Value}
theorem HeapCode.useM {k : Nat} {f x q : Addr} {pos : List Value} {foot A : List (Addr × Obj)} {ok : Value → List (Addr × Obj) → Prop}
    (C : HeapCode w loose mean mg mb k f (.ref x :: pos) [] foot ok) {dp un : Nat} {gd : Option (List Code)} {outer : List Env} {base h₀ : Heap} {L : Addr} {m : Str → Option Value} {hh : Heap} {g : Array GenState} {dr : Drawn} {tk₀ : Nat} {os : OsState} {Q E : Value → Shared → Prop} {env : Env}
    (B : Below (topA dp un gd outer) base outer h₀) (F : Fr h₀ L hh m) (X : (hd.heap_39 w.params).In h₀) (T : Top hd.view_39 loose mean mg mb h₀) (N : Led h₀ L hh (foot ++ A)) (hq : hh.get? q = some (methodObj (.ref f) (.ref x)))
    (hd : dp + (k + 1) < recursionLimit) (hu : un + 8 * (k + 1) < cLine)
    (h : ∀ (v : Value) (h' : Heap) (tk' : Nat) (foot' : List (Addr × Obj)), ok v foot' → Fr h₀ L h' m → Led h₀ L h' (foot' ++ A) → Q v ⟨h', g, dr, tk', os⟩)
    (hf : env.frame = some L) (hck : env.scope.kind = .function) :
    wpAny (model PySem.Challenge.rw_oy0258_01.row.prog w) ((topA dp un gd outer).deeper env) (call (.ref q) pos []) Q E ⟨hh, g, dr, tk₀, os⟩ := by
  obtain ⟨gr, Fg, Ng, S, hsz, _⟩ := openG F N
  exact wpAny_call (method_call hq (C (dp + 1) (un + 3) gd (env :: outer) base gr ⟨hh, g, dr, tk₀, os⟩ _ (pushX B Fg hf hck) (X.keeps Fg.keep) (T.keeps Fg.keep) (Nat.le_of_eq hsz) S (by lia) (by lia)
    fun v h' tk' foot' o S' => h v h' tk' foot' o (closeG Fg Ng S').1 (closeG Fg Ng S').2))
end
end
section
section
variable (w : World) (loose : List Str) (mean : ExcName → Option Value) (mg mb : Str → Option Value)
theorem c_addC (σ : SrA) (hr : σ.rdy = .none) (nds : List NdA) (G : Gr) (ok : SOk w σ nds) (hG : NdsAre nds G) (hnd : (G.map (·.1)).Nodup) (nm : Str) (t : Tok) (vs : List Value) (ps : List Str) (hps : StrsAre vs ps) (hlen : nds.length + ps.length ≤ 90) (hsh : short G 1000) :
   HeapCode w loose mean mg mb 6 197 (.ref σ.S :: .str nm t :: vs) [] (sorterLed w σ nds) (fun v n => ∃ (oD : Obj) (nds' : List NdA), v = .none ∧ SOk w { σ with oD := oD } nds' ∧ NdsAre nds' (addG G nm ps) ∧ n = sorterLed w { σ with oD := oD } nds') := by
  unfold HeapCode
  k_fill
  intro dp un gd outer base g s R0 hB hX hT hsz hS hdp hun hret
  refine nameG fun GG hGG => ?_
  obtain ⟨hh, gs, dr, tk, os⟩ := s
  obtain ⟨S, dS, D, k1, k2, k3, k4, rdy, po, pt, nf, ft, e, oD⟩ := σ
  refine hGG ?_; clear hGG GG
  dsimp only at *
  subst hr
  have hpl := hps.len_eq
  have hGl := hG.len
  have hshB : short (bump (ensure G nm) nm ps.length) 1000 := short_bump (short_ensure hsh _) _ _
  refine' enterV (g := g) (rest := vs) (binds := fun t' => [(Str.ofString "self", .ref S), (Str.ofString "node", .str nm t), (Str.ofString "predecessors", t')]) ?kX ?kT ?ksz ?kS ?k6 ?k7 ?k8 ?k9 ?kr ?kl ?kbn ?_ ?co ?gen ?kd ?kc
  case kX => assumption
  case kT => assumption
  case ksz => first | exact Nat.le_refl _ | assumption
  case kS => first | assumption | exact Sep.nil fun _ _ e => e
  case k6 => k_is
  case k7 => k_is
  case k8 => k_room
  case k9 => first | exact bindV2 | exact bindV1 | fail "enterV"
  case kr => lia
  case kl => intro t'; exact locs rfl
  case kbn => (intro t'; simp only [List.map_cons, List.map_nil]; decide +kernel)
  case co => exact rfl
  case gen => exact rfl
  case kd => exact rfl
  case kc => decide
  intro D0 L' m' h₁ tk' F' V' N'
  have N1 := Led.back N'
  clear N'
  rw [sorter_open] at N1
  dsimp only at N1 V'
  show wpAny _ _ (execs (_ :: _) _) _ _ _
  refine seqG ?_
  intro R' hR'
  refine wpAny_If ?_
  refine wpAny_isTrue_Compare1 ?_
  with_reducible refine Attribute_Name_ ?_
  refine' nmVq ‹_› ‹_› rfl (by walk_at "g") ?_ (by kernel_rfl)
  k_dflt (refine' getOwnM ‹_› ‹_› (by exact Led.inst ‹_› (by k_mem) (by k_mem)) (by k_is) (by k_is) (by k_is) (by k_is) (by k_get) (by k_handed) ?_; intro _)
  walk_at "eval Constant none"
  refine wpAny_isNot_self (by rfl) ?_
  refine wpAny_truthy_bool ?_
  rw [if_neg Bool.false_ne_true]
  refine wpAny_execs_nil ?_
  refine hR'.next ?_
  clear hR' R'
  refine seqG ?_
  intro R' hR'
  refine wpAny_Assign_Name ?_
  refine MethodCall_ ?_
  refine' nmVq ‹_› ‹_› rfl (by walk_at "g") ?_ (by kernel_rfl)
  k_dflt (refine' methM ‹_› ‹_› (by exact Led.inst ‹_› (by k_mem) (by k_mem)) (by k_is) (by k_is) (by k_is) (by k_get) ?_)
  k_dflt (refine' callWith_K (by k_asm) (by k_is) ?_)
  refine args_cons ?_
  refine' nmVq ‹_› ‹_› rfl (by walk_at "g") ?_ (by kernel_rfl)
  refine args_nil ?_
  try dsimp only [List.cons_append, List.nil_append]
  refine ⟨by k_in, ?_⟩
  try dsimp only [List.nil_append, List.cons_append]
  rename Fr _ _ _ _ => oldF
  rename Led _ _ _ _ => oldN
  rename SOk _ _ _ => oldOk
  rename NdsAre _ _ => oldG
  k_dflt (refine' HeapFn.use (c_getn w loose mean mg mb _ _ _ oldOk oldG ?hlen _ _) ?hB oldF ?hX ?hT oldN ?hd ?hu ?_ ?hf ?hck; (case hB => assumption); (case hX => assumption); (case hT => assumption); (case hd => lia); (case hu => lia); (case hlen => lia); (case hf => rfl); (case hck => rfl); intro v' h' tk' foot' okk' F' N'; clear oldF oldN; obtain ⟨i', nd', oD', nds', rfl, hi', hnm', ok', G', rfl⟩ := okk'; clear oldOk oldG; obtain ⟨pre', post', rfl⟩ := split_at hi'; rw [sorter_split] at N'; dsimp only at N' ok')
  with_reducible rename Knows _ _ => oldV
  rename Fr _ _ _ _ => oldF
  rename Led _ _ _ _ => oldN
  refine' stVq oldF oldN oldV (by walk_at "m") ?_ rfl (by kernel_rfl)
  intro m' h' tk' F' N' V'
  clear oldF oldN oldV
  refine hR'.next ?_
  clear hR' R'
  refine seqG ?_
  intro R' hR'
  with_reducible refine wpAny_AugAssign_AttributeAny ?_
  refine' nmVq ‹_› ‹_› rfl (by walk_at "g") ?_ (by kernel_rfl)
  k_dflt (refine' getSlotM ‹_› ‹_› (by exact Led.inst ‹_› (by k_mem) (by k_mem)) (by k_is) (by k_is) (by k_is) (by k_is) (by k_is) (by k_is) rfl (by k_handed) ?_; intro _)
  refine Call_ ?_
  k_dflt (refine' nmB ‹_› ‹_› ‹_› (by k_is) (by boot_by_name) (by decide) ?_ rfl rfl rfl (by kernel_rfl) (by kernel_rfl))
  refine callWith_method1 ?_
  refine args_cons ?_
  refine' nmVq ‹_› ‹_› rfl (by walk_at "g") ?_ (by kernel_rfl)
  refine args_nil ?_
  try dsimp only [List.cons_append, List.nil_append]
  refine' lenTupM (by walk_at "o") (by walk_at "oml") ?_
  intro nt' tk'
  refine iaddM ?_
  intro nt' tk'
  rename Fr _ _ _ _ => oldF
  rename Led _ _ _ _ => oldN
  k_dflt (refine' setSlotM oldF ‹_› oldN (by exact Led.inst ‹_› (by k_mem) (by k_mem)) (by k_is) (by k_is) (by k_is) (by k_is) (by k_is) (by decide) rfl (by walk_at "s") ?_; intro h' tk' F' N'; clear oldF oldN)
  refine hR'.next ?_
  clear hR' R'
  refine oneN ?_
  refine forM ?_ (by intro _; rfl)
  refine' nmVq ‹_› ‹_› rfl (by walk_at "g") ?_ (by kernel_rfl)
  rename NdsAre _ _ => G1; rename SOk _ _ _ => ok1; rename _ = nm => hnm1; rename Led _ _ _ _ => N1; rename Fr _ _ _ _ => F1; rename Knows _ _ => V1
  subst hnm1
  have G2 := G1.mod (a' := { nd' with np := nd'.np + (vs.length : Nat), nt := nt' }) (ensure_nodup hnd _) (f := fun n s => (n + ps.length, s)) (fun p hp => ⟨hp.nm, by show _ = _ + _; rw [← hp.np, ← hpl], hp.su⟩)
  have ok2 := ok1.kv (nds' := pre' ++ { nd' with np := nd'.np + (vs.length : Nat), nt := nt' } :: post') (kvsOf_mid rfl rfl)
  have N2 : Led g L' h' (sorterLed w ⟨S, dS, D, k1, k2, k3, k4, .none, po, pt, nf, ft, e, oD'⟩ (pre' ++ { nd' with np := nd'.np + (vs.length : Nat), nt := nt' } :: post') ++ [(D0, tupOf vs)]) := by (rw [sorter_split]; exact N1)
  clear N1 ok1 G1
  have hl2 := G2.len
  rw [modG_len] at hl2
  have hl3 := ensure_len G nd'.nm
  have hn2 : ((bump (ensure G nd'.nm) nd'.nm ps.length).map (·.1)).Nodup := by unfold bump; rw [modG_names]; exact ensure_nodup hnd _
  generalize hbase : bump (ensure G nd'.nm) nd'.nm ps.length = B at *
  have hB2 : NdsAre (pre' ++ { nd' with np := nd'.np + (vs.length : Nat), nt := nt' } :: post') B := hbase ▸ G2
  have hBl : B.length ≤ G.length + 1 := by rw [← hbase]; unfold bump; rw [modG_len]; exact hl3
  clear G2 hl2
  generalize pre' ++ { nd' with np := nd'.np + (vs.length : Nat), nt := nt' } :: post' = nds2 at *
  generalize nd'.nm = nm1 at *
  have hst : ∀ k, ((((ps.take k).foldl (addF nm1) B).map (·.1)).Nodup ∧ ((ps.take k).foldl (addF nm1) B).length ≤ 92 ) := fun k => ⟨addFs_nodup _ _ hn2, by have := addFs_len nm1 (ps.take k) B; rw [List.length_take] at this; lia⟩
  refine tupSrcF (by rfl) F1 N2 (List.mem_append_right _ (.head _)) ?_
  intro I' h' F' N' hI S'
  clear F1 N2
  refine ForAt.mk (fun k m news => ∃ oD nds, Knows m [(Str.ofString "self", .ref S), (Str.ofString "node", .str nm1 t)] ∧ news = sorterLed w ⟨S, dS, D, k1, k2, k3, k4, .none, po, pt, nf, ft, e, oD⟩ nds ++ [(D0, tupOf vs)] ∧ SOk w ⟨S, dS, D, k1, k2, k3, k4, .none, po, pt, nf, ft, e, oD⟩ nds ∧ NdsAre nds ((ps.take k).foldl (addF nm1) B)) S' F' N' hI ?_ ?_ (fstoreL rfl rfl (by kernel_rfl)) ?_ ?_
  · exact ⟨oD', nds2, V1.sub (by walk_at "u"), rfl, ok2, hB2⟩
  · intro i m news z1 q hq
    refine nameG fun GG hGG => ?_
    obtain ⟨oD, nds, _, rfl, _, _⟩ := z1
    refine hGG ?_; clear hGG GG
    exact List.mem_append_right _ hq
  · clear F' N' S' ok2 hB2 V1
    intro k v m₁ news₁ m₂ news₂ it h tk hk hv z2 z3 F' N'
    refine nameG fun GG hGG => ?_
    obtain ⟨oDk, ndk, V1, rfl, okk, Gk⟩ := z2
    obtain ⟨rfl, rfl⟩ := z3
    refine hGG ?_; clear hGG GG
    try (with_reducible refine nameQ ?_; intro Q' hQ')
    have V' := V1.set (x := Str.ofString "pred") (v := v) (l' := _) (by walk_at "m")
    clear V1
    refine nameG fun GG hGG => ?_
    obtain ⟨q, tq, hq, rfl⟩ := strs_get hps k v (by simpa using hv)
    refine hGG ?_; clear hGG GG
    have hndk := (hst k).1
    have hlk := (hst k).2
    rw [← Gk.len] at hlk
    have N1 := Led.back N'
    clear N'
    rw [List.append_assoc, sorter_open] at N1
    dsimp only at N1
    refine seqG ?_
    intro R' hR'
    refine wpAny_Assign_Name ?_
    refine MethodCall_ ?_
    refine' nmVq ‹_› ‹_› rfl (by walk_at "g") ?_ (by kernel_rfl)
    k_dflt (refine' methM ‹_› ‹_› (by exact Led.inst ‹_› (by k_mem) (by k_mem)) (by k_is) (by k_is) (by k_is) (by k_get) ?_)
    k_dflt (refine' callWith_K (by k_asm) (by k_is) ?_)
    refine args_cons ?_
    refine' nmVq ‹_› ‹_› rfl (by walk_at "g") ?_ (by kernel_rfl)
    refine args_nil ?_
    try dsimp only [List.cons_append, List.nil_append]
    refine ⟨by k_in, ?_⟩
    try dsimp only [List.nil_append, List.cons_append]
    rename Fr _ _ _ _ => oldF
    rename Led _ _ _ _ => oldN
    rename SOk _ _ _ => oldOk
    rename NdsAre _ _ => oldG
    k_dflt (refine' HeapFn.use (c_getn w loose mean mg mb _ _ _ oldOk oldG ?hlen _ _) ?hB oldF ?hX ?hT oldN ?hd ?hu ?_ ?hf ?hck; (case hB => assumption); (case hX => assumption); (case hT => assumption); (case hd => lia); (case hu => lia); (case hlen => lia); (case hf => rfl); (case hck => rfl); intro v' h' tk' foot' okk' F' N'; clear oldF oldN; obtain ⟨i', nd', oD', nds', rfl, hi', hnm', ok', G', rfl⟩ := okk'; clear oldOk oldG; obtain ⟨pre', post', rfl⟩ := split_at hi'; rw [sorter_split] at N'; dsimp only at N' ok')
    with_reducible rename Knows _ _ => oldV
    rename Fr _ _ _ _ => oldF
    rename Led _ _ _ _ => oldN
    refine' stVq oldF oldN oldV (by walk_at "m") ?_ rfl (by kernel_rfl)
    intro m' h' tk' F' N' V'
    clear oldF oldN oldV
    refine hR'.next ?_
    clear hR' R'
    refine oneN ?_
    refine wpAny_Expr_any ?_
    refine MethodCall_ ?_
    with_reducible refine Attribute_Name_ ?_
    refine' nmVq ‹_› ‹_› rfl (by walk_at "g") ?_ (by kernel_rfl)
    k_dflt (refine' getSlotM ‹_› ‹_› (by exact Led.inst ‹_› (by k_mem) (by k_mem)) (by k_is) (by k_is) (by k_is) (by k_is) (by k_is) (by k_is) rfl (by k_handed) ?_; intro _)
    refine getMethod_builtin ⟨_, (by walk_at "o"), rfl⟩ PySem.F.plainAttrs_list PySem.F.slot_list_append PySem.F.type_list_append (by intro a e; cases e; exact ⟨_, (by walk_at "o"), rfl⟩) ?_
    refine callWith_method1 ?_
    refine args_cons ?_
    refine' nmVq ‹_› ‹_› rfl (by walk_at "g") ?_ (by kernel_rfl)
    refine args_nil ?_
    try dsimp only [List.cons_append, List.nil_append]
    rename NdsAre _ _ => G1; rename SOk _ _ _ => ok1; rename _ = q => hnm1; rename Led _ _ _ _ => N1; rename Fr _ _ _ _ => F1; rename Knows _ _ => V1
    have hsu := G1.short (short_ensure (short_addFs _ (ps.take k) hshB) q)
    rw [List.length_take] at hsu
    have hsu2 : nd'.su.length ≤ 1100 := by lia
    rename Fr _ _ _ _ => oldF
    rename Led _ _ _ _ => oldN
    refine' appendLM oldF oldN (by walk_at "s") (by walk_at "b") ?_
    intro h' F' N'
    clear oldF oldN
    with_reducible refine hQ' _ _ ?_
    clear hQ' Q'
    dsimp only
    rename Led _ _ _ _ => N2; rename Fr _ _ _ _ => F2; rename Knows _ _ => V2
    have G2 := G1.mod (a' := { nd' with su := nd'.su ++ [Value.str nm1 t], ep := nd'.ep + 1 }) (ensure_nodup hndk _) (f := fun n s => (n, s ++ [nm1])) (fun p hp => ⟨hp.nm, hp.np, strs_snoc hp.su _ _⟩)
    have ok2 := ok1.kv (nds' := pre' ++ { nd' with su := nd'.su ++ [Value.str nm1 t], ep := nd'.ep + 1 } :: post') (kvsOf_mid rfl rfl)
    refine FPost.intro (sorterLed w ⟨S, dS, D, k1, k2, k3, k4, .none, po, pt, nf, ft, e, oD'⟩ (pre' ++ { nd' with su := nd'.su ++ [Value.str nm1 t], ep := nd'.ep + 1 } :: post') ++ [(D0, tupOf vs)]) F2 (Led.front (x := (I', it)) (by rw [List.append_assoc, sorter_split]; exact N2)) (List.Sublist.refl _) ⟨oD', _, V2.sub (by walk_at "u"), rfl, ok2, ?_⟩
    rw [take_step hq, List.foldl_append]
    subst hnm1
    exact G2
  · clear F' N' S' ok2 hB2 V1
    intro h' tk' m' news' F' N' z4
    refine nameG fun GG hGG => ?_
    obtain ⟨oDk, ndk, V', rfl, okk, Gk⟩ := z4
    refine hGG ?_; clear hGG GG
    rw [show vs.toArray.size = ps.length by simp [hpl], List.take_length] at Gk
    dsimp only
    refine hret _ _ _ _ ⟨oDk, ndk, rfl, okk, ?_, rfl⟩ (sepOf (by assumption) (by assumption) (List.sublist_append_left _ _))
    unfold addG
    rw [hbase]
    exact Gk
end
end
section
section
variable (w : World) (loose : List Str) (mean : ExcName → Option Value) (mg mb : Str → Option Value)
theorem c_active (σ : SrA) (R : Addr) (hr : σ.rdy = .ref R) (nds : List NdA) (rs : List Value) (er : Nat) (hlen : rs.length ≤ 1000) :
   HeapFn w loose mean mg mb 2 216 [.ref σ.S] [] (sorterLed w σ nds ++ [(R, listOf rs.toArray er)]) (fun v n => v = .bool (decide (σ.nf < σ.po) || !rs.isEmpty) ∧ n = sorterLed w σ nds ++ [(R, listOf rs.toArray er)]) := by
  unfold HeapFn
  k_fill
  intro dp un gd outer base g s Q E hB hX hT hsz hS hdp hun hret
  refine nameG fun GG hGG => ?_
  obtain ⟨hh, gs, dr, tk, os⟩ := s
  obtain ⟨S, dS, D, k1, k2, k3, k4, rdy, po, pt, nf, ft, e, oD⟩ := σ
  refine hGG ?_; clear hGG GG
  dsimp only at *
  subst hr
  refine wpAny_call ?_
  refine' enterN (g := g) (binds := [(Str.ofString "self", .ref S)]) ?kX ?kT ?ksz ?kS ?k6 ?k7 ?k8 ?k9 ?kl ?kbn ?_ ?co ?gen ?kd ?kc
  case kX => assumption
  case kT => assumption
  case ksz => first | exact Nat.le_refl _ | assumption
  case kS => first | assumption | exact Sep.nil fun _ _ e => e
  case k6 => k_is
  case k7 => k_is
  case k8 => k_room
  case k9 => first | exact BindsTo.of_eq (by kernel_rfl!) | exact binds_K (by k_in) rfl (by k_is) rfl rfl rfl | fail "enter: no rule for these arguments"
  case kl => exact locs rfl
  case kbn => (simp only [List.map_cons, List.map_nil]; decide +kernel)
  case co => exact rfl
  case gen => exact rfl
  case kd => exact rfl
  case kc => decide
  intro L' m' h₁ tk' F' V' N'
  rw [sorter_open] at N'
  dsimp only at N'
  show wpAny _ _ (execs (_ :: _) _) _ _ _
  refine seqG ?_
  intro R' hR'
  refine wpAny_If ?_
  refine wpAny_isTrue_Compare1 ?_
  with_reducible refine Attribute_Name_ ?_
  refine' nmVq ‹_› ‹_› rfl (by walk_at "g") ?_ (by kernel_rfl)
  k_dflt (refine' getOwnM ‹_› ‹_› (by exact Led.inst ‹_› (by k_mem) (by k_mem)) (by k_is) (by k_is) (by k_is) (by k_is) (by k_get) (by k_handed) ?_; intro _)
  walk_at "eval Constant none"
  refine wpAny_is_other (by rfl) (by intro hh; cases hh) ?_
  refine wpAny_truthy_bool ?_
  rw [if_neg Bool.false_ne_true]
  refine wpAny_execs_nil ?_
  refine hR'.next ?_
  clear hR' R'
  refine oneN ?_
  refine wpAny_Return_some ?_
  with_reducible refine BoolOp_or ?_
  refine wpAny_Compare1 ?_ (by rfl)
  with_reducible refine Attribute_Name_ ?_
  refine' nmVq ‹_› ‹_› rfl (by walk_at "g") ?_ (by kernel_rfl)
  k_dflt (refine' getOwnM ‹_› ‹_› (by exact Led.inst ‹_› (by k_mem) (by k_mem)) (by k_is) (by k_is) (by k_is) (by k_is) (by k_get) (by k_handed) ?_; intro _)
  with_reducible refine Attribute_Name_ ?_
  refine' nmVq ‹_› ‹_› rfl (by walk_at "g") ?_ (by kernel_rfl)
  k_dflt (refine' getOwnM ‹_› ‹_› (by exact Led.inst ‹_› (by k_mem) (by k_mem)) (by k_is) (by k_is) (by k_is) (by k_is) (by k_get) (by k_handed) ?_; intro _)
  with_reducible refine lt_int ?_
  refine wpAny_truthy_bool ?_
  focus
   refine split_dec ?_ ?_ <;> intro _
   dsimp only
   rotate_left
   with_reducible refine BoolOp_one ?_
   refine Call_ ?_
   k_dflt (refine' nmB ‹_› ‹_› ‹_› (by k_is) (by boot_by_name) (by decide) ?_ rfl rfl rfl (by kernel_rfl) (by kernel_rfl))
   refine PyProof.Rows.callWith_type1 ?_
   refine args_cons ?_
   with_reducible refine Attribute_Name_ ?_
   refine' nmVq ‹_› ‹_› rfl (by walk_at "g") ?_ (by kernel_rfl)
   k_dflt (refine' getOwnM ‹_› ‹_› (by exact Led.inst ‹_› (by k_mem) (by k_mem)) (by k_is) (by k_is) (by k_is) (by k_is) (by k_get) (by k_handed) ?_; intro _)
   refine args_nil ?_
   try dsimp only [List.cons_append, List.nil_append]
   refine' boolListM (by walk_at "o") (by walk_at "b") ?_
   intro tk'
   rotate_left
  all_goals (refine hret _ _ _ _ ⟨?_, rfl⟩ (sepOf F' N' (List.Sublist.refl _)))
  all_goals (refine congrArg Value.bool ?_; simp [*])
end
end
section
section
variable (w : World) (loose : List Str) (mean : ExcName → Option Value) (mg mb : Str → Option Value)
theorem c_ready (σ : SrA) (R : Addr) (hr : σ.rdy = .ref R) (nds : List NdA) (G : Gr) (ok : SOk w σ nds) (hG : NdsAre nds G) (hnd : (G.map (·.1)).Nodup) (rs : List Value) (ps : List Str) (er : Nat) (hrs : StrsAre rs ps) (hne : rs.length ≠ 0) (hlen : rs.length ≤ 100) (hin : ∀ q ∈ ps, q ∈ G.map (·.1)) :
   HeapFn w loose mean mg mb 2 209 [.ref σ.S] [] (sorterLed w σ nds ++ [(R, listOf rs.toArray er)]) (fun v n => ∃ (T : Addr) (pt' : Tok) (nds' : List NdA), v = .ref T ∧ SOk w { σ with po := σ.po + (rs.length : Nat), pt := pt' } nds' ∧ NdsAre nds' (ps.foldl passF G) ∧ n = (sorterLed w { σ with po := σ.po + (rs.length : Nat), pt := pt' } nds' ++ [(R, listOf (List.toArray []) (er + 1))]) ++ [(T, tupOf rs)]) := by
  unfold HeapFn
  k_fill
  intro dp un gd outer base g s Q E hB hX hT hsz hS hdp hun hret
  refine nameG fun GG hGG => ?_
  obtain ⟨hh, gs, dr, tk, os⟩ := s
  obtain ⟨S, dS, D, k1, k2, k3, k4, rdy, po, pt, nf, ft, e, oD⟩ := σ
  refine hGG ?_; clear hGG GG
  dsimp only at *
  subst hr
  refine wpAny_call ?_
  refine' enterN (g := g) (binds := [(Str.ofString "self", .ref S)]) ?kX ?kT ?ksz ?kS ?k6 ?k7 ?k8 ?k9 ?kl ?kbn ?_ ?co ?gen ?kd ?kc
  case kX => assumption
  case kT => assumption
  case ksz => first | exact Nat.le_refl _ | assumption
  case kS => first | assumption | exact Sep.nil fun _ _ e => e
  case k6 => k_is
  case k7 => k_is
  case k8 => k_room
  case k9 => first | exact BindsTo.of_eq (by kernel_rfl!) | exact binds_K (by k_in) rfl (by k_is) rfl rfl rfl | fail "enter: no rule for these arguments"
  case kl => exact locs rfl
  case kbn => (simp only [List.map_cons, List.map_nil]; decide +kernel)
  case co => exact rfl
  case gen => exact rfl
  case kd => exact rfl
  case kc => decide
  intro L' m' h₁ tk' F' V' N'
  rw [sorter_open] at N'
  dsimp only at N'
  show wpAny _ _ (execs (_ :: _) _) _ _ _
  refine seqG ?_
  intro R' hR'
  refine wpAny_If ?_
  refine wpAny_isTrue_Compare1 ?_
  with_reducible refine Attribute_Name_ ?_
  refine' nmVq ‹_› ‹_› rfl (by walk_at "g") ?_ (by kernel_rfl)
  k_dflt (refine' getOwnM ‹_› ‹_› (by exact Led.inst ‹_› (by k_mem) (by k_mem)) (by k_is) (by k_is) (by k_is) (by k_is) (by k_get) (by k_handed) ?_; intro _)
  walk_at "eval Constant none"
  refine wpAny_is_other (by rfl) (by intro hh; cases hh) ?_
  refine wpAny_truthy_bool ?_
  rw [if_neg Bool.false_ne_true]
  refine wpAny_execs_nil ?_
  refine hR'.next ?_
  clear hR' R'
  refine seqG ?_
  intro R' hR'
  refine wpAny_Assign_Name ?_
  refine Call_ ?_
  k_dflt (refine' nmB ‹_› ‹_› ‹_› (by k_is) (by boot_by_name) (by decide) ?_ rfl rfl rfl (by kernel_rfl) (by kernel_rfl))
  refine PyProof.Rows.callWith_type1 ?_
  refine args_cons ?_
  with_reducible refine Attribute_Name_ ?_
  refine' nmVq ‹_› ‹_› rfl (by walk_at "g") ?_ (by kernel_rfl)
  k_dflt (refine' getOwnM ‹_› ‹_› (by exact Led.inst ‹_› (by k_mem) (by k_mem)) (by k_is) (by k_is) (by k_is) (by k_is) (by k_get) (by k_handed) ?_; intro _)
  refine args_nil ?_
  try dsimp only [List.cons_append, List.nil_append]
  rename Fr _ _ _ _ => oldF
  rename Led _ _ _ _ => oldN
  refine' tupleOfM oldF oldN (by walk_at "o") (by walk_at "b") ?_
  intro T' h' F' N'
  clear oldF oldN
  with_reducible rename Knows _ _ => oldV
  rename Fr _ _ _ _ => oldF
  rename Led _ _ _ _ => oldN
  refine' stVq oldF oldN oldV (by walk_at "m") ?_ rfl (by kernel_rfl)
  intro m' h' tk' F' N' V'
  clear oldF oldN oldV
  refine hR'.next ?_
  clear hR' R'
  refine seqG ?_
  intro R' hR'
  refine wpAny_Assign_Name ?_
  with_reducible refine Attribute_Name_ ?_
  refine' nmVq ‹_› ‹_› rfl (by walk_at "g") ?_ (by kernel_rfl)
  k_dflt (refine' getOwnM ‹_› ‹_› (by exact Led.inst ‹_› (by k_mem) (by k_mem)) (by k_is) (by k_is) (by k_is) (by k_is) (by k_get) (by k_handed) ?_; intro _)
  with_reducible rename Knows _ _ => oldV
  rename Fr _ _ _ _ => oldF
  rename Led _ _ _ _ => oldN
  refine' stVq oldF oldN oldV (by walk_at "m") ?_ rfl (by kernel_rfl)
  intro m' h' tk' F' N' V'
  clear oldF oldN oldV
  refine hR'.next ?_
  clear hR' R'
  refine seqG ?_
  intro R' hR'
  refine forM ?_ (by intro _; rfl)
  refine' nmVq ‹_› ‹_› rfl (by walk_at "g") ?_ (by kernel_rfl)
  have N2 : Led g L' h' (sorterLed w ⟨S, dS, D, k1, k2, k3, k4, .ref R, po, pt, nf, ft, e, oD⟩ nds ++ ([(R, listOf rs.toArray er)] ++ [(T', tupOf rs)])) := by rw [← List.append_assoc]; exact Led.back N'
  have F2 := F'
  have V2 := V'
  clear N' F' V'
  have hpl := hrs.len_eq
  refine tupSrcF (by rfl) F2 N2 (by rw [← List.append_assoc]; exact List.mem_append_right _ (.head _)) ?_
  intro I' h' F' N' hI S'
  clear F2 N2
  refine ForAt.mk (fun k m news => ∃ nds', Knows m [(Str.ofString "self", .ref S), (Str.ofString "result", .ref T'), (Str.ofString "n2i", .ref D)] ∧ news = sorterLed w ⟨S, dS, D, k1, k2, k3, k4, .ref R, po, pt, nf, ft, e, oD⟩ nds' ++ ([(R, listOf rs.toArray er)] ++ [(T', tupOf rs)]) ∧ SOk w ⟨S, dS, D, k1, k2, k3, k4, .ref R, po, pt, nf, ft, e, oD⟩ nds' ∧ NdsAre nds' ((ps.take k).foldl passF G)) S' F' N' hI ?_ ?_ (fstoreL rfl rfl (by kernel_rfl)) ?_ ?_
  · exact ⟨nds, V2, rfl, ok, hG⟩
  · intro i m news z1 q hq
    refine nameG fun GG hGG => ?_
    obtain ⟨nds, _, rfl, _, _⟩ := z1
    refine hGG ?_; clear hGG GG
    rw [← List.append_assoc]
    exact List.mem_append_right _ hq
  · clear F' N' S' V2
    intro k v m₁ news₁ m₂ news₂ it h tk hk hv z2 z3 F' N'
    refine nameG fun GG hGG => ?_
    obtain ⟨ndk, V1, rfl, okk, Gk⟩ := z2
    obtain ⟨rfl, rfl⟩ := z3
    refine hGG ?_; clear hGG GG
    try (with_reducible refine nameQ ?_; intro Q' hQ')
    have V' := V1.set (x := Str.ofString "node") (v := v) (l' := _) (by walk_at "m")
    clear V1
    refine nameG fun GG hGG => ?_
    obtain ⟨q, tq, hq, rfl⟩ := strs_get hrs k v (by simpa using hv)
    refine hGG ?_; clear hGG GG
    have hnk : (((ps.take k).foldl passF G).map (·.1)).Nodup := by rw [passFs_names]; exact hnd
    have hqk : q ∈ ndk.map (·.nm) := by rw [Gk.names, passFs_names]; exact hin q (List.mem_of_getElem? hq)
    refine nameG fun GG hGG => ?_
    obtain ⟨pre', post', nd', rfl, hnm', hval'⟩ := value_has hqk
    refine hGG ?_; clear hGG GG
    have N1 := Led.back N'
    clear N'
    rw [List.append_assoc, sorter_split] at N1
    dsimp only at N1
    have hdc := okk.dict
    have hlo := okk.lo
    refine oneN ?_
    with_reducible refine plainObj_wpAny_Assign_Attribute ?_ ?_; rotate_left; with_unfolding_all rfl
    k_dflt (refine' nmK ‹_› ‹_› ‹_› (by k_is) ?_ rfl rfl (by kernel_rfl) (by kernel_rfl))
    refine Subscript_ ?_
    refine' nmVq ‹_› ‹_› rfl (by walk_at "g") ?_ (by kernel_rfl)
    refine' nmVq ‹_› ‹_› rfl (by walk_at "g") ?_ (by kernel_rfl)
    refine' dItem (knd := PySem.strKind _ _) ‹_› ‹_› (by k_mem) (strKind_is _ _ _ _) ‹_› ?_ (by with_unfolding_all rfl) (by (intro _; with_unfolding_all rfl))
    intro _
    rename Fr _ _ _ _ => oldF
    rename Led _ _ _ _ => oldN
    k_dflt (refine' setSlotM oldF ‹_› oldN (by exact Led.inst ‹_› (by k_mem) (by k_mem)) (by k_is) (by k_is) (by k_is) (by k_is) (by k_is) (by decide) rfl (by walk_at "s") ?_; intro h' tk' F' N'; clear oldF oldN)
    with_reducible refine hQ' _ _ ?_
    clear hQ' Q'
    dsimp only
    obtain ⟨ntx, N2⟩ : ∃ ntx, Led g L' h' ((sorterLed w ⟨S, dS, D, k1, k2, k3, k4, .ref R, po, pt, nf, ft, e, oD⟩ (pre' ++ { nd' with np := -1, nt := ntx } :: post') ++ ([(R, listOf rs.toArray er)] ++ [(T', tupOf rs)])) ++ [(I', it)]) := ⟨_, by rw [List.append_assoc, sorter_split]; exact N'⟩
    have G2 := Gk.mod (a' := { nd' with np := -1, nt := ntx }) hnk (f := fun _ s => (-1, s)) (fun p hp => ⟨hp.nm, rfl, hp.su⟩)
    have ok2 := okk.kv (nds' := pre' ++ { nd' with np := -1, nt := ntx } :: post') (kvsOf_mid rfl rfl)
    refine FPost.intro _ F' (Led.front N2) (List.Sublist.refl _) ⟨_, V'.sub (by walk_at "u"), rfl, ok2, ?_⟩
    rw [take_step hq, List.foldl_append]
    subst hnm'
    exact G2
  · clear F' N' S' V2
    intro h' tk' m' news' F' N' z4
    refine nameG fun GG hGG => ?_
    obtain ⟨nds', V', rfl, ok', G'⟩ := z4
    refine hGG ?_; clear hGG GG
    rw [show rs.toArray.size = ps.length by simp [hpl], List.take_length] at G'
    rw [sorter_open, List.cons_append, List.nil_append] at N'
    dsimp only at N'
    refine hR'.next ?_
    clear hR' R'
    refine seqG ?_
    intro R' hR'
    refine wpAny_Expr_any ?_
    refine MethodCall_ ?_
    with_reducible refine Attribute_Name_ ?_
    refine' nmVq ‹_› ‹_› rfl (by walk_at "g") ?_ (by kernel_rfl)
    k_dflt (refine' getOwnM ‹_› ‹_› (by exact Led.inst ‹_› (by k_mem) (by k_mem)) (by k_is) (by k_is) (by k_is) (by k_is) (by k_get) (by k_handed) ?_; intro _)
    refine getMethod_builtin ⟨_, (by walk_at "o"), rfl⟩ PySem.F.plainAttrs_list PySem.F.slot_list_clear PySem.F.type_list_clear (by intro a e; cases e; exact ⟨_, (by walk_at "o"), rfl⟩) ?_
    refine callWith_method0 ?_
    rename Fr _ _ _ _ => oldF
    rename Led _ _ _ _ => oldN
    refine' clearM oldF oldN (by walk_at "s") ‹_› (by walk_at "b") ?_
    intro h' F' N'
    clear oldF oldN
    refine hR'.next ?_
    clear hR' R'
    refine seqG ?_
    intro R' hR'
    with_reducible refine wpAny_AugAssign_AttributeAny ?_
    refine' nmVq ‹_› ‹_› rfl (by walk_at "g") ?_ (by kernel_rfl)
    k_dflt (refine' getOwnM ‹_› ‹_› (by exact Led.inst ‹_› (by k_mem) (by k_mem)) (by k_is) (by k_is) (by k_is) (by k_is) (by k_get) (by k_handed) ?_; intro _)
    refine Call_ ?_
    k_dflt (refine' nmB ‹_› ‹_› ‹_› (by k_is) (by boot_by_name) (by decide) ?_ rfl rfl rfl (by kernel_rfl) (by kernel_rfl))
    refine callWith_method1 ?_
    refine args_cons ?_
    refine' nmVq ‹_› ‹_› rfl (by walk_at "g") ?_ (by kernel_rfl)
    refine args_nil ?_
    try dsimp only [List.cons_append, List.nil_append]
    refine' lenTupM (by walk_at "o") (by walk_at "om") ?_
    intro nt' tk'
    refine iaddM ?_
    intro nt' tk'
    rename Fr _ _ _ _ => oldF
    rename Led _ _ _ _ => oldN
    k_dflt (refine' setOwnM oldF ‹_› oldN (by exact Led.inst ‹_› (by k_mem) (by k_mem)) (by k_is) (by k_is) (by k_is) (by k_is) (by k_get) (by first | exact put_rdy | exact put_po | exact put_nf) (by walk_at "s") (Nat.le_of_ble_eq_true rfl) ?_; intro h' tk' F' N'; clear oldF oldN)
    refine hR'.next ?_
    clear hR' R'
    refine oneN ?_
    refine wpAny_Return_some ?_
    refine' nmVq ‹_› ‹_› rfl (by walk_at "g") ?_ (by kernel_rfl)
    dsimp only
    refine hret _ _ _ _ ⟨T', nt', nds', rfl, ok'.re rfl rfl, G', rfl⟩ (sepOf F' N' ?_)
    rw [List.append_assoc]
    exact List.Sublist.refl _
end
end
section
section
variable (w : World) (loose : List Str) (mean : ExcName → Option Value) (mg mb : Str → Option Value)
theorem c_doneC (σ : SrA) (R : Addr) (hr : σ.rdy = .ref R) (nds : List NdA) (G : Gr) (ok : SOk w σ nds) (hG : NdsAre nds G) (hnd : (G.map (·.1)).Nodup) (rd : List Value) (rds : List Str) (er : Nat) (hrd : StrsAre rd rds) (vs : List Value) (ps : List Str) (hps : StrsAre vs ps) (hlen : ps.length ≤ 90) (hrl : rds.length ≤ 1000) (hsh : short G 1000)
   (hst : ∀ k q, ps[k]? = some q → q ∈ G.map (·.1) ∧ npOf ((ps.take k).foldl finF (G, rds)).1 q = -1 ∧ ∀ s ∈ suOf G q, s ∈ G.map (·.1)) :
   HeapCode w loose mean mg mb 2 230 (.ref σ.S :: vs) [] (sorterLed w σ nds ++ [(R, listOf rd.toArray er)]) (fun v n => ∃ (ft' : Tok) (nds' : List NdA) (rd' : List Value) (er' : Nat), v = .none ∧ SOk w { σ with nf := σ.nf + (vs.length : Nat), ft := ft' } nds' ∧ NdsAre nds' (ps.foldl finF (G, rds)).1 ∧ StrsAre rd' (ps.foldl finF (G, rds)).2 ∧ n = sorterLed w { σ with nf := σ.nf + (vs.length : Nat), ft := ft' } nds' ++ [(R, listOf rd'.toArray er')]) := by
  unfold HeapCode
  k_fill
  intro dp un gd outer base g s R0 hB hX hT hsz hS hdp hun hret
  refine nameG fun GG hGG => ?_
  obtain ⟨hh, gs, dr, tk, os⟩ := s
  obtain ⟨S, dS, D, k1, k2, k3, k4, rdy, po, pt, nf, ft, e, oD⟩ := σ
  refine hGG ?_; clear hGG GG
  dsimp only at *
  subst hr
  have hpl := hps.len_eq
  refine' enterV (g := g) (rest := vs) (binds := fun t' => [(Str.ofString "self", .ref S), (Str.ofString "nodes", t')]) ?kX ?kT ?ksz ?kS ?k6 ?k7 ?k8 ?k9 ?kr ?kl ?kbn ?_ ?co ?gen ?kd ?kc
  case kX => assumption
  case kT => assumption
  case ksz => first | exact Nat.le_refl _ | assumption
  case kS => first | assumption | exact Sep.nil fun _ _ e => e
  case k6 => k_is
  case k7 => k_is
  case k8 => k_room
  case k9 => first | exact bindV2 | exact bindV1 | fail "enterV"
  case kr => lia
  case kl => intro t'; exact locs rfl
  case kbn => (intro t'; simp only [List.map_cons, List.map_nil]; decide +kernel)
  case co => exact rfl
  case gen => exact rfl
  case kd => exact rfl
  case kc => decide
  intro D0 L' m' h₁ tk' F' V' N'
  have N1 := Led.back N'
  clear N'
  rw [List.append_assoc, sorter_open] at N1
  dsimp only at N1 V'
  show wpAny _ _ (execs (_ :: _) _) _ _ _
  refine seqG ?_
  intro R' hR'
  refine wpAny_If ?_
  refine wpAny_isTrue_Compare1 ?_
  with_reducible refine Attribute_Name_ ?_
  refine' nmVq ‹_› ‹_› rfl (by walk_at "g") ?_ (by kernel_rfl)
  k_dflt (refine' getOwnM ‹_› ‹_› (by exact Led.inst ‹_› (by k_mem) (by k_mem)) (by k_is) (by k_is) (by k_is) (by k_is) (by k_get) (by k_handed) ?_; intro _)
  walk_at "eval Constant none"
  refine wpAny_is_other (by rfl) (by intro hh; cases hh) ?_
  refine wpAny_truthy_bool ?_
  rw [if_neg Bool.false_ne_true]
  refine wpAny_execs_nil ?_
  refine hR'.next ?_
  clear hR' R'
  refine seqG ?_
  intro R' hR'
  refine wpAny_Assign_Name ?_
  with_reducible refine Attribute_Name_ ?_
  refine' nmVq ‹_› ‹_› rfl (by walk_at "g") ?_ (by kernel_rfl)
  k_dflt (refine' getOwnM ‹_› ‹_› (by exact Led.inst ‹_› (by k_mem) (by k_mem)) (by k_is) (by k_is) (by k_is) (by k_is) (by k_get) (by k_handed) ?_; intro _)
  with_reducible rename Knows _ _ => oldV
  rename Fr _ _ _ _ => oldF
  rename Led _ _ _ _ => oldN
  refine' stVq oldF oldN oldV (by walk_at "m") ?_ rfl (by kernel_rfl)
  intro m' h' tk' F' N' V'
  clear oldF oldN oldV
  refine hR'.next ?_
  clear hR' R'
  refine oneN ?_
  refine forM ?_ (by intro _; rfl)
  refine' nmVq ‹_› ‹_› rfl (by walk_at "g") ?_ (by kernel_rfl)
  have N2 : Led g L' h' (sorterLed w ⟨S, dS, D, k1, k2, k3, k4, .ref R, po, pt, nf, ft, e, oD⟩ nds ++ ([(R, listOf rd.toArray er)] ++ [(D0, tupOf vs)])) := by assumption
  have F2 := F'
  have V2 := V'
  clear N' F' V'
  refine tupSrcF (by rfl) F2 N2 (by rw [← List.append_assoc]; exact List.mem_append_right _ (.head _)) ?_
  intro I' h' F' N' hI S'
  clear F2 N2
  refine ForAt.mk (fun k m news => ∃ ft' nds' rd' er', Knows m [(Str.ofString "self", .ref S), (Str.ofString "n2i", .ref D)] ∧ news = sorterLed w ⟨S, dS, D, k1, k2, k3, k4, .ref R, po, pt, nf + (k : Nat), ft', e, oD⟩ nds' ++ ([(R, listOf (List.toArray rd') er')] ++ [(D0, tupOf vs)]) ∧ SOk w ⟨S, dS, D, k1, k2, k3, k4, .ref R, po, pt, nf + (k : Nat), ft', e, oD⟩ nds' ∧ NdsAre nds' ((ps.take k).foldl finF (G, rds)).1 ∧ StrsAre rd' ((ps.take k).foldl finF (G, rds)).2) S' F' N' hI ?_ ?_ (fstoreL rfl rfl (by kernel_rfl)) ?_ ?_
  · exact ⟨ft, nds, rd, er, V2.sub (by walk_at "u"), by rw [show nf + ((0 : Nat) : Int) = nf from by lia], ok.re rfl rfl, hG, hrd⟩
  · intro i m news z1 q hq
    refine nameG fun GG hGG => ?_
    obtain ⟨_, _, _, _, _, rfl, _⟩ := z1
    refine hGG ?_; clear hGG GG
    rw [← List.append_assoc]
    exact List.mem_append_right _ hq
  · clear F' N' S' V2
    intro k v m₁ news₁ m₂ news₂ it h tk hk hv z2 z3 F' N'
    refine nameG fun GG hGG => ?_
    obtain ⟨ftk, ndk, rdk, erk, V1, rfl, okk, Gk, hrk⟩ := z2
    obtain ⟨rfl, rfl⟩ := z3
    refine hGG ?_; clear hGG GG
    try (with_reducible refine nameQ ?_; intro Q' hQ')
    have V' := V1.set (x := Str.ofString "node") (v := v) (l' := _) (by walk_at "m")
    clear V1
    refine nameG fun GG hGG => ?_
    obtain ⟨q, tq, hq, rfl⟩ := strs_get hps k v (by simpa using hv)
    obtain ⟨hq1, hq2, hq3⟩ := hst k q hq
    refine hGG ?_; clear hGG GG
    have hsk := finFs_skel (ps.take k) (G, rds)
    have hlk := finFs_len (n := 1000) (ps.take k) (G, rds) (fun q => short_su hsh q)
    have hkl : (ps.take k).length ≤ 90 := by rw [List.length_take]; lia
    generalize hstk : (ps.take k).foldl finF (G, rds) = stk at *
    have hnk : (stk.1.map (·.1)).Nodup := by rw [names_skel hsk]; exact hnd
    have hqk : q ∈ ndk.map (·.nm) := by rw [Gk.names, names_skel hsk]; exact hq1
    refine nameG fun GG hGG => ?_
    obtain ⟨pre', post', nd', rfl, hnm', hval'⟩ := value_has hqk
    refine hGG ?_; clear hGG GG
    have hnp : nd'.np = -1 := by rw [← Gk.np hnk, hnm']; exact hq2
    have hsu := Gk.suO hnk
    rw [hnm', suOf_skel hsk] at hsu
    refine nameG fun GG hGG => ?_
    obtain ⟨nn, tn, xn, dxn, Un, npn, ntn, sun, epn⟩ := nd'
    refine hGG ?_; clear hGG GG
    dsimp only at *
    subst hnm'
    subst hnp
    have N1 := Led.back N'
    clear N'
    rw [List.append_assoc, sorter_split] at N1
    dsimp only at N1
    have hdc := okk.dict
    have hlo := okk.lo
    refine seqG ?_
    intro R' hR'
    refine wpAny_If ?_
    refine wpAny_isTrue_Compare1 ?_
    with_reducible refine wpAny_NamedExpr ?_
    refine MethodCall_ ?_
    refine' nmVq ‹_› ‹_› rfl (by walk_at "g") ?_ (by kernel_rfl)
    refine dGetMeth (knd := PySem.strKind _ _) (by assumption) (by assumption) (by k_mem) ?_
    refine callWith_method1 ?_
    refine args_cons ?_
    refine' nmVq ‹_› ‹_› rfl (by walk_at "g") ?_ (by kernel_rfl)
    refine args_nil ?_
    try dsimp only [List.cons_append, List.nil_append]
    refine dGet1 (knd := PySem.strKind _ _) (by assumption) (by assumption) (by k_mem) (by assumption) (strKind_is _ _ _ _) _ (by assumption) ?_
    intro _
    try dsimp only [Option.getD]
    with_reducible refine assignNameM ?_
    with_reducible rename Knows _ _ => oldV
    rename Fr _ _ _ _ => oldF
    rename Led _ _ _ _ => oldN
    refine' stVq oldF oldN oldV (by walk_at "m") ?_ rfl (by kernel_rfl)
    intro m' h' tk' F' N' V'
    clear oldF oldN oldV
    walk_at "eval Constant none"
    refine wpAny_is_other (by rfl) (by intro hh; cases hh) ?_
    refine wpAny_truthy_bool ?_
    rw [if_neg Bool.false_ne_true]
    refine wpAny_execs_nil ?_
    refine hR'.next ?_
    clear hR' R'
    refine seqG ?_
    intro R' hR'
    refine wpAny_Assign_Name ?_
    with_reducible refine Attribute_Name_ ?_
    refine' nmVq ‹_› ‹_› rfl (by walk_at "g") ?_ (by kernel_rfl)
    k_dflt (refine' getSlotM ‹_› ‹_› (by exact Led.inst ‹_› (by k_mem) (by k_mem)) (by k_is) (by k_is) (by k_is) (by k_is) (by k_is) (by k_is) rfl (by k_handed) ?_; intro _)
    with_reducible rename Knows _ _ => oldV
    rename Fr _ _ _ _ => oldF
    rename Led _ _ _ _ => oldN
    refine' stVq oldF oldN oldV (by walk_at "m") ?_ rfl (by kernel_rfl)
    intro m' h' tk' F' N' V'
    clear oldF oldN oldV
    refine hR'.next ?_
    clear hR' R'
    refine seqG ?_
    intro R' hR'
    refine wpAny_If ?_
    refine wpAny_isTrue_Compare1 ?_
    refine' nmVq ‹_› ‹_› rfl (by walk_at "g") ?_ (by kernel_rfl)
    k_dflt (refine' nmK ‹_› ‹_› ‹_› (by k_is) ?_ rfl rfl (by kernel_rfl) (by kernel_rfl))
    with_reducible refine ne_int ?_
    refine wpAny_truthy_bool ?_
    rw [if_neg (by decide)]
    refine wpAny_execs_nil ?_
    refine hR'.next ?_
    clear hR' R'
    refine seqG ?_
    intro R' hR'
    with_reducible refine plainObj_wpAny_Assign_Attribute ?_ ?_; rotate_left; with_unfolding_all rfl
    k_dflt (refine' nmK ‹_› ‹_› ‹_› (by k_is) ?_ rfl rfl (by kernel_rfl) (by kernel_rfl))
    refine' nmVq ‹_› ‹_› rfl (by walk_at "g") ?_ (by kernel_rfl)
    rename Fr _ _ _ _ => oldF
    rename Led _ _ _ _ => oldN
    k_dflt (refine' setSlotM oldF ‹_› oldN (by exact Led.inst ‹_› (by k_mem) (by k_mem)) (by k_is) (by k_is) (by k_is) (by k_is) (by k_is) (by decide) rfl (by walk_at "s") ?_; intro h' tk' F' N'; clear oldF oldN)
    refine hR'.next ?_
    clear hR' R'
    refine seqG ?_
    intro R' hR'
    refine forM ?_ (by intro _; rfl)
    with_reducible refine Attribute_Name_ ?_
    refine' nmVq ‹_› ‹_› rfl (by walk_at "g") ?_ (by kernel_rfl)
    k_dflt (refine' getSlotM ‹_› ‹_› (by exact Led.inst ‹_› (by k_mem) (by k_mem)) (by k_is) (by k_is) (by k_is) (by k_is) (by k_is) (by k_is) rfl (by k_handed) ?_; intro _)
    rename Led _ _ _ _ => N3; rename Fr _ _ _ _ => F3; rename Knows _ _ => V3
    obtain ⟨ntx, N4⟩ : ∃ ntx, Led g L' h' (sorterLed w ⟨S, dS, D, k1, k2, k3, k4, .ref R, po, pt, nf + (k : Nat), ftk, e, oD⟩ (pre' ++ ⟨nn, tn, xn, dxn, Un, -2, ntx, sun, epn⟩ :: post') ++ ([(R, listOf (List.toArray rdk) erk)] ++ ([(D0, tupOf vs)] ++ [(I', it)]))) := ⟨_, by rw [sorter_split, ← List.append_assoc [(R, listOf (List.toArray rdk) erk)]]; exact N3⟩
    clear N3
    have G2 := Gk.mod (a' := ⟨nn, tn, xn, dxn, Un, -2, ntx, sun, epn⟩) hnk (f := fun _ s => (-2, s)) (fun p hp => ⟨hp.nm, rfl, hp.su⟩)
    have ok2 := okk.kv (nds' := pre' ++ ⟨nn, tn, xn, dxn, Un, -2, ntx, sun, epn⟩ :: post') (kvsOf_mid rfl rfl)
    have hs0 : skel (modG stk.1 nn fun _ l => (-2, l)) = skel G := (skel_mod stk.1 nn fun _ => -2).trans hsk
    have hfin : finF stk nn = (suOf G nn).foldl relaxS (modG stk.1 nn fun _ l => (-2, l), stk.2) := by unfold finF; rw [suOf_skel hsk]
    have hul : (Un, listOf (List.toArray sun) epn) ∈ nodesLed (pre' ++ ⟨nn, tn, xn, dxn, Un, -2, ntx, sun, epn⟩ :: post') := by rw [nodesLed_app, nodesLed_cons]; exact List.mem_append_right _ (.head _)
    have hsl := short_su hsh nn
    have hsn := strs_len hsu
    generalize hst0 : (modG stk.1 nn fun _ l => (-2, l), stk.2) = st0 at *
    have hst01 : st0.1 = modG stk.1 nn fun _ l => (-2, l) := by rw [← hst0]
    have hst02 : st0.2 = stk.2 := by rw [← hst0]
    rw [← hst01] at G2 hs0
    rw [← hst02] at hrk hlk
    generalize pre' ++ (⟨nn, tn, xn, dxn, Un, -2, ntx, sun, epn⟩ : NdA) :: post' = nds2 at *
    refine listSrcF (its := List.toArray sun) (ep := epn) (by rfl) F3 N4 (List.mem_append_left _ (by unfold sorterLed; exact .tail _ (.tail _ (.tail _ hul)))) ?_
    intro I2 h' F' N' hI2 S2
    clear F3 N4
    refine ForAt.mk (fun j m news => ∃ nds' rd' er', Knows m [(Str.ofString "self", .ref S), (Str.ofString "n2i", .ref D)] ∧ news = sorterLed w ⟨S, dS, D, k1, k2, k3, k4, .ref R, po, pt, nf + (k : Nat), ftk, e, oD⟩ nds' ++ ([(R, listOf (List.toArray rd') er')] ++ ([(D0, tupOf vs)] ++ [(I', it)])) ∧ SOk w ⟨S, dS, D, k1, k2, k3, k4, .ref R, po, pt, nf + (k : Nat), ftk, e, oD⟩ nds' ∧ NdsAre nds' (((suOf G nn).take j).foldl relaxS st0).1 ∧ StrsAre rd' (((suOf G nn).take j).foldl relaxS st0).2 ∧ (Un, listOf (List.toArray sun) epn) ∈ nodesLed nds') S2 F' N' hI2 ?_ ?_ (fstoreL rfl rfl (by kernel_rfl)) ?_ ?_
    · exact ⟨nds2, rdk, erk, V3.sub (by walk_at "u"), rfl, ok2, G2, hrk, hul⟩
    · intro i m news z4 q hq
      refine nameG fun GG hGG => ?_
      obtain ⟨_, _, _, _, rfl, _, _, _, hu⟩ := z4
      refine hGG ?_; clear hGG GG
      rw [List.mem_singleton.mp hq]
      refine List.mem_append_left _ ?_
      unfold sorterLed; exact .tail _ (.tail _ (.tail _ hu))
    · clear F' N' S2 V3 ok2 G2 hrk hul
      intro j v m₁ news₁ m₂ news₂ it2 h tk hj hv z5 z6 F' N'
      refine nameG fun GG hGG => ?_
      obtain ⟨ndj, rdj, erj, V1, rfl, okj, Gj, hrj, huj⟩ := z5
      obtain ⟨rfl, rfl⟩ := z6
      refine hGG ?_; clear hGG GG
      try (with_reducible refine nameQ ?_; intro Q' hQ')
      have V' := V1.set (x := Str.ofString "successor") (v := v) (l' := _) (by walk_at "m")
      clear V1
      refine nameG fun GG hGG => ?_
      obtain ⟨s, ts, hs, rfl⟩ := strs_get hsu j v (by simpa using hv)
      refine hGG ?_; clear hGG GG
      have hskj := (relaxs_skel ((suOf G nn).take j) st0).trans hs0
      have hlj := relaxs_len ((suOf G nn).take j) st0
      rw [List.length_take] at hlj
      generalize hstj : ((suOf G nn).take j).foldl relaxS st0 = stj at *
      have hnj : (stj.1.map (·.1)).Nodup := by rw [names_skel hskj]; exact hnd
      have hsj : s ∈ ndj.map (·.nm) := by rw [Gj.names, names_skel hskj]; exact hq3 s (List.mem_of_getElem? hs)
      refine nameG fun GG hGG => ?_
      obtain ⟨pre', post', nd', rfl, hnm', hval'⟩ := value_has hsj
      refine hGG ?_; clear hGG GG
      have N1 := Led.back N'
      clear N'
      rw [List.append_assoc, sorter_split] at N1
      dsimp only [List.cons_append, List.nil_append] at N1
      have hdc := okj.dict
      have hlo := okj.lo
      have hrdl : rdj.length ≤ 100000 := by rw [strs_len hrj]; lia
      have fin : ∀ ntx rd' er' h' tk' m' l5, Fr g L' h' m' → Led g L' h' ((sorterLed w ⟨S, dS, D, k1, k2, k3, k4, .ref R, po, pt, nf + (k : Nat), ftk, e, oD⟩ (pre' ++ { nd' with np := nd'.np - 1, nt := ntx } :: post') ++ ([(R, listOf (List.toArray rd') er')] ++ ([(D0, tupOf vs)] ++ [(I', it)]))) ++ [(I2, it2)]) → Knows m' l5 → [(Str.ofString "self", Value.ref S), (Str.ofString "n2i", .ref D)].Sublist l5 →
          StrsAre rd' (if nd'.np - 1 = 0 then stj.2 ++ [s] else stj.2) → FPost g L' gs dr os (I2, it2) (fun m news => ∃ nds' rd' er', Knows m [(Str.ofString "self", .ref S), (Str.ofString "n2i", .ref D)] ∧ news = sorterLed w ⟨S, dS, D, k1, k2, k3, k4, .ref R, po, pt, nf + (k : Nat), ftk, e, oD⟩ nds' ++ ([(R, listOf (List.toArray rd') er')] ++ ([(D0, tupOf vs)] ++ [(I', it)])) ∧ SOk w ⟨S, dS, D, k1, k2, k3, k4, .ref R, po, pt, nf + (k : Nat), ftk, e, oD⟩ nds' ∧ NdsAre nds' (((suOf G nn).take (j + 1)).foldl relaxS st0).1 ∧ StrsAre rd' (((suOf G nn).take (j + 1)).foldl relaxS st0).2 ∧ (Un, listOf (List.toArray sun) epn) ∈ nodesLed nds') ⟨h', gs, dr, tk', os⟩ := by
        intro ntx rd' er' h' tk' m' l5 F N V sV hr
        have G3 := Gj.mod (a' := { nd' with np := nd'.np - 1, nt := ntx }) hnj (f := fun n s => (n - 1, s)) (fun p hp => ⟨hp.nm, by show nd'.np - 1 = _; rw [hp.np], hp.su⟩)
        have ok3 := okj.kv (nds' := pre' ++ { nd' with np := nd'.np - 1, nt := ntx } :: post') (kvsOf_mid rfl rfl)
        have hn3 : ((modG stj.1 nd'.nm fun n s => (n - 1, s)).map (·.1)).Nodup := by rw [modG_names]; exact hnj
        have hnp3 := G3.np hn3
        have e3 : ((suOf G nn).take (j + 1)).foldl relaxS st0 = relaxS stj s := by rw [take_step hs, List.foldl_append, hstj]; rfl
        refine FPost.intro _ F (Led.front N) (List.Sublist.refl _) ⟨_, rd', er', V.sub sV, rfl, ok3, ?_, ?_, ?_⟩
        · rw [e3]; subst hnm'; exact G3
        · rw [e3]
          unfold relaxS
          dsimp only
          rw [← hnm', hnp3]
          dsimp only
          rw [hnm']
          exact hr
        · rw [nodesLed_app, nodesLed_cons] at huj ⊢
          rcases List.mem_append.mp huj with h1 | h1
          · exact List.mem_append_left _ h1
          · refine List.mem_append_right _ ?_
            rcases List.mem_cons.mp h1 with h2 | h1
            · rw [h2]; exact .head _
            · refine .tail _ ?_
              rcases List.mem_cons.mp h1 with h2 | h1
              · exact absurd (congrArg (fun q => q.2.data) h2) (by unfold ndObj W.listOf; intro hh; cases hh)
              · exact .tail _ h1
      refine seqG ?_
      intro R' hR'
      refine wpAny_Assign_Name ?_
      refine Subscript_ ?_
      refine' nmVq ‹_› ‹_› rfl (by walk_at "g") ?_ (by kernel_rfl)
      refine' nmVq ‹_› ‹_› rfl (by walk_at "g") ?_ (by kernel_rfl)
      refine' dItem (knd := PySem.strKind _ _) ‹_› ‹_› (by k_mem) (strKind_is _ _ _ _) ‹_› ?_ (by with_unfolding_all rfl) (by (intro _; with_unfolding_all rfl))
      intro _
      with_reducible rename Knows _ _ => oldV
      rename Fr _ _ _ _ => oldF
      rename Led _ _ _ _ => oldN
      refine' stVq oldF oldN oldV (by walk_at "m") ?_ rfl (by kernel_rfl)
      intro m' h' tk' F' N' V'
      clear oldF oldN oldV
      refine hR'.next ?_
      clear hR' R'
      refine seqG ?_
      intro R' hR'
      with_reducible refine wpAny_AugAssign_AttributeAny ?_
      refine' nmVq ‹_› ‹_› rfl (by walk_at "g") ?_ (by kernel_rfl)
      k_dflt (refine' getSlotM ‹_› ‹_› (by exact Led.inst ‹_› (by k_mem) (by k_mem)) (by k_is) (by k_is) (by k_is) (by k_is) (by k_is) (by k_is) rfl (by k_handed) ?_; intro _)
      refine constIntM ?_
      refine isubM ?_
      intro nt' tk'
      rename Fr _ _ _ _ => oldF
      rename Led _ _ _ _ => oldN
      k_dflt (refine' setSlotM oldF ‹_› oldN (by exact Led.inst ‹_› (by k_mem) (by k_mem)) (by k_is) (by k_is) (by k_is) (by k_is) (by k_is) (by decide) rfl (by walk_at "s") ?_; intro h' tk' F' N'; clear oldF oldN)
      refine hR'.next ?_
      clear hR' R'
      refine oneN ?_
      refine wpAny_If ?_
      refine wpAny_isTrue_Compare1 ?_
      with_reducible refine Attribute_Name_ ?_
      refine' nmVq ‹_› ‹_› rfl (by walk_at "g") ?_ (by kernel_rfl)
      k_dflt (refine' getSlotM ‹_› ‹_› (by exact Led.inst ‹_› (by k_mem) (by k_mem)) (by k_is) (by k_is) (by k_is) (by k_is) (by k_is) (by k_is) rfl (by k_handed) ?_; intro _)
      refine constIntM ?_
      with_reducible refine eq_int ?_
      refine wpAny_truthy_bool ?_
      focus
       refine split_bool ?_ ?_ <;> intro hb <;> (first | (have := eq_of_beq hb; clear hb) | (have := ne_of_beq_false hb; clear hb))
       refine oneN ?_
       refine wpAny_Expr_any ?_
       refine MethodCall_ ?_
       with_reducible refine Attribute_Name_ ?_
       refine' nmVq ‹_› ‹_› rfl (by walk_at "g") ?_ (by kernel_rfl)
       k_dflt (refine' getOwnM ‹_› ‹_› (by exact Led.inst ‹_› (by k_mem) (by k_mem)) (by k_is) (by k_is) (by k_is) (by k_is) (by k_get) (by k_handed) ?_; intro _)
       refine getMethod_builtin ⟨_, (by walk_at "o"), rfl⟩ PySem.F.plainAttrs_list PySem.F.slot_list_append PySem.F.type_list_append (by intro a e; cases e; exact ⟨_, (by walk_at "o"), rfl⟩) ?_
       refine callWith_method1 ?_
       refine args_cons ?_
       refine' nmVq ‹_› ‹_› rfl (by walk_at "g") ?_ (by kernel_rfl)
       refine args_nil ?_
       try dsimp only [List.cons_append, List.nil_append]
       rename Fr _ _ _ _ => oldF
       rename Led _ _ _ _ => oldN
       refine' appendLM oldF oldN (by walk_at "s") (by walk_at "b") ?_
       intro h' F' N'
       clear oldF oldN
       with_reducible refine hQ' _ _ ?_
       clear hQ' Q'
       dsimp only
       rotate_left
       refine wpAny_execs_nil ?_
       with_reducible refine hQ' _ _ ?_
       clear hQ' Q'
       dsimp only
       rotate_left
      · refine fin _ _ _ _ _ _ _ F' (by rw [List.append_assoc, sorter_split]; exact N') V' (by walk_at "u") ?_
        rw [if_pos (by walk_at "oml")]
        exact strs_snoc hrj _ _
      · refine fin _ _ _ _ _ _ _ F' (by rw [List.append_assoc, sorter_split]; exact N') V' (by walk_at "u") ?_
        rw [if_neg (by walk_at "oml")]
        exact hrj
    · clear F' N' S2 V3 ok2 G2 hrk hul
      intro h' tk' m' news' F' N' z7
      refine nameG fun GG hGG => ?_
      obtain ⟨nds', rd', er', V', rfl, ok', G', hr', _⟩ := z7
      refine hGG ?_; clear hGG GG
      rw [show (List.toArray sun).size = (suOf G nn).length by simp [hsn], List.take_length] at G' hr'
      rw [sorter_open] at N'
      dsimp only [List.cons_append, List.nil_append] at N'
      refine hR'.next ?_
      clear hR' R'
      refine oneN ?_
      with_reducible refine wpAny_AugAssign_AttributeAny ?_
      refine' nmVq ‹_› ‹_› rfl (by walk_at "g") ?_ (by kernel_rfl)
      k_dflt (refine' getOwnM ‹_› ‹_› (by exact Led.inst ‹_› (by k_mem) (by k_mem)) (by k_is) (by k_is) (by k_is) (by k_is) (by k_get) (by k_handed) ?_; intro _)
      refine constIntM ?_
      refine iaddM ?_
      intro nt' tk'
      rename Fr _ _ _ _ => oldF
      rename Led _ _ _ _ => oldN
      k_dflt (refine' setOwnM oldF ‹_› oldN (by exact Led.inst ‹_› (by k_mem) (by k_mem)) (by k_is) (by k_is) (by k_is) (by k_is) (by k_get) (by first | exact put_rdy | exact put_po | exact put_nf) (by walk_at "s") (Nat.le_of_ble_eq_true rfl) ?_; intro h' tk' F' N'; clear oldF oldN)
      with_reducible refine hQ' _ _ ?_
      clear hQ' Q'
      dsimp only
      refine FPost.intro (sorterLed w ⟨S, dS, D, k1, k2, k3, k4, .ref R, po, pt, nf + ((k + 1 : Nat) : Int), nt', e, oD⟩ nds' ++ ([(R, listOf (List.toArray rd') er')] ++ [(D0, tupOf vs)])) F' (Led.front (x := (I', it)) ?_) (List.Sublist.refl _) ⟨nt', nds', rd', er', V'.sub (by walk_at "u"), rfl, ok'.re rfl rfl, ?_, ?_⟩
      · rw [show nf + ((k + 1 : Nat) : Int) = nf + (k : Nat) + 1 from by lia, List.append_assoc, sorter_open]; exact N'
      · rw [take_step hq, List.foldl_append, hstk]
        show NdsAre nds' (finF stk nn).1
        rw [hfin]; exact G'
      · rw [take_step hq, List.foldl_append, hstk]
        show StrsAre rd' (finF stk nn).2
        rw [hfin]; exact hr'
  · clear F' N' S' V2
    intro h' tk' m' news' F' N' z8
    refine nameG fun GG hGG => ?_
    obtain ⟨ft', nds', rd', er', V', rfl, ok', G', hr'⟩ := z8
    refine hGG ?_; clear hGG GG
    rw [show vs.toArray.size = ps.length by simp [hpl], List.take_length] at G' hr'
    rw [show vs.toArray.size = vs.length by simp] at N' ok'
    dsimp only
    refine hret _ _ _ _ ⟨ft', nds', rd', er', rfl, ok', G', hr', rfl⟩ (sepOf F' N' ?_)
    rw [← List.append_assoc]
    exact List.sublist_append_left _ _
end
end
section
inductive CyA (w : World) (dp un : Nat) (gd : Option (List Code)) (outer : List Env) (base g : Heap) (σ : SrA) (nds : List NdA) (G : Gr) (ρ : Str → Nat) (S D SA IA EA NA : Addr) (g' : Heap) (m : Str → Option Value) : List (Addr × Obj) → Prop
  | mk (Sn : Str → Bool) (n : Nat) (oE oN : Obj) (ep1 ep2 : Nat) : TurnedAt dp un gd outer base g g' → Knows m (cyNames S D SA IA EA NA) → CyOk w ρ nds G [] Sn n [] oE oN →
    CyA w dp un gd outer base g σ nds G ρ S D SA IA EA NA g' m (cyLed w σ nds NA EA IA SA oN oE ep1 ep2 [])
inductive CyB (w : World) (dp un : Nat) (gd : Option (List Code)) (outer : List Env) (base g : Heap) (σ : SrA) (nds : List NdA) (G : Gr) (ρ : Str → Nat) (S D SA IA EA NA : Addr) (own : Addr × Obj) : Nat → Heap → (Str → Option Value) → List (Addr × Obj) → Prop
  | mk {g' m} (st : List StE) (Sn : Str → Bool) (n : Nat) (kvs : List (Str × Value)) (oE oN : Obj) (ep1 ep2 : Nat) (qn : Str) (tn : Tok) : TurnedAt dp un gd outer base g g' → Knows m (cyNames S D SA IA EA NA ++ [(Str.ofString "node", .str qn tn)]) → CyOk w ρ nds G st Sn n kvs oE oN →
    qn ∈ G.map (·.1) → (∀ s ∈ st, ρ qn < ρ s.q) → CyB w dp un gd outer base g σ nds G ρ S D SA IA EA NA own (cyM G Sn st) g' m (own :: cyLed w σ nds NA EA IA SA oN oE ep1 ep2 st)
inductive CyC (w : World) (dp un : Nat) (gd : Option (List Code)) (outer : List Env) (base g : Heap) (σ : SrA) (nds : List NdA) (G : Gr) (ρ : Str → Nat) (S D SA IA EA NA : Addr) (own : Addr × Obj) (M0 : Nat) : Nat → Heap → (Str → Option Value) → List (Addr × Obj) → Prop
  | mk {g' m} (st : List StE) (Sn : Str → Bool) (n : Nat) (kvs : List (Str × Value)) (oE oN : Obj) (ep1 ep2 : Nat) : TurnedAt dp un gd outer base g g' → Knows m (cyNames S D SA IA EA NA) → CyOk w ρ nds G st Sn n kvs oE oN → cyM G Sn st ≤ M0 →
    CyC w dp un gd outer base g σ nds G ρ S D SA IA EA NA own M0 st.length g' m (own :: cyLed w σ nds NA EA IA SA oN oE ep1 ep2 st)
section
variable (w : World) (loose : List Str) (mean : ExcName → Option Value) (mg mb : Str → Option Value)
theorem c_cycle (σ : SrA) (nds : List NdA) (G : Gr) (ok : SOk w σ nds) (hG : NdsAre nds G) (hnd : (G.map (·.1)).Nodup) (hlen : G.length ≤ 90) (hsh : short G 1000) (ρ : Str → Nat) (hρ : ∀ q, ρ q ≤ 100) (hac : ∀ q ∈ G.map (·.1), ∀ s ∈ suOf G q, s ∈ G.map (·.1) ∧ ρ s < ρ q) :
   TurnFn w loose mean mg mb 2 237 [.ref σ.S] [] (sorterLed w σ nds) (fun v n => v = .none ∧ n = sorterLed w σ nds) := by
  unfold TurnFn
  k_fill
  intro dp un gd outer base g s Q E hB hXb hTb hD hsz hS hdp hun hret
  refine nameG fun GG hGG => ?_
  obtain ⟨hh, gs, dr, tk, os⟩ := s
  obtain ⟨S, dS, D, k1, k2, k3, k4, rdy, po, pt, nf, ft, e, oD⟩ := σ
  refine hGG ?_; clear hGG GG
  dsimp only at *
  have hX := hXb.keeps hB.stays
  have hT := hTb.keeps hB.stays
  refine wpAny_call ?_
  refine' enterN (g := g) (binds := [(Str.ofString "self", .ref S)]) ?kX ?kT ?ksz ?kS ?k6 ?k7 ?k8 ?k9 ?kl ?kbn ?_ ?co ?gen ?kd ?kc
  case kX => assumption
  case kT => assumption
  case ksz => first | exact Nat.le_refl _ | assumption
  case kS => first | assumption | exact Sep.nil fun _ _ e => e
  case k6 => k_is
  case k7 => k_is
  case k8 => k_room
  case k9 => first | exact BindsTo.of_eq (by kernel_rfl!) | exact binds_K (by k_in) rfl (by k_is) rfl rfl rfl | fail "enter: no rule for these arguments"
  case kl => exact locs rfl
  case kbn => (simp only [List.map_cons, List.map_nil]; decide +kernel)
  case co => exact rfl
  case gen => exact rfl
  case kd => exact rfl
  case kc => decide
  intro L' m' h₁ tk' F' V' N'
  rw [← List.append_nil (sorterLed _ _ _), sorter_open] at N'
  dsimp only at N'
  have hdc := ok.dict
  have hlo := ok.lo
  show wpAny _ _ (execs (_ :: _) _) _ _ _
  refine seqG ?_
  intro R' hR'
  refine wpAny_Assign_Name ?_
  with_reducible refine Attribute_Name_ ?_
  refine' nmVq ‹_› ‹_› rfl (by walk_at "g") ?_ (by kernel_rfl)
  k_dflt (refine' getOwnM ‹_› ‹_› (by exact Led.inst ‹_› (by k_mem) (by k_mem)) (by k_is) (by k_is) (by k_is) (by k_is) (by k_get) (by k_handed) ?_; intro _)
  with_reducible rename Knows _ _ => oldV
  rename Fr _ _ _ _ => oldF
  rename Led _ _ _ _ => oldN
  refine' stVq oldF oldN oldV (by walk_at "m") ?_ rfl (by kernel_rfl)
  intro m' h' tk' F' N' V'
  clear oldF oldN oldV
  refine hR'.next ?_
  clear hR' R'
  refine seqG ?_
  intro R' hR'
  refine wpAny_Assign_Name ?_
  refine List_ ?_
  refine args_nil ?_
  try dsimp only [List.cons_append, List.nil_append]
  rename Fr _ _ _ _ => oldF
  rename Led _ _ _ _ => oldN
  refine newList_M oldF oldN ?_
  intro a' h' F' N'
  clear oldF oldN
  with_reducible rename Knows _ _ => oldV
  rename Fr _ _ _ _ => oldF
  rename Led _ _ _ _ => oldN
  refine' stVq oldF oldN oldV (by walk_at "m") ?_ rfl (by kernel_rfl)
  intro m' h' tk' F' N' V'
  clear oldF oldN oldV
  refine hR'.next ?_
  clear hR' R'
  refine seqG ?_
  intro R' hR'
  refine wpAny_Assign_Name ?_
  refine List_ ?_
  refine args_nil ?_
  try dsimp only [List.cons_append, List.nil_append]
  rename Fr _ _ _ _ => oldF
  rename Led _ _ _ _ => oldN
  refine newList_M oldF oldN ?_
  intro a' h' F' N'
  clear oldF oldN
  with_reducible rename Knows _ _ => oldV
  rename Fr _ _ _ _ => oldF
  rename Led _ _ _ _ => oldN
  refine' stVq oldF oldN oldV (by walk_at "m") ?_ rfl (by kernel_rfl)
  intro m' h' tk' F' N' V'
  clear oldF oldN oldV
  refine hR'.next ?_
  clear hR' R'
  refine seqG ?_
  intro R' hR'
  refine wpAny_Assign_Name ?_
  refine Call_ ?_
  k_dflt (refine' nmB ‹_› ‹_› ‹_› (by k_is) (by boot_by_name) (by decide) ?_ rfl rfl rfl (by kernel_rfl) (by kernel_rfl))
  walk_at "callWith"
  rename Fr _ _ _ _ => oldF
  rename Led _ _ _ _ => oldN
  refine setNewM oldF oldN ?_
  intro e' h' oS' F' N' hset'
  clear oldF oldN
  with_reducible rename Knows _ _ => oldV
  rename Fr _ _ _ _ => oldF
  rename Led _ _ _ _ => oldN
  refine' stVq oldF oldN oldV (by walk_at "m") ?_ rfl (by kernel_rfl)
  intro m' h' tk' F' N' V'
  clear oldF oldN oldV
  refine hR'.next ?_
  clear hR' R'
  refine seqG ?_
  intro R' hR'
  refine wpAny_Assign_Name ?_
  rename Fr _ _ _ _ => oldF
  rename Led _ _ _ _ => oldN
  refine newDictM oldF oldN (Top.nolimit (by assumption)) ?_
  intro d' h' o' F' N' lo' hdict'
  clear oldF oldN
  with_reducible rename Knows _ _ => oldV
  rename Fr _ _ _ _ => oldF
  rename Led _ _ _ _ => oldN
  refine' stVq oldF oldN oldV (by walk_at "m") ?_ rfl (by kernel_rfl)
  intro m' h' tk' F' N' V'
  clear oldF oldN oldV
  refine hR'.next ?_
  clear hR' R'
  refine seqG ?_
  intro R' hR'
  refine forTM ?_ (by intro _; rfl)
  refine' nmVq ‹_› ‹_› rfl (by walk_at "g") ?_ (by kernel_rfl)
  rename Fr _ _ _ _ => F1; rename Led _ _ _ _ => N1; rename Knows _ _ => V1
  rename Obj.SetObjOf _ _ _ _ => hset1
  rename_i SA _ _ _ _ _ _ _ _ _ _ _ _ _
  have hkl : (kvsOf nds).map (·.1) = G.map (·.1) := by rw [← hG.names]; unfold kvsOf; rw [List.map_map]; rfl
  refine dictKeysT (by rfl) F1 N1 (by k_mem) hdc hlo ?_
  intro I0 h' F' N' hI hI0 S'
  clear F1 N1
  intro px E'
  refine ⟨I0, rfl, ?_⟩
  have T0 : TurnedAt dp un gd outer base g g := ⟨KtsTurn.refl, hB, hD⟩
  have hsc : scanBound = 4096 := rfl
  generalize hσ : (⟨S, dS, D, k1, k2, k3, k4, rdy, po, pt, nf, ft, e, oD⟩ : SrA) = σ at *
  have hσD : σ.D = D := by rw [← hσ]
  have hσo : σ.oD = oD := by rw [← hσ]
  refine for_coreT (h₀ := g) (Jt := fun v m news m' news' => (m' = fun y => if y = Str.ofString "node" then some v else m y) ∧ news' = news) S' F' N' hI0 hI (fun _ g' m news => CyA w dp un gd outer base g σ nds G ρ S D SA a' e' d' g' m news) ?j0 ?hfx ?ST ?step ?fin
  case j0 => (have := CyA.mk (w := w) (σ := σ) (ρ := ρ) _ _ _ _ 0 0 T0 V1 (⟨hset1, hdict', rfl, ⟨fun _ h => (nomatch h), List.Pairwise.nil⟩, by rw [sumU_one]; lia⟩ : CyOk w ρ nds G [] _ _ [] _ _); rw [← hσ] at this ⊢; exact this)
  case hfx =>
    intro i g' m news z1 q hq
    refine nameG fun GG hGG => ?_
    obtain ⟨Sn, n, oE, oN, ep1, ep2, _, _, _⟩ := z1
    refine hGG ?_; clear hGG GG
    rw [List.mem_singleton.mp hq]
    try rw [← hσD]
    try rw [← hσo]
    unfold cyLed sorterLed
    k_mem
  case ST => intro g'; exact fstoreL rfl rfl (by kernel_rfl)
  case fin =>
    intro g' h' tk m' news' F' N' z2
    refine nameG fun GG hGG => ?_
    obtain ⟨Sn, n, oE, oN, ep1, ep2, T1, V1, _⟩ := z2
    refine hGG ?_; clear hGG GG
    have hX' := hXb.keeps T1.below.stays
    have hT' := hTb.keeps T1.below.stays
    refine hR'.next ?_
    clear hR' R'
    refine oneN ?_
    refine wpAny_Return_some ?_
    walk_at "eval Constant none"
    dsimp only
    refine hret _ _ _ _ _ ⟨rfl, rfl⟩ T1.turn (sepOf (by assumption) (by assumption) ?_)
    unfold cyLed
    rw [List.append_nil]
    exact (List.Sublist.refl _).cons _ |>.cons _ |>.cons _ |>.cons _
  case step =>
    clear F' N' S' V1 hset1 hdict' T0
    intro k v g' m₁ news₁ m₂ news₂ it h tk hk z3 z4 z5 F' N'
    refine nameG fun GG hGG => ?_
    obtain ⟨q, x, tq, hq, rfl⟩ := z3
    obtain ⟨Sn, n, oE, oN, ep1, ep2, T1, V1, ck⟩ := z4
    obtain ⟨rfl, rfl⟩ := z5
    refine hGG ?_; clear hGG GG
    with_reducible refine nameQ ?_; intro Q' hQ'
    have V' := V1.set (x := Str.ofString "node") (v := Value.str q tq) (l' := _) (by walk_at "m")
    clear V1
    have hX' := hXb.keeps T1.below.stays
    have hT' := hTb.keeps T1.below.stays
    have hqG : q ∈ G.map (·.1) := by rw [← hkl]; exact List.mem_map_of_mem (f := fun p : Str × Value => p.1) (List.mem_of_getElem? hq)
    have hs := ck.hset
    have hnb : n < scanBound := by have := ck.cnt; lia
    unfold cyLed at N'
    cases hSq : Sn q with
    | true =>
      refine seqG ?_
      intro R' hR'
      refine wpAny_If ?_
      refine wpAny_isTrue_Compare1 ?_
      refine' nmVq ‹_› ‹_› rfl (by walk_at "g") ?_ (by kernel_rfl)
      refine' nmVq ‹_› ‹_› rfl (by walk_at "g") ?_ (by kernel_rfl)
      refine' setInM ‹_› (by k_mem) ‹_› ‹_› ‹_› ?_
      intro tk'
      refine wpAny_truthy_bool ?_
      rw [if_pos rfl]
      refine oneN ?_
      refine wpAny_Continue ?_
      with_reducible refine hR'.other (fun hf => Flow.noConfusion hf) ?_
      clear hR' R'
      with_reducible refine hQ' _ _ ?_
      clear hQ' Q'
      dsimp only
      exact FPostT.intro _ (by assumption) (by assumption) (List.Sublist.refl _) (.mk Sn n oE oN ep1 ep2 T1 (V'.sub (by walk_at "u")) ck)
    | false =>
      refine seqG ?_
      intro R' hR'
      refine wpAny_If ?_
      refine wpAny_isTrue_Compare1 ?_
      refine' nmVq ‹_› ‹_› rfl (by walk_at "g") ?_ (by kernel_rfl)
      refine' nmVq ‹_› ‹_› rfl (by walk_at "g") ?_ (by kernel_rfl)
      refine' setInM ‹_› (by k_mem) ‹_› ‹_› ‹_› ?_
      intro tk'
      refine wpAny_truthy_bool ?_
      rw [if_neg Bool.false_ne_true]
      refine wpAny_execs_nil ?_
      refine hR'.next ?_
      clear hR' R'
      refine oneN ?_
      refine StopHere.go ?_
      constructor
      refine whileT (fun kk g1 m news => CyB w dp un gd outer base g σ nds G ρ S D SA a' e' d' (I0, it) kk g1 m news) (cyM G Sn []) F' N' ?_ ?_
      · exact .mk [] Sn n [] oE oN ep1 ep2 q tq T1 V' ck hqG fun _ h => (nomatch h)
      · clear F' N' V' hX' hT' hs hnb hSq hqG ck T1
        intro kk g1 m1 news1 h1 tk1 F' N' z6
        refine nameG fun GG hGG => ?_
        obtain ⟨st, Sn, n, kvs, oE, oN, ep1, ep2, qn, tn, T1, V', ck, hqG, hdown⟩ := z6
        refine hGG ?_; clear hGG GG
        have hX' := hXb.keeps T1.below.stays
        have hT' := hTb.keeps T1.below.stays
        have hs := ck.hset
        have hdk := ck.hdict
        have hnb : n < scanBound := by have := ck.cnt; lia
        have hnk : valueAt kvs qn = none := keys_none (by
          rw [ck.keys]
          intro hm
          obtain ⟨s, hs1, e⟩ := List.mem_map.mp hm
          have := hdown s (List.mem_reverse.mp hs1)
          rw [e] at this
          exact Nat.lt_irrefl _ this)
        have hns : (valueAt kvs qn).isSome = false := by rw [hnk]; rfl
        simp only [cyNames, List.cons_append, List.nil_append] at V'
        have hsl := ck.stk.len hρ
        have hl1 : (stkRefs st).length ≤ 101 := by rw [stkRefs_len]; exact hsl
        have hl2 : (stkStrs st).length ≤ 101 := by rw [stkStrs_len]; exact hsl
        have hkvl : kvs.length ≤ 101 := by have := congrArg List.length ck.keys; rw [List.length_map, List.length_map, List.length_reverse] at this; lia
        have hqk : qn ∈ nds.map (·.nm) := by rw [hG.names]; exact hqG
        refine nameG fun GG hGG => ?_
        obtain ⟨pre', post', nd', hnds', hnm', hval'⟩ := value_has hqk
        refine hGG ?_; clear hGG GG
        have hnb2 : n + 1 < scanBound := by have := ck.cnt; lia
        have hdc := ok.dict
        have hlo := ok.lo
        generalize hM0 : cyM G Sn st = M0 at *
        refine isTrue_plain ?_
        refine Constant_bool ?_
        refine wpAny_truthy_bool ?_
        rw [if_pos rfl]
        with_reducible refine nameQ ?_; intro Q' hQ'
        with_reducible refine seqN ?_
        intro RJ hRJ hOJ
        have hJ : ∀ h tk m news kk, Fr g1 L' h m → Led g1 L' h news → CyC w dp un gd outer base g σ nds G ρ S D SA a' e' d' (I0, it) M0 kk g1 m news → RJ .next ⟨h, gs, dr, tk, os⟩ := by
          clear N' F' V' ck hs hdk hnb hnk hns hsl hl1 hl2 hkvl hqk hnds' hnm' hval' hnb2 hqG hdown hM0 hdc hlo T1 hX' hT'
          intro h tk m news kk F' N' hC
          refine hRJ _ ?_
          clear hRJ hOJ RJ
          refine oneN ?_
          refine StopHere.go ?_
          constructor
          refine whileT (fun kk g2 m news => CyC w dp un gd outer base g σ nds G ρ S D SA a' e' d' (I0, it) M0 kk g2 m news) kk F' N' hC ?_
          clear F' N' hC
          intro kk g2 m2 news2 h2 tk2 F' N' z7
          refine nameG fun GG hGG => ?_
          obtain ⟨st, Sn, n, kvs, oE, oN, epa, epb, T1, V', ck, hM⟩ := z7
          refine hGG ?_; clear hGG GG
          have hX' := hXb.keeps T1.below.stays
          have hT' := hTb.keeps T1.below.stays
          simp only [cyNames, List.cons_append, List.nil_append] at V'
          have hsl := ck.stk.len hρ
          rcases st with _ | ⟨s, st⟩
          all_goals (unfold cyLed at N')
          · simp only [stkStrs, stkRefs, List.reverse_nil, List.map_nil] at N'
            refine isTrue_plain ?_
            refine' nmVq ‹_› ‹_› rfl (by walk_at "g") ?_ (by kernel_rfl)
            refine' truthyListM (by walk_at "o") (by walk_at "b") ?_
            intro tk'
            rw [if_neg (by simp)]
            refine oneN ?_
            refine wpAny_Break ?_
            with_reducible refine hQ' _ _ ?_
            clear hQ' Q'
            with_reducible refine hQ' _ _ ?_
            clear hQ' Q'
            dsimp only
            have hk0 : kvs = [] := by have := ck.keys; simpa using this
            subst hk0
            exact FPostT.intro (cyLed w σ nds d' e' a' SA oN oE epa epb []) F' N' (List.Sublist.refl _) (.mk Sn n oE oN epa epb T1 (V'.sub (by walk_at "u")) ck)
          · rw [stkLed_cons, stkStrs_cons, stkRefs_cons] at N'
            simp only [List.cons_append] at N'
            have hl1 : (stkRefs st).length ≤ 101 := by rw [stkRefs_len]; rw [List.length_cons] at hsl; lia
            have hl2 : (stkStrs st).length ≤ 101 := by rw [stkStrs_len]; rw [List.length_cons] at hsl; lia
            refine isTrue_plain ?_
            refine' nmVq ‹_› ‹_› rfl (by walk_at "g") ?_ (by kernel_rfl)
            refine' truthyListM (by walk_at "o") (by walk_at "b") ?_
            intro tk'
            rw [if_pos (by simp)]
            refine oneN ?_
            refine wpAny_Try_except ?_
            refine seqG ?_
            intro R' hR'
            refine wpAny_Assign_Name ?_
            refine Call_ ?_
            refine Subscript_ ?_
            refine' nmVq ‹_› ‹_› rfl (by walk_at "g") ?_ (by kernel_rfl)
            with_reducible refine UnaryOp_ ?_
            refine constIntM ?_
            refine negM ?_
            refine' lastItemM (by walk_at "o") (by walk_at "b") ?_ (by with_unfolding_all rfl)
            refine' callWithMw (it := _) (by walk_at "o") ?_
            refine nameG fun GG hGG => ?_
            obtain ⟨ndx, hmx, hnx, hUx⟩ := ck.stk.nodes s (.head _)
            obtain ⟨prx, pox, hpx⟩ := List.append_of_mem hmx
            refine hGG ?_; clear hGG GG
            have hsux : StrsAre ndx.su (suOf G s.q) := by rw [← hnx]; exact (hpx ▸ hG : NdsAre (prx ++ ndx :: pox) G).suO hnd
            have hsG : s.q ∈ G.map (·.1) := by rw [← hG.names, ← hnx]; exact List.mem_map_of_mem hmx
            have hU : (s.l, listOf (List.toArray ndx.su) ndx.ep) ∈ sorterLed w σ nds ++ [] := by
              rw [← hUx, hpx]
              refine List.mem_append_left _ ?_
              unfold sorterLed
              rw [nodesLed_app, nodesLed_cons]
              exact .tail _ (.tail _ (.tail _ (List.mem_append_right _ (.head _))))
            cases hv : ndx.su[s.j]? with
            | some v =>
              refine nameG fun GG hGG => ?_
              obtain ⟨q', t', hq', rfl⟩ := strs_get hsux s.j v hv
              refine hGG ?_; clear hGG GG
              refine mwItemM F' N' (by k_mem) (N'.get (.tail _ (.tail _ (.tail _ (List.mem_append_right _ (.tail _ (.tail _ (.tail _ (.tail _ hU))))))))) (by walk_at "s") hv ?_
              intro h' F' N'
              with_reducible rename Knows _ _ => oldV
              rename Fr _ _ _ _ => oldF
              rename Led _ _ _ _ => oldN
              refine' stVq oldF oldN oldV (by walk_at "m") ?_ rfl (by kernel_rfl)
              intro m' h' tk' F' N' V'
              clear oldF oldN oldV
              refine hR'.next ?_
              clear hR' R'
              refine oneN ?_
              refine wpAny_Break ?_
              with_reducible refine hQ' _ _ ?_
              clear hQ' Q'
              dsimp only
              obtain ⟨hq1, hq2⟩ := hac s.q hsG q' (List.mem_of_getElem? hq')
              have hjl : s.j < (suOf G s.q).length := (List.getElem?_eq_some_iff.mp hq').1
              have hpw := List.pairwise_cons.mp ck.stk.desc
              refine WPostT.intro ((I0, it) :: cyLed w σ nds d' e' a' SA oN oE epa epb ({ s with j := s.j + 1 } :: st)) (cyM G Sn ({ s with j := s.j + 1 } :: st)) F' (by unfold cyLed; rw [stkLed_cons, stkStrs_cons, stkRefs_cons]; exact N') (List.Sublist.refl _) ?_ (.mk ({ s with j := s.j + 1 } :: st) Sn n kvs oE oN epa epb q' t' T1 V' ⟨ck.hset, ck.hdict, by rw [ck.keys]; simp, ⟨?_, ?_⟩, ck.cnt⟩ hq1 ?_)
              · refine Nat.lt_of_lt_of_le ?_ hM
                unfold cyM
                rw [stkM_cons, stkM_cons]
                dsimp only
                lia
              · intro x hx
                rcases List.mem_cons.mp hx with rfl | hx
                · exact ck.stk.nodes s (.head _)
                · exact ck.stk.nodes x (.tail _ hx)
              · exact List.pairwise_cons.mpr ⟨hpw.1, hpw.2⟩
              · intro x hx
                rcases List.mem_cons.mp hx with rfl | hx
                · exact hq2
                · exact Nat.lt_trans hq2 (hpw.1 x hx)
            | none =>
              refine mwEndM (by rfl) F' N' (by k_mem) (N'.get (.tail _ (.tail _ (.tail _ (List.mem_append_right _ (.tail _ (.tail _ (.tail _ (.tail _ hU))))))))) (by intro o'; walk_at "s") hv ?_
              intro hm h' ee o' F' N' hn
              refine caught_own (T' := "StopIteration") (KF := hd.heap_39 w.params) (p := hd.view_39) (mean := mean) hn F' N'.N T1.below hXb hTb T1.dicts T1.turn (by k_is) (by boot_by_name) (by decide) (by rw [isSubtype_type]; kernel_rfl) (by rw [isSubtype_type]; kernel_rfl) (by rw [isSubtype_type]; kernel_rfl) ?_ rfl (by kernel_rfl) (by kernel_rfl)
              intro h3 g3 T3 F3 N3 K3 X3 P3 D3
              have N4 : Led g3 L' h3 _ := ⟨N3, N'.nd⟩
              clear N' F' hX' hT' N3
              have hdk := ck.hdict
              have hdv : (valueAt kvs s.q).isSome = true := keys_some (by rw [ck.keys]; simp)
              have hkvl : kvs.length ≤ 1000 := by have := congrArg List.length ck.keys; rw [List.length_map, List.length_map, List.length_reverse] at this; lia
              refine seqG ?_
              intro R' hR'
              refine wpAny_Delete ?_
              refine wpAny_deleteEach_cons ?_
              refine wpAny_delete_Subscript ?_
              refine' nmVq ‹_› ‹_› rfl (by walk_at "g") ?_ (by kernel_rfl)
              refine MethodCall_ ?_
              refine' nmVq ‹_› ‹_› rfl (by walk_at "g") ?_ (by kernel_rfl)
              refine getMethod_builtin ⟨_, (by walk_at "o"), rfl⟩ PySem.F.plainAttrs_list PySem.F.slot_list_pop PySem.F.type_list_pop (by intro a e; cases e; exact ⟨_, (by walk_at "o"), rfl⟩) ?_
              refine callWith_method0 ?_
              rename Fr _ _ _ _ => oldF
              rename Led _ _ _ _ => oldN
              refine' popM oldF oldN (by walk_at "s") (by walk_at "b") ?_
              intro h' F' N'
              clear oldF oldN
              rename Fr _ _ _ _ => oldF
              rename Led _ _ _ _ => oldN
              refine' delM oldF oldN ‹_› (by (intro o'; walk_at "s")) ‹_› ‹_› ?_
              intro h' oD' tk' F' N' hdict'
              clear oldF oldN
              refine wpAny_deleteEach_nil ?_
              refine hR'.next ?_
              clear hR' R'
              refine oneN ?_
              refine wpAny_Expr_any ?_
              refine MethodCall_ ?_
              refine' nmVq ‹_› ‹_› rfl (by walk_at "g") ?_ (by kernel_rfl)
              refine getMethod_builtin ⟨_, (by walk_at "o"), rfl⟩ PySem.F.plainAttrs_list PySem.F.slot_list_pop PySem.F.type_list_pop (by intro a e; cases e; exact ⟨_, (by walk_at "o"), rfl⟩) ?_
              refine callWith_method0 ?_
              rename Fr _ _ _ _ => oldF
              rename Led _ _ _ _ => oldN
              refine' popM oldF oldN (by walk_at "s") (by walk_at "b") ?_
              intro h' F' N'
              clear oldF oldN
              dsimp only
              have hpw := List.pairwise_cons.mp ck.stk.desc
              refine WPostT.intro ((I0, it) :: cyLed w σ nds d' e' a' SA oD' oE (epa + 1) (epb + 1) st) st.length F' N' (List.Sublist.cons_cons _ (List.Sublist.cons _ (List.Sublist.cons _ (List.Sublist.refl _)))) (by simp) (.mk st Sn n (without kvs s.q) oE oD' (epa + 1) (epb + 1) ⟨T3, K3, D3⟩ (V'.sub (by walk_at "u")) ⟨ck.hset, hdict', ?_, ck.stk.tail, ck.cnt⟩ ?_)
              · refine keys_without (by rw [ck.keys]; simp) fun hm => ?_
                obtain ⟨x, hx, ex⟩ := List.mem_map.mp hm
                have := hpw.1 x (List.mem_reverse.mp hx)
                rw [ex] at this
                exact Nat.lt_irrefl _ this
              · refine Nat.le_trans ?_ hM
                unfold cyM
                rw [stkM_cons]
                lia
        cases hSq : Sn qn
        case true =>
          unfold cyLed at N'
          refine wpAny_If ?_
          refine wpAny_isTrue_Compare1 ?_
          refine' nmVq ‹_› ‹_› rfl (by walk_at "g") ?_ (by kernel_rfl)
          refine' nmVq ‹_› ‹_› rfl (by walk_at "g") ?_ (by kernel_rfl)
          refine' setInM ‹_› (by k_mem) ‹_› ‹_› ‹_› ?_
          intro tk'
          refine wpAny_truthy_bool ?_
          rw [if_pos rfl]
          refine oneN ?_
          refine wpAny_If ?_
          refine wpAny_isTrue_Compare1 ?_
          refine' nmVq ‹_› ‹_› rfl (by walk_at "g") ?_ (by kernel_rfl)
          refine' nmVq ‹_› ‹_› rfl (by walk_at "g") ?_ (by kernel_rfl)
          refine' dIn (knd := PySem.strKind _ _) ?z9n ?z9h ?z9p ?z9l (strKind_is _ _ _ _) _ ?z9b ?_
          case z9n => assumption
          case z9p => k_mem
          case z9h => assumption
          case z9l => assumption
          case z9b => assumption
          intro tk'
          refine wpAny_truthy_bool ?_
          rw [if_neg Bool.false_ne_true]
          refine wpAny_execs_nil ?_
          exact hJ _ _ _ _ _ F' N' (.mk st Sn n kvs oE oN ep1 ep2 T1 (V'.sub (by walk_at "u")) ck (Nat.le_of_eq hM0))
        case false =>
          unfold cyLed at N'
          rw [hnds', sorter_split] at N'
          rw [hσD, hσo] at N'
          rw [hσo] at hdc
          rw [hσD] at hlo
          refine wpAny_If ?_
          refine wpAny_isTrue_Compare1 ?_
          refine' nmVq ‹_› ‹_› rfl (by walk_at "g") ?_ (by kernel_rfl)
          refine' nmVq ‹_› ‹_› rfl (by walk_at "g") ?_ (by kernel_rfl)
          refine' setInM ‹_› (by k_mem) ‹_› ‹_› ‹_› ?_
          intro tk'
          refine wpAny_truthy_bool ?_
          rw [if_neg Bool.false_ne_true]
          refine seqG ?_
          intro R' hR'
          refine wpAny_Expr_any ?_
          refine MethodCall_ ?_
          refine' nmVq ‹_› ‹_› rfl (by walk_at "g") ?_ (by kernel_rfl)
          refine' setGetM ‹_› (by k_mem) ‹_› ‹_› ?_
          refine callWith_method1 ?_
          refine args_cons ?_
          refine' nmVq ‹_› ‹_› rfl (by walk_at "g") ?_ (by kernel_rfl)
          refine args_nil ?_
          try dsimp only [List.cons_append, List.nil_append]
          rename Fr _ _ _ _ => oldF
          rename Led _ _ _ _ => oldN
          refine' setAddM oldF oldN ‹_› (by (intro o'; walk_at "s")) ‹_› ?_
          intro h' oS' tk' F' N' hset'
          clear oldF oldN
          refine hR'.next ?_
          clear hR' R'
          refine seqG ?_
          intro R' hR'
          refine wpAny_Expr_any ?_
          refine MethodCall_ ?_
          refine' nmVq ‹_› ‹_› rfl (by walk_at "g") ?_ (by kernel_rfl)
          refine getMethod_builtin ⟨_, (by walk_at "o"), rfl⟩ PySem.F.plainAttrs_list PySem.F.slot_list_append PySem.F.type_list_append (by intro a e; cases e; exact ⟨_, (by walk_at "o"), rfl⟩) ?_
          refine callWith_method1 ?_
          refine args_cons ?_
          with_reducible refine Attribute_any_ ?_
          refine Call_ ?_
          k_dflt (refine' nmB ‹_› ‹_› ‹_› (by k_is) (by boot_by_name) (by decide) ?_ rfl rfl rfl (by kernel_rfl) (by kernel_rfl))
          refine callWith_method1 ?_
          refine args_cons ?_
          with_reducible refine Attribute_any_ ?_
          refine Subscript_ ?_
          refine' nmVq ‹_› ‹_› rfl (by walk_at "g") ?_ (by kernel_rfl)
          refine' nmVq ‹_› ‹_› rfl (by walk_at "g") ?_ (by kernel_rfl)
          refine' dItem (knd := PySem.strKind _ _) ‹_› ‹_› (by k_mem) (strKind_is _ _ _ _) ‹_› ?_ (by with_unfolding_all rfl) (by (intro _; with_unfolding_all rfl))
          intro _
          k_dflt (refine' getSlotM ‹_› ‹_› (by exact Led.inst ‹_› (by k_mem) (by k_mem)) (by k_is) (by k_is) (by k_is) (by k_is) (by k_is) (by k_is) rfl (by k_handed) ?_; intro _)
          refine args_nil ?_
          try dsimp only [List.cons_append, List.nil_append]
          rename Fr _ _ _ _ => oldF
          rename Led _ _ _ _ => oldN
          refine' iterListM oldF oldN (by walk_at "o") ?_
          intro I' h' F' N'
          clear oldF oldN
          rename Fr _ _ _ _ => oldF
          rename Led _ _ _ _ => oldN
          refine' getNextM oldF oldN (by k_mem) ?_
          intro X' h' F' N' tk'
          clear oldF oldN
          refine args_nil ?_
          try dsimp only [List.cons_append, List.nil_append]
          rename Fr _ _ _ _ => oldF
          rename Led _ _ _ _ => oldN
          refine' appendLM oldF oldN (by walk_at "s") (by walk_at "b") ?_
          intro h' F' N'
          clear oldF oldN
          refine hR'.next ?_
          clear hR' R'
          refine seqG ?_
          intro R' hR'
          refine wpAny_Assign_Subscript ?_
          refine Call_ ?_
          k_dflt (refine' nmB ‹_› ‹_› ‹_› (by k_is) (by boot_by_name) (by decide) ?_ rfl rfl rfl (by kernel_rfl) (by kernel_rfl))
          refine callWith_method1 ?_
          refine args_cons ?_
          refine' nmVq ‹_› ‹_› rfl (by walk_at "g") ?_ (by kernel_rfl)
          refine args_nil ?_
          try dsimp only [List.cons_append, List.nil_append]
          refine' lenListM (by walk_at "o") (by first | assumption | walk_at "b") ?_
          intro nt' tk'
          refine' nmVq ‹_› ‹_› rfl (by walk_at "g") ?_ (by kernel_rfl)
          refine' nmVq ‹_› ‹_› rfl (by walk_at "g") ?_ (by kernel_rfl)
          rename Fr _ _ _ _ => oldF
          rename Led _ _ _ _ => oldN
          refine' dSet (knd := PySem.strKind _ _) oldF oldN ?z9hd ?z9U (strKind_is _ _ _ _) ?z9hz ?_
          case z9U => (intro o'; walk_at "s")
          case z9hd => assumption
          case z9hz => walk_at "b"
          intro h' oD' tk' F' N' hdict'
          clear oldF oldN
          refine hR'.next ?_
          clear hR' R'
          refine oneN ?_
          refine wpAny_Expr_any ?_
          refine MethodCall_ ?_
          refine' nmVq ‹_› ‹_› rfl (by walk_at "g") ?_ (by kernel_rfl)
          refine getMethod_builtin ⟨_, (by walk_at "o"), rfl⟩ PySem.F.plainAttrs_list PySem.F.slot_list_append PySem.F.type_list_append (by intro a e; cases e; exact ⟨_, (by walk_at "o"), rfl⟩) ?_
          refine callWith_method1 ?_
          refine args_cons ?_
          refine' nmVq ‹_› ‹_› rfl (by walk_at "g") ?_ (by kernel_rfl)
          refine args_nil ?_
          try dsimp only [List.cons_append, List.nil_append]
          rename Fr _ _ _ _ => oldF
          rename Led _ _ _ _ => oldN
          refine' appendLM oldF oldN (by walk_at "s") (by walk_at "b") ?_
          intro h' F' N'
          clear oldF oldN
          refine nameG fun GG hGG => ?_
          obtain ⟨p, hp, hp1, hp2⟩ := su_mem hqG
          refine hGG ?_; clear hGG GG
          refine hJ _ _ _ _ _ F' ?_ (.mk (⟨qn, tn, X', I', nd'.U, 0⟩ :: st) _ (n + 1) _ oS' oD' (ep1 + 1) (ep2 + 1) T1 (V'.sub (by walk_at "u")) ⟨by rw [hSq, if_neg Bool.false_ne_true] at hset'; exact hset', hdict', ?_, ⟨?_, ?_⟩, ?_⟩ ?_)
          · have N3 := N'.perm (List.perm_middle (l₁ := [(X', mwOf I'), (I', liOf nd'.U 0)]) (a := (I0, it)))
            unfold cyLed
            rw [stkLed_cons, stkRefs_cons, stkStrs_cons, hnds', sorter_split, hσD, hσo]
            exact N3
          · rw [stored_absent hnk, List.map_append, ck.keys]; simp
          · intro s hs
            rcases List.mem_cons.mp hs with rfl | hs
            · exact ⟨nd', by rw [hnds']; simp, hnm', rfl⟩
            · exact ck.stk.nodes s hs
          · exact List.pairwise_cons.mpr ⟨hdown, ck.stk.desc⟩
          · have := sumU_drop (f := fun _ => 1) hp hp1 hSq
            have := ck.cnt
            lia
          · have h5 := sumU_drop (f := fun p => p.2.2.length + 2) hp hp1 hSq
            rw [← hM0]
            unfold cyM
            rw [stkM_cons]
            dsimp only at h5 ⊢
            rw [hp2]
            lia
end
end
section
noncomputable def readyOf (G : Gr) : List Str := (G.filter fun p => p.2.1 == 0).map (·.1)
section
variable (w : World) (loose : List Str) (mean : ExcName → Option Value) (mg mb : Str → Option Value)
theorem c_prepare (σ : SrA) (hr : σ.rdy = .none) (nds : List NdA) (G : Gr) (ok : SOk w σ nds) (hG : NdsAre nds G) (hnd : (G.map (·.1)).Nodup) (hlen : G.length ≤ 90) (hsh : short G 1000) (ρ : Str → Nat) (hρ : ∀ q, ρ q ≤ 100) (hac : ∀ q ∈ G.map (·.1), ∀ s ∈ suOf G q, s ∈ G.map (·.1) ∧ ρ s < ρ q) :
   TurnFn w loose mean mg mb 4 202 [.ref σ.S] [] (sorterLed w σ nds) (fun v n => ∃ (R : Addr) (rs : List Value) (er : Nat), v = .none ∧ StrsAre rs (readyOf G) ∧ SOk w { σ with rdy := .ref R } nds ∧ n = sorterLed w { σ with rdy := .ref R } nds ++ [(R, listOf rs.toArray er)]) := by
  unfold TurnFn
  k_fill
  intro dp un gd outer base g s Q E hB hXb hTb hD hsz hS hdp hun hret
  refine nameG fun GG hGG => ?_
  obtain ⟨hh, gs, dr, tk, os⟩ := s
  obtain ⟨S, dS, D, k1, k2, k3, k4, rdy, po, pt, nf, ft, e, oD⟩ := σ
  refine hGG ?_; clear hGG GG
  dsimp only at *
  subst hr
  have hX := hXb.keeps hB.stays
  have hT := hTb.keeps hB.stays
  refine wpAny_call ?_
  refine' enterN (g := g) (binds := [(Str.ofString "self", .ref S)]) ?kX ?kT ?ksz ?kS ?k6 ?k7 ?k8 ?k9 ?kl ?kbn ?_ ?co ?gen ?kd ?kc
  case kX => assumption
  case kT => assumption
  case ksz => first | exact Nat.le_refl _ | assumption
  case kS => first | assumption | exact Sep.nil fun _ _ e => e
  case k6 => k_is
  case k7 => k_is
  case k8 => k_room
  case k9 => first | exact BindsTo.of_eq (by kernel_rfl!) | exact binds_K (by k_in) rfl (by k_is) rfl rfl rfl | fail "enter: no rule for these arguments"
  case kl => exact locs rfl
  case kbn => (simp only [List.map_cons, List.map_nil]; decide +kernel)
  case co => exact rfl
  case gen => exact rfl
  case kd => exact rfl
  case kc => decide
  intro L' m' h₁ tk' F' V' N'
  rw [← List.append_nil (sorterLed _ _ _), sorter_open] at N'
  dsimp only at N'
  have hdc := ok.dict
  have hlo := ok.lo
  show wpAny _ _ (execs (_ :: _) _) _ _ _
  refine seqG ?_
  intro R' hR'
  refine wpAny_If ?_
  refine wpAny_isTrue_Compare1 ?_
  with_reducible refine Attribute_Name_ ?_
  refine' nmVq ‹_› ‹_› rfl (by walk_at "g") ?_ (by kernel_rfl)
  k_dflt (refine' getOwnM ‹_› ‹_› (by exact Led.inst ‹_› (by k_mem) (by k_mem)) (by k_is) (by k_is) (by k_is) (by k_is) (by k_get) (by k_handed) ?_; intro _)
  walk_at "eval Constant none"
  refine wpAny_isNot_self (by rfl) ?_
  refine wpAny_truthy_bool ?_
  rw [if_neg Bool.false_ne_true]
  refine wpAny_execs_nil ?_
  refine hR'.next ?_
  clear hR' R'
  refine seqG ?_
  intro R' hR'
  with_reducible refine plainObj_wpAny_Assign_Attribute ?_ ?_; rotate_left; with_unfolding_all rfl
  refine' evalLC_L rfl (by decide) rfl (by decide) rfl ?_ (by (intro _; rfl))
  refine MethodCall_ ?_
  with_reducible refine Attribute_Name_ ?_
  refine' nmVq ‹_› ‹_› rfl (by walk_at "g") ?_ (by kernel_rfl)
  k_dflt (refine' getOwnM ‹_› ‹_› (by exact Led.inst ‹_› (by k_mem) (by k_mem)) (by k_is) (by k_is) (by k_is) (by k_is) (by k_get) (by k_handed) ?_; intro _)
  refine' valuesGetM ‹_› (by k_mem) ‹_› ?_
  refine callWith_method0 ?_
  rename Fr _ _ _ _ => oldF
  rename Led _ _ _ _ => oldN
  refine' valuesM oldF oldN (by k_mem) ‹_› ‹_› ?_
  intro v' h' F' N'
  clear oldF oldN
  have hkl : (kvsOf nds).length = G.length := by unfold kvsOf; rw [List.length_map, hG.len]
  refine valsSrc (by rfl) F' N' (by k_mem) (by k_mem) hdc (by have : sizeLine = 16777216 := rfl; lia) ?_
  intro I0 h' F2 N2 S'
  clear F' N'
  refine LCAtL.mk (fun i ys made => made = [] ∧ StrsAre ys (readyOf (G.take i))) S' F2 N2 ⟨rfl, StrsAre.nil⟩ ?_ ?_
  · intro i v C ys made g' h tk hi hP hJ Fo Fc Nc
    refine nameG fun GG hGG => ?_
    obtain ⟨q, hq⟩ := hP
    obtain ⟨rfl, hys⟩ := hJ
    refine hGG ?_; clear hGG GG
    have hx : ∃ ndi, nds[i]? = some ndi ∧ v = .ref ndi.x ∧ q = ndi.nm := by
      unfold kvsOf at hq
      rw [List.getElem?_map] at hq
      obtain ⟨ndi, h1, h2⟩ := Option.map_eq_some_iff.mp hq
      cases h2
      exact ⟨ndi, h1, rfl, rfl⟩
    refine nameG fun GG hGG => ?_
    obtain ⟨ndi, hi1, rfl, rfl⟩ := hx
    obtain ⟨pre', post', hsp⟩ := split_at hi1
    refine hGG ?_; clear hGG GG
    clear F2 N2 S' V'
    have Vc : Knows _ _ := Knows.mp (l := [(Str.ofString "i", Value.ref ndi.x)]) (by simp)
    have hXc := hX.keeps Fo.keep
    have hTc := hT.keeps Fo.keep
    rw [hsp, nodesLed_app, nodesLed_cons] at Nc
    simp only [List.nil_append, List.append_assoc, List.cons_append] at Nc
    with_reducible refine testsOf.one ?_
    refine wpAny_isTrue_Compare1 ?_
    with_reducible refine Attribute_Name_ ?_
    refine' nmVq ‹_› ‹_› rfl (by walk_at "g") ?_ (by kernel_rfl)
    k_dflt (refine' getSlotM ‹_› ‹_› (by exact Led.inst ‹_› (by k_mem) (by k_mem)) (by k_is) (by k_is) (by k_is) (by k_is) (by k_is) (by k_is) rfl (by k_handed) ?_; intro _)
    refine constIntM ?_
    with_reducible refine eq_int ?_
    refine wpAny_truthy_bool ?_
    focus
     refine split_bool ?_ ?_ <;> intro hb <;> (first | (have := eq_of_beq hb; clear hb) | (have := ne_of_beq_false hb; clear hb))
     with_reducible refine Attribute_Name_ ?_
     refine' nmVq ‹_› ‹_› rfl (by walk_at "g") ?_ (by kernel_rfl)
     k_dflt (refine' getSlotM ‹_› ‹_› (by exact Led.inst ‹_› (by k_mem) (by k_mem)) (by k_is) (by k_is) (by k_is) (by k_is) (by k_is) (by k_is) rfl (by k_handed) ?_; intro _)
     dsimp only
     rotate_left
     dsimp only
     rotate_left
    all_goals (
      obtain ⟨p, hp, hip⟩ := hG.get hi1
      refine EPost.intro [] (by assumption) (by assumption) (by rw [hsp, nodesLed_app, nodesLed_cons]; simp only [List.nil_append, List.append_assoc, List.cons_append]; exact List.Sublist.refl _) ⟨rfl, ?_⟩
      unfold readyOf at hys ⊢
      rw [take_step hp, List.filter_append, List.map_append])
    · rw [List.filter_cons_of_pos (by have := hip.np; simp; lia)]
      rw [hip.nm]
      exact strs_snoc hys _ _
    · rw [List.filter_cons_of_neg (by have := hip.np; simp; lia)]
      simpa using hys
  · rintro R h'' tk'' ys'' made ep'' ⟨rfl, hys''⟩ F' N'
    rw [hkl, List.take_length] at hys''
    simp only [List.nil_append] at N'
    refine' nmVq ‹_› ‹_› rfl (by walk_at "g") ?_ (by kernel_rfl)
    rename Fr _ _ _ _ => oldF
    rename Led _ _ _ _ => oldN
    k_dflt (refine' setOwnM oldF ‹_› oldN (by exact Led.inst ‹_› (by k_mem) (by k_mem)) (by k_is) (by k_is) (by k_is) (by k_is) (by k_get) (by first | exact put_rdy | exact put_po | exact put_nf) (by walk_at "s") (Nat.le_of_ble_eq_true rfl) ?_; intro h' tk' F' N'; clear oldF oldN)
    refine hR'.next ?_
    clear hR' R'
    refine seqG ?_
    intro R' hR'
    refine wpAny_Assign_Name ?_
    refine MethodCall_ ?_
    refine' nmVq ‹_› ‹_› rfl (by walk_at "g") ?_ (by kernel_rfl)
    k_dflt (refine' methM ‹_› ‹_› (by exact Led.inst ‹_› (by k_mem) (by k_mem)) (by k_is) (by k_is) (by k_is) (by k_get) ?_)
    walk_at "callWith ref"
    dsimp only
    have N3 : Led g L' h' (sorterLed w ⟨S, dS, D, k1, k2, k3, k4, .ref R, po, pt, nf, ft, e, oD⟩ nds ++ [(R, listOf (List.toArray ys'') ep'')]) := by
      have N5 := Led.back (N'.sub (List.Sublist.cons_cons _ (List.Sublist.cons _ (List.Sublist.refl _))))
      rw [List.append_nil] at N5
      exact N5
    refine TurnFn.use (c_cycle w loose mean mg mb ⟨S, dS, D, k1, k2, k3, k4, .ref R, po, pt, nf, ft, e, oD⟩ nds G (ok.re rfl rfl) hG hnd hlen hsh ρ hρ hac) hB F' hXb hTb hD N3 (by walk_at "oml") (by walk_at "oml") ?_ rfl rfl
    rintro v h2 g2 tk2 foot2 ⟨rfl, rfl⟩ T2 B2 D2 X2 P2 F3 N4
    clear F' N' N3
    with_reducible rename Knows _ _ => oldV
    rename Fr _ _ _ _ => oldF
    rename Led _ _ _ _ => oldN
    refine' stVq oldF oldN oldV (by walk_at "m") ?_ rfl (by kernel_rfl)
    intro m' h' tk' F' N' V'
    clear oldF oldN oldV
    refine hR'.next ?_
    clear hR' R'
    refine oneN ?_
    refine wpAny_If ?_
    refine isTrue_plain ?_
    refine' nmVq ‹_› ‹_› rfl (by walk_at "g") ?_ (by kernel_rfl)
    refine wpAny_pure ?_
    rw [if_neg Bool.false_ne_true]
    refine wpAny_execs_nil ?_
    dsimp only
    refine hret _ _ _ _ _ ⟨R, ys'', ep'', rfl, hys'', ok.re rfl rfl, rfl⟩ T2 (sepOf (by assumption) (by assumption) (List.Sublist.refl _))
end
end
section
open PySem PySem.W PySem.Calls PyProof.Rows
section
variable {prog : Program} {w : World} {A : Around} {gs : Array GenState} {dr : Drawn} {os : OsState}
theorem dc_core {kx vx iter : PySem.Expr} {x : Str} {px : Pos} {scope : Scope} {pos : Pos} {I D C : Addr} {g : Heap} {fp wr ex : List Addr} {n : Nat} {P : Nat → Value → Prop} {St : Nat → Heap → Prop} {cenv : Env} {news : List (Addr × Obj)}
    {TOk : Heap → Prop} {Sh : Value → List (Str × Value) → List (Addr × Obj) → Prop} {R : Result → Shared → Prop} {h0 : Heap} {tk0 : Nat} {o0 : Obj}
    (W : Walks prog w A I fp wr n P St) (hsz : n ≤ sizeLine) (K : CFix g fp wr ex D C St news) (T : Tgt prog w A cenv x px C ex TOk Sh)
    (J : Nat → List (Str × Value) → List (Addr × Obj) → Prop) (c0 : CSt g wr ex D C St news 0 h0 o0 []) (d0 : o0.IsDictOf (PySem.strKind prog w) []) (t0 : TOk h0) (j0 : J 0 [] [])
    (step : ∀ i v l cv kvs made g' h tk, i < n → P i v → Sh v l cv → J i kvs made → (∀ b o, g.get? b = some o → g'.get? b = some o) → Fr g' C h (mp l) → Led g' C h (made ++ (cv ++ news)) →
      wpAny (model prog w) A (eval kx cenv) (fun kv s₄ => wpAny (model prog w) A (eval vx cenv) (fun vv s₅ => ∃ k, (PySem.strKind prog w).is k kv = true ∧ EPost g' C gs dr os l (cv ++ news) (J (i + 1) (stored kvs k vv)) s₅) (fun _ _ => False) s₄) (fun _ _ => False) ⟨h, gs, dr, tk, os⟩)
    (hR : ∀ h tk kvs o made, J n kvs made → o.IsDictOf (PySem.strKind prog w) kvs → Sep g h ((D, o) :: (made ++ news)) → (∀ q ∈ (D, o) :: (made ++ news), q.1 ≠ C) → (∃ m, h.Ns C m) → R (.ok .next) ⟨h, gs, dr, tk, os⟩) :
    codeAny (model prog w) A (.compLoop (.DictComp kx vx [⟨.Name x px, iter, [], 0⟩] scope pos) 0 (.ref I) (.ref D) cenv) R ⟨h0, gs, dr, tk0, os⟩ := by
  refine codeAny_compLoop_testsD (fun k s' => ∃ i kvs made h tk o, s' = ⟨h, gs, dr, tk, os⟩ ∧ k = n + 1 - i ∧ i ≤ n ∧ CSt g wr ex D C St news i h o made ∧ o.IsDictOf (PySem.strKind prog w) kvs ∧ TOk h ∧ J i kvs made ∧ kvs.length ≤ i) ?_ (n + 1)
    ⟨0, [], [], h0, tk0, o0, rfl, rfl, Nat.zero_le _, c0, d0, t0, j0, Nat.le_refl _⟩
  intro k s' z1
  refine nameG fun GG hGG => ?_
  obtain ⟨i, kvs, made, h, tk, o, rfl, rfl, hi, c, d, t, j, hl⟩ := z1
  refine hGG ?_; clear hGG GG
  have Dwr : D ∉ wr := fun hm => Nat.lt_irrefl _ (K.fpD _ (K.wrfp _ hm))
  have Cw : ∀ b, (b = C ∨ b ∈ ex) → b ∉ wr := fun b hb hm => by
    have h1 := Nat.lt_trans (K.fpD _ (K.wrfp _ hm)) K.DC
    rcases hb with rfl | hb
    · exact Nat.lt_irrefl _ h1
    · exact Nat.lt_asymm h1 (K.Cex _ hb)
  by_cases hlt : i < n
  · refine W.item i _ _ _ hlt c.st fun v h1 tk1 hP st1 hk1 => ?_
    refine T.store v _ _ _ (T.mono h h1 t fun b hb o e => hk1 b o (Cw b hb) e) fun h2 tk2 l cv sh ns hcv h2k => ?_
    obtain ⟨g', ct⟩ := turn_start K c hk1 st1 h2k ns hcv (T.shape _ _ _ sh) T.exnd
    rw [List.forIn_nil]
    refine wpAny_pure ?_
    rw [if_pos rfl]
    refine wpAny_noRaise (wpAny_mono (step i v l cv kvs made g' h2 tk2 hlt hP sh j ct.kp ct.F ct.N) (fun kv s₄ q => ?_) fun _ _ f => f)
    refine wpAny_noRaise (wpAny_mono q (fun vv s₅ q => ?_) fun _ _ f => f)
    refine nameG fun GG hGG => ?_
    obtain ⟨kk, hkk, h3, tk3, R3, made', rfl, F3, N3, hs, j'⟩ := q
    refine hGG ?_; clear hGG GG
    have hD3 : h3.get? D = some o := F3.keep _ _ ct.gD
    refine wpAny_dictSet_pairs hkk (Heap.dictOf_iff.mpr ⟨o, hD3, d⟩) (fun h4 hl4 hs4 => ?_) (by lia)
    refine nameG fun GG hGG => ?_
    obtain ⟨o4, hD4, d4⟩ := Heap.dictOf_iff.mp hl4
    obtain ⟨c', ns', hcv'⟩ := turn_end K ct st1 (T.shape _ _ _ sh) F3 N3 hs hs4 hD4
    refine hGG ?_; clear hGG GG
    refine ⟨n + 1 - (i + 1), by lia, i + 1, stored kvs kk vv, made', h4, _, o4, rfl, rfl, hlt, c', d4, T.back _ _ _ _ sh ns' hcv', j', ?_⟩
    have := stored_length_le kvs kk vv
    lia
  · have hin : i = n := by lia
    subst hin
    refine W.done _ _ _ c.st fun h1 tk1 hk1 => ?_
    refine hR h1 tk1 kvs o made j d ⟨fun b o e => hk1 b o (fun hm => by rw [K.gwr b hm] at e; cases e) (c.sep.keep b o e), fun q hq => ?_, ?_⟩ (fun q hq => ?_) (T.ns h1 (T.mono h h1 t fun b hb o e => hk1 b o (Cw b hb) e))
    · rcases List.mem_cons.mp hq with rfl | hq
      · refine ⟨hk1 _ _ Dwr c.acc, ?_⟩
        cases e : g.get? D with
        | none => rfl
        | some o => exact absurd (Heap.lt_size e) (Nat.not_lt.mpr K.gD)
      · exact ⟨hk1 _ _ (c.off q hq).1 (c.sep.own q hq).1, (c.sep.own q hq).2⟩
    · rw [List.map_cons, List.nodup_cons]
      refine ⟨fun hm => ?_, c.sep.nd⟩
      obtain ⟨q, hq, e⟩ := List.mem_map.mp hm
      exact (c.off q hq).2.1 e
    · rcases List.mem_cons.mp hq with rfl | hq
      · exact Nat.ne_of_lt K.DC
      · exact (c.off q hq).2.2.1
theorem dc_block {env : Env} {kx vx iter : PySem.Expr} {x : Str} {px : Pos} {scope : Scope} {pos : Pos} {I : Addr} {h₀ hh : Heap} {L : Addr} {m : Str → Option Value} {n : Nat} {P : Nat → Value → Prop} {news : List (Addr × Obj)} {cl : List (Str × Addr)}
    {tk : Nat} {RR : Value → Addr → Result → Shared → Prop} {ex : Addr → List Addr} {TOk : Addr → Heap → Prop} {Sh : Addr → Value → List (Str × Value) → List (Addr × Obj) → Prop} {E : Value → Shared → Prop} {clC : Addr → List (Str × Addr)} {pc : Heap → Heap}
    (S : Src prog w A h₀ L hh news I n P) (F : Fr h₀ L hh m) (N : Led h₀ L hh news) (hbig : h₀.NoLimit)
    (hcl : ∀ C, cellsFrom (C + 1) scope.names cl = clC C) (hpc : ∀ h, pushCells h scope.names = pc h) (hpk : ∀ h b o, h.get? b = some o → (pc h).get? b = some o)
    (T : ∀ C, Tgt prog w A (compEnvC scope (clC C) C env) x px C (ex C) (TOk C) (Sh C)) (hex : ∀ C, ∀ b ∈ ex C, C < b)
    (t0 : ∀ h : Heap, TOk h.objs.size (pc (h.push { cls := .type "dict", data := .dict #[] })))
    (J : Nat → List (Str × Value) → List (Addr × Obj) → Prop) (j0 : J 0 [] [])
    (step : ∀ i v C l cv kvs made g' h tk, i < n → P i v → Sh C v l cv → J i kvs made → Fr h₀ L g' m → Fr g' C h (mp l) → Led g' C h (made ++ (cv ++ news)) →
      wpAny (model prog w) A (eval kx (compEnvC scope (clC C) C env)) (fun kv s₄ => wpAny (model prog w) A (eval vx (compEnvC scope (clC C) C env)) (fun vv s₅ => ∃ k, (PySem.strKind prog w).is k kv = true ∧ EPost g' C gs dr os l (cv ++ news) (J (i + 1) (stored kvs k vv)) s₅) (fun _ _ => False) s₄) (fun _ _ => False) ⟨h, gs, dr, tk, os⟩)
    (hR : ∀ D C oC o h tk kvs made, J n kvs made → (D == sysModules) = false → o.IsDictOf (PySem.strKind prog w) kvs → Fr h₀ L h m → Led h₀ L h ((C, oC) :: (D, o) :: (made ++ news)) → (∃ m, h.Ns C m) → RR (.ref D) C (.ok .next) ⟨h, gs, dr, tk, os⟩) :
    wpAny (model prog w) A newDict (fun acc s₃ => wpAny (model prog w) A (newFunctionEnv scope env.globals cl [] env.qual none .none (some env)) (fun cenv s₄ =>
      codeAny (model prog w) A (.compStart (.DictComp kx vx [⟨.Name x px, iter, [], 0⟩] scope pos) 0 (.ref I) acc { cenv with scope := relabel scope env }) (RR acc cenv.locals) s₄) E s₃) E ⟨hh, gs, dr, tk, os⟩ := by
  refine nameG fun GG hGG => ?_
  obtain ⟨fp, wr, St, W, st0, hfp, hwr, has, hsz⟩ := S
  obtain ⟨g, Fg, Sg, gsz, gw, gk⟩ := openW F N fun b hb => ⟨(hwr b hb).1, (hwr b hb).2.1⟩
  refine hGG ?_; clear hGG GG
  have hlo : (hh.objs.size == sysModules) = false := PyProof.Rows.Fr.notModules F (modules_low hbig)
  refine wpAny_newObj_type (newComp ?_)
  dsimp only
  rw [hcl, hpc]
  have hnew : (hh.push { cls := .type "dict", dict := none, data := .dict #[] }).DictOf (PySem.strKind prog w) hh.objs.size [] := Heap.DictOf.new hh
  generalize hH1 : hh.push { cls := Value.type "dict", dict := none, data := Data.dict #[] } = H1 at hnew ⊢
  have hC : H1.objs.size = hh.objs.size + 1 := by rw [← hH1, Heap.size_push]
  have k1 : ∀ b o, hh.get? b = some o → H1.get? b = some o := fun b o e => hH1 ▸ Heap.get?_push_of_some _ e
  have k2 : ∀ b o, H1.get? b = some o → (pc (H1.push { cls := .type "dict", data := .dict #[] })).get? b = some o := fun b o e => hpk _ _ _ (Heap.get?_push_of_some _ e)
  obtain ⟨o0, hD, d0⟩ := Heap.dictOf_iff.mp hnew
  have K : CFix g fp wr (ex H1.objs.size) hh.objs.size H1.objs.size St news := by
    refine ⟨Nat.le_of_eq gsz, by rw [hC]; exact Nat.lt_succ_self _, hex _, fun b hb => ?_, W.sub, gw, has, fun b hb hw => ?_, W.frame⟩
    · obtain ⟨o, ho⟩ := hfp b hb; exact Heap.lt_size ho
    · obtain ⟨o, ho⟩ := hfp b hb
      by_cases hn : b ∈ news.map (·.1)
      · obtain ⟨q, hq, rfl⟩ := List.mem_map.mp hn
        exact .inr ⟨q.2, hq⟩
      · exact .inl ⟨o, gk b o ho hn hw⟩
  have nlt : ∀ q ∈ news, q.1 < hh.objs.size := fun q hq => Heap.lt_size (N.N q hq).1
  have core := fun s₃ (hs : s₃ = (⟨pc (H1.push { cls := .type "dict", data := .dict #[] }), gs, dr, tk, os⟩ : Shared)) =>
    hs ▸ dc_core (kx := kx) (vx := vx) (iter := iter) (pos := pos) (scope := scope) (tk0 := tk) (R := RR (.ref hh.objs.size) H1.objs.size) W hsz K (T H1.objs.size) J
      (h0 := pc (H1.push { cls := .type "dict", data := .dict #[] })) (gs := gs) (dr := dr) (os := os) ⟨W.frame _ _ _ st0 fun b _ o e => k2 b o (k1 b o e), ⟨fun b o e => k2 b o (k1 b o (Sg.keep b o e)), fun q hq => ⟨k2 _ _ (k1 _ _ (Sg.own q hq).1), (Sg.own q hq).2⟩, Sg.nd⟩,
        fun q hq => ⟨fun hw => (hwr _ hw).2.2 (List.mem_map_of_mem hq), Nat.ne_of_lt (nlt q hq), Nat.ne_of_lt (by rw [hC]; exact Nat.lt_succ_of_lt (nlt q hq)), fun hx => Nat.lt_asymm (hex _ _ hx) (by rw [hC]; exact Nat.lt_succ_of_lt (nlt q hq))⟩, k2 _ _ hD⟩ d0 (t0 _) j0
      (fun i v l cv kvs made g' h tk hi hP sh j kp F' N' => step i v _ l cv kvs made g' h tk hi hP sh j ⟨Fg.ns.keeps kp, fun b o e => kp b o (Fg.keep b o e), Fg.above⟩ F' N')
      (fun h tk kvs o made j hdo S' hoff ⟨mC, oC, es, epC, hoC, hr⟩ => by
        have S2 : Sep g h ((H1.objs.size, oC) :: (hh.objs.size, o) :: (made ++ news)) := by
          refine ⟨S'.keep, fun q hq => ?_, ?_⟩
          · rcases List.mem_cons.mp hq with rfl | hq
            · refine ⟨hoC, ?_⟩
              cases e : g.get? H1.objs.size with
              | none => rfl
              | some o => exact absurd (Heap.lt_size e) (by rw [gsz, hC]; exact Nat.not_lt.mpr (Nat.le_succ _))
            · exact S'.own q hq
          · rw [List.map_cons, List.nodup_cons]
            refine ⟨fun hm => ?_, S'.nd⟩
            obtain ⟨q, hq, e⟩ := List.mem_map.mp hm
            exact hoff q hq e
        have := closeW Fg S2
        exact hR _ _ oC o h tk kvs made j hlo hdo this.1 this.2 ⟨mC, oC, es, epC, hoC, hr⟩)
  exact codeAny_compStart_dict (core _ rfl) (W.self 0 _ _ _ (W.frame _ _ _ st0 fun b _ o e => k2 b o (k1 b o e)) (core _ rfl))
noncomputable def DTurnsL (prog : Program) (w : World) (A : Around) (env : Env) (kx vx : PySem.Expr) (x : Str) (scope : Scope) (cl : List (Str × Addr)) (h₀ : Heap) (L : Addr) (m : Str → Option Value) (news : List (Addr × Obj)) (gs : Array GenState) (dr : Drawn) (os : OsState) (n : Nat) (P : Nat → Value → Prop) (J : Nat → List (Str × Value) → List (Addr × Obj) → Prop) : Prop :=
  ∀ i v C kvs made g' h tk, i < n → P i v → J i kvs made → Fr h₀ L g' m → Fr g' C h (mp [(x, v)]) → Led g' C h (made ++ news) →
    wpAny (model prog w) A (eval kx (compEnvC scope cl C env)) (fun kv s₄ => wpAny (model prog w) A (eval vx (compEnvC scope cl C env)) (fun vv s₅ => ∃ k, (PySem.strKind prog w).is k kv = true ∧ EPost g' C gs dr os [(x, v)] news (J (i + 1) (stored kvs k vv)) s₅) (fun _ _ => False) s₄) (fun _ _ => False) ⟨h, gs, dr, tk, os⟩
noncomputable def DTurnsC (prog : Program) (w : World) (A : Around) (env : Env) (kx vx : PySem.Expr) (x : Str) (scope : Scope) (cl : List (Str × Addr)) (h₀ : Heap) (L : Addr) (m : Str → Option Value) (news : List (Addr × Obj)) (gs : Array GenState) (dr : Drawn) (os : OsState) (n : Nat) (P : Nat → Value → Prop) (J : Nat → List (Str × Value) → List (Addr × Obj) → Prop) : Prop :=
  ∀ i v C o kvs made g' h tk, i < n → P i v → o.data = .cell (some v) → J i kvs made → Fr h₀ L g' m → Fr g' C h (mp []) → Led g' C h (made ++ ((C + 1, o) :: news)) →
    wpAny (model prog w) A (eval kx (compEnvC scope ((x, C + 1) :: cl) C env)) (fun kv s₄ => wpAny (model prog w) A (eval vx (compEnvC scope ((x, C + 1) :: cl) C env)) (fun vv s₅ => ∃ k, (PySem.strKind prog w).is k kv = true ∧ EPost g' C gs dr os [] ((C + 1, o) :: news) (J (i + 1) (stored kvs k vv)) s₅) (fun _ _ => False) s₄) (fun _ _ => False) ⟨h, gs, dr, tk, os⟩
noncomputable def DCFin (prog : Program) (w : World) (Q : Value → Shared → Prop) (h₀ : Heap) (L : Addr) (m : Str → Option Value) (D : Addr) (o : Obj) (kvs : List (Str × Value)) (R : List (Addr × Obj)) (s : Shared) : Prop := (D == sysModules) = false → o.IsDictOf (PySem.strKind prog w) kvs → Fr h₀ L s.heap m → Led h₀ L s.heap R → Q (.ref D) s
noncomputable def DCAtL (prog : Program) (w : World) (A : Around) (env : Env) (kx vx : PySem.Expr) (x : Str) (scope : Scope) (cl : List (Str × Addr)) (Q : Value → Shared → Prop) (it : Value) (s₂ : Shared) : Prop :=
  ∃ h₀ L m news I n P J, it = .ref I ∧ h₀.NoLimit ∧ Src prog w A h₀ L s₂.heap news I n P ∧ Fr h₀ L s₂.heap m ∧ Led h₀ L s₂.heap news ∧ J 0 [] [] ∧
    DTurnsL prog w A env kx vx x scope cl h₀ L m news s₂.gens s₂.drawn s₂.os n P J ∧ ∀ D o h' tk kvs made, J n kvs made → DCFin prog w Q h₀ L m D o kvs ((D, o) :: (made ++ news)) ⟨h', s₂.gens, s₂.drawn, tk, s₂.os⟩
noncomputable def DCAtC (prog : Program) (w : World) (A : Around) (env : Env) (kx vx : PySem.Expr) (x : Str) (scope : Scope) (cl : List (Str × Addr)) (Q : Value → Shared → Prop) (it : Value) (s₂ : Shared) : Prop :=
  ∃ h₀ L m news I n P J, it = .ref I ∧ h₀.NoLimit ∧ Src prog w A h₀ L s₂.heap news I n P ∧ Fr h₀ L s₂.heap m ∧ Led h₀ L s₂.heap news ∧ J 0 [] [] ∧
    DTurnsC prog w A env kx vx x scope cl h₀ L m news s₂.gens s₂.drawn s₂.os n P J ∧ ∀ D o h' tk kvs made, J n kvs made → DCFin prog w Q h₀ L m D o kvs ((D, o) :: (made ++ news)) ⟨h', s₂.gens, s₂.drawn, tk, s₂.os⟩
variable {env : Env} {kx vx iter : PySem.Expr} {x : Str} {px pos : Pos} {scope : Scope} {cl : List (Str × Addr)} {s : Shared} {E : Value → Shared → Prop}
theorem evalDC_L {Q : Value → Shared → Prop} (hclos : closureFor scope env = pure cl) (hcell : ∀ y ∈ scope.names, y.2 ≠ .cell) (hkind : scope.kind = .function)
    (hnames : ∀ y ∈ scope.names, y.2 = .local → scope.names.lookup y.1 = some .local) (hx : scope.names.lookup x = some .local)
    (h : wpAny (model prog w) A (eval iter env) (fun xv s₁ => wpAny (model prog w) A (pyIter xv) (DCAtL prog w A env kx vx x scope cl Q) E s₁) E s)
    (hs : ∀ x, foldedSetIterable iter env x = pure x) : wpAny (model prog w) A (eval (.DictComp kx vx [⟨.Name x px, iter, [], 0⟩] scope pos) env) Q E s := by
  rw [arm_eval_DictComp]
  refine wpAny_comprehension_free (use := none) rfl hs hclos hkind hnames (wpAny_mono h (fun xv s₁ h₁ => wpAny_mono h₁ (fun it s₂ h₂ => ?_) fun _ _ e => e) fun _ _ e => e)
  refine nameG fun GG hGG => ?_
  obtain ⟨h₀, L, m, news, I, n, P, J, rfl, hb, S, F, N, j0, T, fin⟩ := h₂
  refine hGG ?_; clear hGG GG
  refine dc_block (RR := fun acc C => compPost (model prog w) A E none Q acc C) (ex := fun _ => []) (TOk := fun C h => ∃ l, h.Ns C (mp l) ∧ (l = [] ∨ ∃ v, l = [(x, v)])) (Sh := fun _ v l cv => l = [(x, v)] ∧ cv = []) (clC := fun _ => cl) (pc := fun h => h) S F N hb (fun C => cellsFrom_none _ _ _ hcell) (fun h => pushCells_none _ _ hcell) (fun _ _ _ e => e)
    (fun C => tgtL rfl (lookup_relabel_local hx) (by show (relabel scope env).kind = _; exact hkind)) (fun _ _ hb => nomatch hb)
    (fun h => ⟨[], ⟨_, #[], 0, Heap.get?_push_size _ rfl, rfl, by intro e he; simp at he, fun _ => rfl⟩, .inl rfl⟩) J j0
    (fun i v C l cv ys made g' h tk hi hP sh j Fo F' N' => by obtain ⟨rfl, rfl⟩ := sh; exact T i v C ys made g' h tk hi hP j Fo F' N') ?_
  intro D C oC o h' tk kvs made j lo hd F' N' ⟨mC, hn⟩
  exact ⟨mC, hn, fun h'' hs'' => fin D o h'' tk kvs made j lo hd (dropC F' N' hs'').1 (dropC F' N' hs'').2⟩
theorem evalDC_C {Q : Value → Shared → Prop} (hclos : closureFor scope env = pure cl) (hcl : ∀ k, cellsFrom k scope.names cl = (x, k) :: cl) (hpc : ∀ h, pushCells h scope.names = h.push { cls := .type "cell", data := .cell none }) (hkind : scope.kind = .function)
    (hnames : ∀ y ∈ scope.names, y.2 = .local → scope.names.lookup y.1 = some .local) (hx : (relabel scope env).names.lookup x = some .cell)
    (h : wpAny (model prog w) A (eval iter env) (fun xv s₁ => wpAny (model prog w) A (pyIter xv) (DCAtC prog w A env kx vx x scope cl Q) E s₁) E s)
    (hs : ∀ x, foldedSetIterable iter env x = pure x) : wpAny (model prog w) A (eval (.DictComp kx vx [⟨.Name x px, iter, [], 0⟩] scope pos) env) Q E s := by
  rw [arm_eval_DictComp]
  refine wpAny_comprehension_free (use := none) rfl hs hclos hkind hnames (wpAny_mono h (fun xv s₁ h₁ => wpAny_mono h₁ (fun it s₂ h₂ => ?_) fun _ _ e => e) fun _ _ e => e)
  refine nameG fun GG hGG => ?_
  obtain ⟨h₀, L, m, news, I, n, P, J, rfl, hb, S, F, N, j0, T, fin⟩ := h₂
  refine hGG ?_; clear hGG GG
  refine dc_block (RR := fun acc C => compPost (model prog w) A E none Q acc C) (ex := fun C => [C + 1]) (TOk := fun C h => h.Ns C (mp []) ∧ ∃ v, h.IsCell (C + 1) v) (Sh := fun C v l cv => l = [] ∧ ∃ o : Obj, cv = [(C + 1, o)] ∧ o.data = .cell (some v)) (clC := fun C => (x, C + 1) :: cl) (pc := fun h => h.push { cls := .type "cell", data := .cell none }) S F N hb (fun C => hcl _) hpc (fun h b o e => push_keep _ _ _ _ e)
    (fun C => tgtC rfl hx (by simp [compEnvC]) (by show (relabel scope env).kind = _; exact hkind)) (fun C b hb => by rw [List.mem_singleton.mp hb]; exact Nat.lt_succ_self _)
    (fun h => ⟨⟨_, #[], 0, push_keep _ _ _ _ (Heap.get?_push_size _ rfl), rfl, by intro e he; simp at he, fun _ => rfl⟩, none, _, by
      have := Heap.get?_push_size (h.push { cls := .type "dict", data := .dict #[] }) (o := ({ cls := .type "cell", data := .cell none } : Obj)) rfl
      rw [Heap.size_push] at this
      exact this, rfl⟩) J j0
    (fun i v C l cv ys made g' h tk hi hP sh j Fo F' N' => by obtain ⟨rfl, o, rfl, hd⟩ := sh; exact T i v C o ys made g' h tk hi hP hd j Fo F' N') ?_
  intro D C oC o h' tk kvs made j lo hd F' N' ⟨mC, hn⟩
  exact ⟨mC, hn, fun h'' hs'' => fin D o h'' tk kvs made j lo hd (dropC F' N' hs'').1 (dropC F' N' hs'').2⟩
variable {h₀ hh : Heap} {L d : Addr} {m : Str → Option Value} {news : List (Addr × Obj)} {tk₀ : Nat} {o : Obj}
theorem DCAtL.mk {Q : Value → Shared → Prop} {I : Addr} {n : Nat} {P : Nat → Value → Prop} (J : Nat → List (Str × Value) → List (Addr × Obj) → Prop)
    (hb : h₀.NoLimit) (S : Src prog w A h₀ L hh news I n P) (F : Fr h₀ L hh m) (N : Led h₀ L hh news) (j0 : J 0 [] []) (T : DTurnsL prog w A env kx vx x scope cl h₀ L m news gs dr os n P J)
    (fin : ∀ D o h' tk kvs made, J n kvs made → DCFin prog w Q h₀ L m D o kvs ((D, o) :: (made ++ news)) ⟨h', gs, dr, tk, os⟩) : DCAtL prog w A env kx vx x scope cl Q (.ref I) ⟨hh, gs, dr, tk₀, os⟩ :=
  ⟨h₀, L, m, news, I, n, P, J, rfl, hb, S, F, N, j0, T, fin⟩
theorem DCAtC.mk {Q : Value → Shared → Prop} {I : Addr} {n : Nat} {P : Nat → Value → Prop} (J : Nat → List (Str × Value) → List (Addr × Obj) → Prop)
    (hb : h₀.NoLimit) (S : Src prog w A h₀ L hh news I n P) (F : Fr h₀ L hh m) (N : Led h₀ L hh news) (j0 : J 0 [] []) (T : DTurnsC prog w A env kx vx x scope cl h₀ L m news gs dr os n P J)
    (fin : ∀ D o h' tk kvs made, J n kvs made → DCFin prog w Q h₀ L m D o kvs ((D, o) :: (made ++ news)) ⟨h', gs, dr, tk, os⟩) : DCAtC prog w A env kx vx x scope cl Q (.ref I) ⟨hh, gs, dr, tk₀, os⟩ :=
  ⟨h₀, L, m, news, I, n, P, J, rfl, hb, S, F, N, j0, T, fin⟩
theorem keysSrc {kvs : List (Str × Value)} {Q : Value → Shared → Prop} (hA : A.handled = none) (F : Fr h₀ L hh m) (N : Led h₀ L hh news) (hm : (d, o) ∈ news) (hd : o.IsDictOf (PySem.strKind prog w) kvs) (lo : (d == sysModules) = false) (hk : kvs.length ≤ sizeLine)
    (h : ∀ I h', Fr h₀ L h' m → Led h₀ L h' news → Src prog w A h₀ L h' news I kvs.length (fun i v => ∃ q x t, kvs[i]? = some (q, x) ∧ v = .str q t) → Q (.ref I) ⟨h', gs, dr, tk₀, os⟩) :
    wpAny (model prog w) A (pyIter (.ref d)) Q E ⟨hh, gs, dr, tk₀, os⟩ := by
  obtain ⟨ep, ha⟩ := KdkAt.of hd
  have ho := (N.N _ hm).1
  refine wpAny_pyIter_dict lo (ha.dictAt ho) ?_
  have hn := newAddr F N
  have hlt := Heap.lt_size ho
  have hpk := push_keep hh { cls := .type "dict_keyiterator", data := .fields #[.ref d, .int 0 0, .int kvs.length 0, .int ep 0] }
  refine h _ _ (keepFr F hpk) (keepLed N hpk) ⟨[hh.objs.size, d], [hh.objs.size], (fun i h => h.IsKeyIter hh.objs.size d i kvs.length ep ∧ h.DictAt (PySem.strKind prog w) d kvs ep), ?_, ⟨⟨_, Heap.get?_push_size _ rfl, rfl, rfl⟩, ha.dictAt (hpk _ _ ho)⟩, ?_, ?_, ?_, hk⟩
  · have W := Walks.dictKeys (prog := prog) (w := w) (knd := PySem.strKind prog w) hA hh.objs.size d (Nat.ne_of_lt hlt) kvs ep
    exact { sub := W.sub, frame := W.frame, item := fun i s Q E hi st hQ => W.item i s Q E hi st fun v h' tk hP => hQ v h' tk (by
              refine nameG fun GG hGG => ?_
              obtain ⟨q, x, h1, h2⟩ := hP
              obtain ⟨t, rfl⟩ := PySem.Value.isStrOf_shape h2
              refine hGG ?_; clear hGG GG
              exact ⟨q, x, t, h1, rfl⟩), done := W.done, self := W.self }
  · intro b hb
    simp only [List.mem_cons, List.not_mem_nil, or_false] at hb
    rcases hb with rfl | rfl
    · exact ⟨_, Heap.get?_push_size _ rfl⟩
    · exact ⟨_, hpk _ _ ho⟩
  · intro b hb; rw [List.mem_singleton.mp hb]; exact hn
  · intro i h st b hb; rw [List.mem_singleton.mp hb]; obtain ⟨o, e, _⟩ := st.1; exact ⟨o, e⟩
end
end
section
open PySem PySem.W PySem.Calls PyProof.Rows
noncomputable def RW {α : Type} (lt : Nat → Nat → Bool) (n : Nat) : KasT α → (α → Prop) → Prop
  | .ret a, P => P a
  | .ask i j k, P => i < n ∧ j < n ∧ RW lt n (k (lt i j)) P
theorem RW_bind {α β : Type} {lt : Nat → Nat → Bool} {n : Nat} {f : α → KasT β} {P : β → Prop} : ∀ {t : KasT α}, RW lt n t (fun a => RW lt n (f a) P) → RW lt n (t.bind f) P
  | .ret _, h => h
  | .ask i j k, h => ⟨h.1, h.2.1, RW_bind (t := k (lt i j)) h.2.2⟩
theorem RW_mono {α : Type} {lt : Nat → Nat → Bool} {n : Nat} {P P' : α → Prop} (hp : ∀ a, P a → P' a) : ∀ {t : KasT α}, RW lt n t P → RW lt n t P'
  | .ret a, h => hp a h
  | .ask i j k, h => ⟨h.1, h.2.1, RW_mono hp (t := k (lt i j)) h.2.2⟩
theorem RW_wp {α : Type} {lt : Nat → Nat → Bool} {n : Nat} {P : α → Prop} {cmp : Nat → Nat → (Bool → Shared → Prop) → Shared → Prop} {Q : α → Shared → Prop} {s : Shared}
    (hc : ∀ i j C, i < n → j < n → C (lt i j) s → cmp i j C s) (hq : ∀ a, P a → Q a s) : ∀ {t : KasT α}, RW lt n t P → t.kasWp cmp Q s
  | .ret a, h => hq a h
  | .ask i j k, h => hc i j _ h.1 h.2.1 (RW_wp hc hq (t := k (lt i j)) h.2.2)
noncomputable abbrev gp (p : Array Nat) (i : Nat) : Nat := p.getD i 0
structure LtOk (lt : Nat → Nat → Bool) (n : Nat) : Prop where
  tr : ∀ i j k, lt i j = true → lt j k = true → lt i k = true
  tot : ∀ i j, i < n → j < n → i ≠ j → lt i j = false → lt j i = true
  irr : ∀ i, lt i i = false
noncomputable def PP (n : Nat) (p : Array Nat) : Prop := p.toList.Perm (List.range n)
theorem PP.size {n : Nat} {p : Array Nat} (h : PP n p) : p.size = n := by have := h.length_eq; simpa using this
theorem gp_eq {p : Array Nat} {i : Nat} (h : i < p.size) : gp p i = p[i] := by simp [gp, Array.getD, h]
theorem PP.lt {n : Nat} {p : Array Nat} (h : PP n p) {i : Nat} (hi : i < n) : gp p i < n := by
  have hs := h.size
  rw [gp_eq (by lia)]
  exact List.mem_range.mp (h.mem_iff.mp (by simp))
theorem PP.inj {n : Nat} {p : Array Nat} (h : PP n p) {i j : Nat} (hi : i < n) (hj : j < n) (e : gp p i = gp p j) : i = j := by
  have hs := h.size
  have hi' : i < p.size := by lia
  have hj' : j < p.size := by lia
  rw [gp_eq hi', gp_eq hj'] at e
  have nd : p.toList.Nodup := h.nodup_iff.mpr List.nodup_range
  exact (List.getElem?_inj (by simpa using hi') nd).mp (by simp [hi', hj', e])
theorem gp_opt (p : Array Nat) (i : Nat) : gp p i = (p[i]?).getD 0 := by
  by_cases h : i < p.size
  · simp [gp, Array.getD, h]
  · simp [gp, Array.getD, h]
theorem gp_rev {p : Array Nat} {m : Nat} (h : m ≤ p.size) (k : Nat) : gp (kas_rev p 0 m) k = if k < m then gp p (m - 1 - k) else gp p k := by
  rw [gp_opt]
  show ((mirror p 0 m ((m - 0) / 2))[k]?).getD 0 = _
  rw [getElem?_mirror_all h]
  by_cases hk : k < m
  · rw [if_pos ⟨Nat.zero_le _, hk⟩, if_pos hk, Nat.zero_add]; exact (gp_opt p _).symm
  · rw [if_neg (fun q => hk q.2), if_neg hk]; exact (gp_opt p _).symm
theorem PP.rev {n : Nat} {p : Array Nat} (h : PP n p) (m : Nat) : PP n (kas_rev p 0 m) := (Array.perm_iff_toList_perm.mp (mirror_perm p 0 m ((m - 0) / 2))).trans h
theorem PP.bub {n : Nat} {p : Array Nat} (h : PP n p) (k d : Nat) : PP n (bubble p k d) := (Array.perm_iff_toList_perm.mp (bubble_perm p k d)).trans h
theorem gp_bub {p : Array Nat} {k d : Nat} (hk : k < p.size) (hd : d ≤ k) (i : Nat) : gp (bubble p k d) i = if i = k - d then gp p k else if k - d < i ∧ i ≤ k then gp p (i - 1) else gp p i := by
  rw [gp_opt, getElem?_bubble hk d hd]
  by_cases h1 : i = k - d
  · rw [if_pos h1, if_pos h1]; exact (gp_opt p k).symm
  · rw [if_neg h1, if_neg h1]
    by_cases h2 : k - d < i ∧ i ≤ k
    · rw [if_pos h2, if_pos h2]; exact (gp_opt p _).symm
    · rw [if_neg h2, if_neg h2]; exact (gp_opt p _).symm
noncomputable def Asc (lt : Nat → Nat → Bool) (p : Array Nat) (m : Nat) : Prop := ∀ i j, i < j → j < m → lt (gp p i) (gp p j) = true
noncomputable def Dsc (lt : Nat → Nat → Bool) (p : Array Nat) (m : Nat) : Prop := ∀ i j, i < j → j < m → lt (gp p j) (gp p i) = true
section
variable {lt : Nat → Nat → Bool} {n : Nat} (H : LtOk lt n)
include H
theorem tot' {p : Array Nat} (hp : PP n p) {i j : Nat} (hi : i < n) (hj : j < n) (hne : i ≠ j) (h : lt (gp p i) (gp p j) = false) : lt (gp p j) (gp p i) = true :=
  H.tot _ _ (hp.lt hi) (hp.lt hj) (fun e => hne (hp.inj hi hj e)) h
theorem Asc.next {p : Array Nat} {k : Nat} (a : Asc lt p k) (h1 : 1 ≤ k) (h : lt (gp p (k - 1)) (gp p k) = true) : Asc lt p (k + 1) := by
  intro i j hij hj
  by_cases hjk : j < k
  · exact a i j hij hjk
  · have : j = k := by lia
    subst this
    by_cases hi : i = j - 1
    · subst hi; exact h
    · exact H.tr _ _ _ (a i (j - 1) (by lia) (by lia)) h
theorem Dsc.next {p : Array Nat} {k : Nat} (a : Dsc lt p k) (h1 : 1 ≤ k) (h : lt (gp p k) (gp p (k - 1)) = true) : Dsc lt p (k + 1) := by
  intro i j hij hj
  by_cases hjk : j < k
  · exact a i j hij hjk
  · have : j = k := by omega
    subst this
    by_cases hi : i = j - 1
    · subst hi; exact h
    · exact H.tr _ _ _ h (a i (j - 1) (by omega) (by omega))
theorem run_asc {p : Array Nat} (hp : PP n p) : ∀ (f k : Nat), 1 ≤ k → Asc lt p k → k + f ≤ n → RW lt n (kas_asc p f k) (fun m => k ≤ m ∧ m ≤ k + f ∧ Asc lt p m ∧ (m < k + f → lt (gp p m) (gp p (m - 1)) = true))
  | 0, k, _, a, _ => ⟨Nat.le_refl _, Nat.le_refl _, a, fun q => absurd q (Nat.lt_irrefl _)⟩
  | f + 1, k, h1, a, hk => by
    refine ⟨hp.lt (by lia), hp.lt (by lia), ?_⟩
    cases e : lt (p.getD k 0) (p.getD (k - 1) 0) with
    | true =>
      simp only [if_true]
      exact ⟨Nat.le_refl _, by lia, a, fun _ => e⟩
    | false =>
      dsimp only
      rw [if_neg (by decide)]
      refine RW_mono (fun m hm => ?_) (run_asc hp f (k + 1) (by lia) (a.next H h1 (tot' H hp (by lia) (by lia) (by lia) e)) (by lia))
      obtain ⟨m1, m2, m3, m4⟩ := hm
      exact ⟨by lia, by lia, m3, fun q => m4 (by lia)⟩
theorem run_desc {p : Array Nat} (hp : PP n p) : ∀ (f k : Nat), 1 ≤ k → Dsc lt p k → k + f ≤ n → RW lt n (kas_desc f p k 0) (fun r => r.1 = p ∧ r.2.2 = 0 ∧ k ≤ r.2.1 ∧ r.2.1 ≤ k + f ∧ Dsc lt p r.2.1)
  | 0, k, _, a, _ => ⟨rfl, rfl, Nat.le_refl _, Nat.le_refl _, a⟩
  | f + 1, k, h1, a, hk => by
    refine ⟨hp.lt (by lia), hp.lt (by lia), ?_⟩
    cases e : lt (p.getD k 0) (p.getD (k - 1) 0) with
    | true =>
      simp only [if_true, Nat.lt_irrefl, if_false, gt_iff_lt]
      refine RW_mono (fun r hr => ?_) (run_desc hp f (k + 1) (by lia) (a.next H h1 e) (by lia))
      obtain ⟨r1, r2, r3, r4, r5⟩ := hr
      exact ⟨r1, r2, by lia, by lia, r5⟩
    | false =>
      dsimp only
      rw [if_neg (by decide)]
      refine ⟨hp.lt (by lia), hp.lt (by lia), ?_⟩
      dsimp only
      rw [if_pos (tot' H hp (by lia) (by lia) (by lia) e)]
      exact ⟨rfl, rfl, Nat.le_refl _, (by show k ≤ k + (f + 1); lia), a⟩
theorem run_descPart {p : Array Nat} (hp : PP n p) (h2 : 2 ≤ n) (h : lt (gp p 1) (gp p 0) = true) : RW lt n (kas_descPart 1 n p) (fun r => PP n r.2 ∧ 1 ≤ r.1 ∧ r.1 ≤ n ∧ Asc lt r.2 r.1) := by
  unfold kas_descPart
  refine RW_bind (RW_mono (fun r hr => ?_) (run_desc H hp (n - (1 + 1)) (1 + 1) (by lia) (fun i j hij hj => ?_) (by lia)))
  · obtain ⟨r1, r2, r3, r4, r5⟩ := hr
    rw [r2, if_neg (by lia), r1]
    unfold kas_tail3
    have hs := hp.size
    have hrev : Asc lt (kas_rev p 0 r.2.1) r.2.1 := fun i j hij hj => by
      rw [gp_rev (by lia), gp_rev (by lia), if_pos (by lia), if_pos hj]
      exact r5 _ _ (by lia) (by lia)
    refine RW_bind (RW_mono (fun m hm => ?_) (run_asc H (hp.rev _) (n - r.2.1) r.2.1 (by lia) hrev (by lia)))
    obtain ⟨m1, m2, m3, _⟩ := hm
    exact ⟨hp.rev _, by lia, by lia, m3⟩
  · have e1 : i = 0 := by lia
    have e2 : j = 1 := by lia
    subst e1; subst e2; exact h
theorem run_count {p : Array Nat} (hp : PP n p) (h2 : 2 ≤ n) : RW lt n (kas_count n p) (fun r => PP n r.2 ∧ 1 ≤ r.1 ∧ r.1 ≤ n ∧ Asc lt r.2 r.1) := by
  unfold kas_count
  refine RW_bind (RW_mono (fun m hm => ?_) (run_asc H hp (n - 1) 1 (Nat.le_refl _) (fun i j hij hj => absurd hij (by lia)) (by lia)))
  obtain ⟨m1, m2, m3, m4⟩ := hm
  by_cases e : (m == n) = true
  · rw [if_pos e]; exact ⟨hp, m1, by lia, m3⟩
  · rw [if_neg e]
    have hne : m ≠ n := fun q => e (by rw [q]; exact beq_self_eq_true _)
    by_cases hg : m > 1
    · rw [if_pos hg]
      refine ⟨hp.lt (by lia), hp.lt (by lia), ?_⟩
      dsimp only
      rw [if_pos (m3 0 (m - 1) (by lia) (by lia))]
      exact ⟨hp, m1, by lia, m3⟩
    · rw [if_neg hg]
      have : m = 1 := by lia
      subst this
      exact run_descPart H hp h2 (m4 (by lia))
theorem run_place {p : Array Nat} (hp : PP n p) {k : Nat} (hk : k < n) (a : Asc lt p k) : ∀ (f l r : Nat), l ≤ r → r ≤ k → r - l ≤ f → (∀ i, i < l → lt (gp p i) (gp p k) = true) → (∀ i, r ≤ i → i < k → lt (gp p k) (gp p i) = true) →
    RW lt n (kas_place p k f l r) (fun l' => l' ≤ k ∧ (∀ i, i < l' → lt (gp p i) (gp p k) = true) ∧ ∀ i, l' ≤ i → i < k → lt (gp p k) (gp p i) = true)
  | 0, l, r, hl, hr, hf, h1, h2 => by
    have : l = r := by lia
    subst this
    exact ⟨hr, h1, h2⟩
  | f + 1, l, r, hl, hr, hf, h1, h2 => by
    unfold kas_place
    by_cases hlr : l ≥ r
    · rw [if_pos hlr]
      have : l = r := by lia
      subst this
      exact ⟨hr, h1, h2⟩
    · rw [if_neg hlr]
      refine ⟨hp.lt hk, hp.lt (by lia), ?_⟩
      cases e : lt (p.getD k 0) (p.getD ((l + r) / 2) 0) with
      | true =>
        simp only [if_true]
        refine run_place hp hk a f l ((l + r) / 2) (by lia) (by lia) (by lia) h1 fun i hi hik => ?_
        by_cases hm : i = (l + r) / 2
        · subst hm; exact e
        · exact H.tr _ _ _ e (a _ _ (by lia) hik)
      | false =>
        dsimp only
        rw [if_neg (by decide)]
        have e' := tot' H hp hk (by lia : (l + r) / 2 < n) (by lia) e
        refine run_place hp hk a f ((l + r) / 2 + 1) r (by lia) hr (by lia) (fun i hi => ?_) h2
        by_cases hm : i = (l + r) / 2
        · subst hm; exact e'
        · exact H.tr _ _ _ (a i ((l + r) / 2) (by lia) (by lia)) e'
theorem run_bin : ∀ (f : Nat) {p : Array Nat} (k : Nat), PP n p → Asc lt p k → k + f ≤ n → RW lt n (kas_bin f p k) (fun p' => PP n p' ∧ Asc lt p' (k + f))
  | 0, p, k, hp, a, _ => ⟨hp, a⟩
  | f + 1, p, k, hp, a, hk => by
    unfold kas_bin
    have hs := hp.size
    refine RW_bind (RW_mono (fun l hl => ?_) (run_place H hp (by lia) a k 0 k (Nat.zero_le _) (Nat.le_refl _) (by lia) (fun i hi => absurd hi (Nat.not_lt_zero _)) (fun i h1 h2 => absurd h1 (by lia))))
    obtain ⟨l1, l2, l3⟩ := hl
    have hb : Asc lt (bubble p k (k - l)) (k + 1) := fun i j hij hj => by
      rw [gp_bub (by lia) (by lia), gp_bub (by lia) (by lia)]
      have e : k - (k - l) = l := by lia
      rw [e]
      by_cases hi : i = l
      · rw [if_pos hi, if_neg (by lia), if_pos (by lia)]
        exact l3 _ (by lia) (by lia)
      · rw [if_neg hi]
        by_cases hi2 : l < i ∧ i ≤ k
        · rw [if_pos hi2, if_neg (by lia), if_pos (by lia)]
          exact a _ _ (by lia) (by lia)
        · rw [if_neg hi2]
          by_cases hj1 : j = l
          · rw [if_pos hj1]; exact l2 _ (by lia)
          · rw [if_neg hj1]
            by_cases hj2 : l < j ∧ j ≤ k
            · rw [if_pos hj2]
              by_cases hji : i = j - 1
              · exfalso; lia
              · exact a _ _ (by lia) (by lia)
            · rw [if_neg hj2]; exact a _ _ hij (by lia)
    refine RW_mono (fun p' h => ?_) (run_bin f (k + 1) (hp.bub _ _) hb (by lia))
    rw [show k + (f + 1) = k + 1 + f from by lia]; exact h
theorem run_sort (h2 : 2 ≤ n) : RW lt n (kas_sort n) (fun p => PP n p ∧ Asc lt p n) := by
  unfold kas_sort
  have hp : PP n (List.toArray (List.range n)) := List.Perm.refl _
  refine RW_bind (RW_mono (fun r hr => ?_) (run_count H hp h2))
  obtain ⟨r1, r2, r3, r4⟩ := hr
  by_cases h : r.1 < n
  · rw [if_pos h]
    have e : max r.1 1 = r.1 := by lia
    rw [e]
    refine RW_mono (fun p' h => ?_) (run_bin H (n - r.1) r.1 r1 r4 (by lia))
    rw [show r.1 + (n - r.1) = n from by lia] at h; exact h
  · rw [if_neg h]
    have : r.1 = n := by lia
    rw [this] at r4
    exact ⟨r1, r4⟩
end
end
section
open PySem PySem.W PySem.Calls PyProof.Rows
open PySem.SeqAt PySem.MeetsSeq PySem.MeetsSeq2 PySem.MeetsSeq3
open PySem.AutoSeq1 (wpAny_loadPart')
noncomputable def lexLt : List Str → List Str → Bool
  | _, [] => false
  | [], _ :: _ => true
  | a :: r, b :: t => if a = b then lexLt r t else decide (a.cps.toList < b.cps.toList)
theorem strs_drop {vs : List Value} {ss : List Str} (h : StrsAre vs ss) {i : Nat} (hi : i < vs.length) : ∃ x t, vs[i]? = some (Value.str x t) ∧ ss.drop i = x :: ss.drop (i + 1) := by
  obtain ⟨x, t, e1, e2⟩ := strs_get h i vs[i] (List.getElem?_eq_getElem hi)
  obtain ⟨hj, e3⟩ := List.getElem?_eq_some_iff.mp e1
  refine ⟨x, t, by rw [List.getElem?_eq_getElem hi, e2], ?_⟩
  rw [List.drop_eq_getElem_cons hj, e3]
theorem lt_loopAt (l b : Addr) (xs ys : List Value) (ss ts : List Str) (hx : StrsAre xs ss) (hy : StrsAre ys ts) (n n2 : Nat) (k : Nat) :
    ∀ i : Nat, xs.length - i = k → Meets (Builtin.«list.__eq__.loop» ⟨[.ref l, .ref b, rawInt i, rawInt 0], []⟩)
      (fun A R s => s.heap.get? l = some (listOf xs.toArray n) ∧ s.heap.get? b = some (listOf ys.toArray n2) ∧ i ≤ xs.length ∧ i ≤ ys.length ∧ R (.ok (.ret (.bool (lexLt (ss.drop i) (ts.drop i))))) s) := by
  induction k with
  | zero =>
    intro i hk prog w A R s h
    obtain ⟨hp, g, d, tk, os⟩ := s; obtain ⟨hl, hb, hi1, hi2, h⟩ := h
    wp_walk using wpAny_loadPart' hl, wpAny_loadPart' hb
    have h1 : (xs.toArray)[((i : Nat) : Int).toNat]? = none := by simp; lia
    rw [h1]
    wp_walk using wpAny_loadPart' hl, wpAny_loadPart' hb
    show R (.ok (.ret (.bool (decide (xs.toArray.size < ys.toArray.size))))) _
    have e : lexLt (ss.drop i) (ts.drop i) = decide (xs.toArray.size < ys.toArray.size) := by
      have l1 := strs_len hx
      have l2 := strs_len hy
      rw [List.drop_of_length_le (by lia)]
      simp only [List.size_toArray]
      by_cases hlt : i < ys.length
      · obtain ⟨y, t, _, e2⟩ := strs_drop hy hlt
        rw [e2]
        simp only [lexLt]
        exact (decide_eq_true (by lia)).symm
      · rw [List.drop_of_length_le (by lia)]
        simp only [lexLt]
        exact (decide_eq_false (by lia)).symm
    rw [← e]
    exact h
  | succ k ih =>
    intro i hk prog w A R s h
    obtain ⟨hp, g, d, tk, os⟩ := s; obtain ⟨hl, hb, hi1, hi2, h⟩ := h
    wp_walk using wpAny_loadPart' hl, wpAny_loadPart' hb
    have hlt : i < xs.length := by lia
    obtain ⟨x, t, ex, dx⟩ := strs_drop hx hlt
    have h1 : (xs.toArray)[((i : Nat) : Int).toNat]? = some (Value.str x t) := by simpa using ex
    have hc : ((i : Int) + 1) = ((i + 1 : Nat) : Int) := by push_cast; rfl
    by_cases hlt2 : i < ys.length
    · obtain ⟨y, u, ey, dy⟩ := strs_drop hy hlt2
      have h2 : (ys.toArray)[((i : Nat) : Int).toNat]? = some (Value.str y u) := by simpa using ey
      rw [h1, h2]
      refine wpAny_bind (EqAt.str_str x t y u prog w _ _ ?_)
      rw [dx, dy] at h
      simp only [lexLt] at h
      by_cases hxy : x = y
      · rw [if_pos hxy] at h
        have e : (x == y) = true := by simp [hxy]
        rw [e]
        wp_walk
        rw [hc]
        exact ⟨plainId_quiet plain_eq_loop _, codeAny_builtin entry_eq_loop (by
          rw [Around.under_plainId plain_eq_loop _]
          exact ih (i + 1) (by lia) prog w A R _ ⟨hl, hb, by lia, by lia, h⟩)⟩
      · rw [if_neg hxy] at h
        have e : (x == y) = false := by simpa using hxy
        rw [e]
        wp_walk using wpAny_loadPart' hl, wpAny_loadPart' hb
        rw [h1, h2]
        refine wpAny_bind (richCompare_gives (op := .Lt) (typeIs_str _ x t) (typeIs_str _ y u) F.slot_str_lt F.entry_str_lt (F.args_str_lt_2 _ _) (gives_str_lt x y t u) (fun e => nomatch e) ?_)
        exact wpAny_pure h
    · have h2 : (ys.toArray)[((i : Nat) : Int).toNat]? = none := by simp; lia
      rw [h1, h2]
      wp_walk using wpAny_loadPart' hl, wpAny_loadPart' hb
      show R (.ok (.ret (.bool (decide (xs.toArray.size < ys.toArray.size))))) _
      have e : lexLt (ss.drop i) (ts.drop i) = decide (xs.toArray.size < ys.toArray.size) := by
        have l2 := strs_len hy
        rw [dx, List.drop_of_length_le (show ts.length ≤ i by lia)]
        simp only [List.size_toArray, lexLt]
        exact (decide_eq_false (by lia)).symm
      rw [← e]
      exact h
theorem list_ltAt (l b : Addr) (xs ys : List Value) (ss ts : List Str) (hx : StrsAre xs ss) (hy : StrsAre ys ts) (n n2 : Nat) :
    Meets (Builtin.«list.__lt__» ⟨[.ref l, .ref b], []⟩)
      (fun A R s => s.heap.get? l = some (listOf xs.toArray n) ∧ s.heap.get? b = some (listOf ys.toArray n2) ∧ R (.ok (.ret (.bool (lexLt ss ts)))) s) := by
  intro prog w A R s h
  obtain ⟨hp, g, d, tk, os⟩ := s; obtain ⟨hl, hb, h⟩ := h
  have f3 := AutoSeq1.sub_list_list
  wp_walk using wpAny_loadPart' hl, wpAny_loadPart' hb
  exact ⟨plainId_quiet plain_eq_loop _, codeAny_builtin entry_eq_loop (by
    rw [Around.under_plainId plain_eq_loop _]
    exact lt_loopAt l b xs ys ss ts hx hy n n2 _ 0 rfl prog w A R _ ⟨hl, hb, Nat.zero_le _, Nat.zero_le _, by simpa using h⟩)⟩

inductive NmAre : List TxA → List (List Str) → Prop
  | nil : NmAre [] []
  | cons {a f l r} : StrsAre a.vs f → NmAre l r → NmAre (a :: l) (f :: r)
theorem NmAre.len {l : List TxA} {r : List (List Str)} (h : NmAre l r) : l.length = r.length := by induction h with | nil => rfl | cons _ _ ih => simp [ih]
theorem NmAre.app {l l' : List TxA} {r r' : List (List Str)} (h : NmAre l r) (h' : NmAre l' r') : NmAre (l ++ l') (r ++ r') := by induction h with | nil => exact h' | cons x _ ih => exact .cons x ih
theorem NmAre.get {l : List TxA} {r : List (List Str)} (h : NmAre l r) : ∀ {i : Nat} {a : TxA}, l[i]? = some a → ∃ f, r[i]? = some f ∧ StrsAre a.vs f := by
  induction h with
  | nil => intro i a e; simp at e
  | cons x _ ih =>
    intro i a e
    cases i with
    | zero => simp at e; exact ⟨_, rfl, e ▸ x⟩
    | succ i => simpa using ih (by simpa using e)
noncomputable def pick {α : Type} (l : List α) (p : List Nat) : List α := p.filterMap (l[·]?)
theorem pick_perm {α : Type} (l : List α) {p : List Nat} (h : p.Perm (List.range l.length)) : (pick l p).Perm l := by
  have e : pick l (List.range l.length) = l := by
    unfold pick
    have : ∀ (k : Nat), k ≤ l.length → (List.range k).filterMap (l[·]?) = l.take k := by
      intro k
      induction k with
      | zero => intro _; rfl
      | succ k ih =>
        intro hk
        rw [List.range_succ, List.filterMap_append, ih (by lia), List.take_add_one]
        have : l[k]? = some l[k] := List.getElem?_eq_getElem (by lia)
        simp [this]
    rw [this _ (Nat.le_refl _), List.take_length]
  have := h.filterMap (l[·]?)
  unfold pick at *
  rw [e] at this
  exact this
theorem pick_get {α : Type} {l : List α} : ∀ {p : List Nat}, (∀ i ∈ p, i < l.length) → ∀ k : Nat, (pick l p)[k]? = (p[k]?).bind fun i => l[i]?
  | [], _, k => by simp [pick]
  | i :: p, h, k => by
    have hi := h i (.head _)
    have e : l[i]? = some l[i] := List.getElem?_eq_getElem hi
    have : pick l (i :: p) = l[i] :: pick l p := by unfold pick; rw [List.filterMap_cons_some e]
    rw [this]
    cases k with
    | zero => simp [e]
    | succ k => simpa using pick_get (fun j hj => h j (.tail _ hj)) k
theorem pick_len {α : Type} {l : List α} {p : List Nat} (h : ∀ i ∈ p, i < l.length) : (pick l p).length = p.length := by
  induction p with
  | nil => rfl
  | cons i p ih =>
    have hi := h i (.head _)
    have e : l[i]? = some l[i] := List.getElem?_eq_getElem hi
    have : pick l (i :: p) = l[i] :: pick l p := by unfold pick; rw [List.filterMap_cons_some e]
    rw [this, List.length_cons, List.length_cons, ih fun j hj => h j (.tail _ hj)]
theorem pick_map {α β : Type} (f : α → β) (l : List α) (p : List Nat) : pick (l.map f) p = (pick l p).map f := by
  unfold pick
  rw [List.map_filterMap]
  congr 1
  funext i
  simp
theorem NmAre.pick {l : List TxA} {r : List (List Str)} (h : NmAre l r) : ∀ (p : List Nat), NmAre (Mine.pick l p) (Mine.pick r p)
  | [] => .nil
  | i :: p => by
    have ih := h.pick p
    unfold Mine.pick at ih ⊢
    cases e : l[i]? with
    | none =>
      have e2 : r[i]? = none := by
        have := List.getElem?_eq_none_iff.mp e
        have hl := h.len
        exact List.getElem?_eq_none (by lia)
      rw [List.filterMap_cons_none e, List.filterMap_cons_none e2]; exact ih
    | some a =>
      obtain ⟨f, e2, hf⟩ := h.get e
      rw [List.filterMap_cons_some e, List.filterMap_cons_some e2]; exact .cons hf ih
theorem lexLt_irrefl : ∀ a : List Str, lexLt a a = false
  | [] => rfl
  | a :: r => by simp only [lexLt, if_true]; exact lexLt_irrefl r
theorem cps_inj {a b : Str} (h : a.cps.toList = b.cps.toList) : a = b := by
  cases a; cases b
  simp only at h
  exact congrArg Str.mk (Array.toList_inj.mp h)
theorem lexLt_trans : ∀ a b c : List Str, lexLt a b = true → lexLt b c = true → lexLt a c = true
  | _, [], _, h1, _ => by simp [lexLt] at h1
  | _, _ :: _, [], _, h2 => by simp [lexLt] at h2
  | [], _ :: _, _ :: _, _, _ => rfl
  | a :: r, b :: t, c :: u, h1, h2 => by
    simp only [lexLt] at h1 h2 ⊢
    by_cases hab : a = b
    · subst hab
      rw [if_pos rfl] at h1
      by_cases hac : a = c
      · rw [if_pos hac] at h2 ⊢; exact lexLt_trans r t u h1 h2
      · rw [if_neg hac] at h2 ⊢; exact h2
    · rw [if_neg hab] at h1
      by_cases hbc : b = c
      · subst hbc
        rw [if_neg hab]; exact h1
      · rw [if_neg hbc] at h2
        have l := List.lt_trans (of_decide_eq_true h1) (of_decide_eq_true h2)
        rw [if_neg (fun e => by subst e; exact List.lt_irrefl _ l)]
        exact decide_eq_true l
theorem lexLt_total : ∀ a b : List Str, a ≠ b → lexLt a b = false → lexLt b a = true
  | [], [], h, _ => absurd rfl h
  | [], _ :: _, _, h => by simp [lexLt] at h
  | _ :: _, [], _, _ => rfl
  | a :: r, b :: t, h, h1 => by
    simp only [lexLt] at h1 ⊢
    by_cases hab : a = b
    · subst hab
      rw [if_pos rfl] at h1 ⊢
      exact lexLt_total r t (fun e => h (by rw [e])) h1
    · rw [if_neg hab] at h1
      rw [if_neg (fun e => hab e.symm)]
      have h2 := of_decide_eq_false h1
      refine decide_eq_true ?_
      by_cases h3 : b.cps.toList < a.cps.toList
      · exact h3
      · exact absurd (cps_inj (PyProof.Rows.strKind.total _ _ (decide_eq_false h2) (decide_eq_false h3))) hab
end
section
open PySem PySem.W PySem.Calls PyProof.Rows
noncomputable def upS (l : List Str) : Prop := l.Pairwise fun a b => a.cps.toList < b.cps.toList
theorem upS_of {l : List Str} (h : sortedS l = true) (nd : l.Nodup) : upS l := by
  have key : ∀ (r : List Str) (p : Str), risingS p r = true → (∀ x ∈ r, ¬ x.cps.toList < p.cps.toList) ∧ r.Pairwise (fun a b => ¬ b.cps.toList < a.cps.toList) := by
    intro r
    induction r with
    | nil => intro p _; exact ⟨fun _ h => (nomatch h), .nil⟩
    | cons y r ih =>
      intro p h
      simp only [risingS, Bool.and_eq_true, Bool.not_eq_true', ltCps_eq, decide_eq_false_iff_not] at h
      obtain ⟨h1, h2⟩ := h
      obtain ⟨h3, h4⟩ := ih y h2
      refine ⟨fun x hx => ?_, .cons h3 h4⟩
      rcases List.mem_cons.mp hx with rfl | hx
      · exact h1
      · intro q
        rcases PyProof.Rows.strKind.negTrans x.cps.toList y.cps.toList p.cps.toList (decide_eq_true q) with h5 | h5
        · exact h3 x hx (of_decide_eq_true h5)
        · exact h1 (of_decide_eq_true h5)
  have h2 : l.Pairwise (fun a b => ¬ b.cps.toList < a.cps.toList) := by
    cases l with
    | nil => exact .nil
    | cons y r => obtain ⟨h3, h4⟩ := key r y h; exact .cons h3 h4
  refine (List.Pairwise.and h2 (List.nodup_iff_pairwise_ne.mp nd)).imp fun {a b} q => ?_
  by_cases hlt : a.cps.toList < b.cps.toList
  · exact hlt
  · exact absurd (cps_inj (PyProof.Rows.strKind.total _ _ (decide_eq_false hlt) (decide_eq_false q.1))) q.2
section
variable {prog : Program} {w : World} {A : Around} {h₀ hh : Heap} {L : Addr} {m : Str → Option Value} {news : List (Addr × Obj)} {E : Value → Shared → Prop} {gs : Array GenState} {dr : Drawn} {os : OsState} {tk₀ : Nat} {D : Addr}
theorem sortStrsM {vs : List Value} {ss : List Str} {ep : Nat} {Q : Value → Shared → Prop} (F : Fr h₀ L hh m) (N : Led h₀ L hh ((D, listOf vs.toArray ep) :: news)) (hS : StrsAre vs ss) (h64 : vs.length < 64)
    (h : ∀ h' vs' ss' e, Fr h₀ L h' m → Led h₀ L h' ((D, listOf vs'.toArray e) :: news) → StrsAre vs' ss' → ss'.Perm ss → sortedS ss' = true → Q .none ⟨h', gs, dr, tk₀, os⟩) :
    wpAny (model prog w) A (call (.builtin "list.sort") [.ref D]) Q E ⟨hh, gs, dr, tk₀, os⟩ := by
  have hD := N.N _ (.head _)
  have ho : hh.get? D = some (seqObj "list" vs.toArray ep) := hD.1
  refine wpAny_call_entry PyProof.Rows.slot_list_sort ⟨_, ho, rfl⟩ PyProof.Rows.entry_list_sort (list_sort_treeK PyProof.Rows.strKind_oneLt ho hS.keysOf (fun v₁ v₂ rest e => keyKind_strs (by rw [← e]; exact hS)) h64 fun st' hp hs => ⟨.none, rfl, ?_⟩) (PyProof.Rows.args_list_sort _)
  obtain ⟨ss', h1, h2, h3⟩ := sorted_out_str hS hp hs
  obtain ⟨e, he⟩ := sortedHeap_at (out := (arrOf st').map (·.2)) ho
  have nD : D ∉ news.map (·.1) := (List.nodup_cons.mp N.nd).1
  have kb := keepBut (wr := [D]) (h' := sortedHeap hh D vs ((arrOf st').map (·.2))) F N.tail (fun b hb => by rw [List.mem_singleton.mp hb]; exact ⟨hD.2.1, hD.2.2, nD⟩) fun b o hb e => by
    rw [sortedHeap_old (fun q => hb (List.mem_singleton.mpr q)) (Heap.lt_size e)]; exact e
  refine h _ ((arrOf st').map (·.2)).toList ss' e kb.1 ⟨fun q hq => ?_, N.nd⟩ h1 h2 h3
  rcases List.mem_cons.mp hq with rfl | hq
  · exact ⟨by rw [Array.toArray_toList]; exact he, hD.2⟩
  · exact kb.2.N q hq
theorem keyLtLists {a b : TxA} {ss ts : List Str} {s : Shared} {C : Bool → Shared → Prop} (hu : A.units < cLine) (ha : s.heap.get? a.T = some (listOf a.vs.toArray a.ep)) (hb : s.heap.get? b.T = some (listOf b.vs.toArray b.ep)) (hx : StrsAre a.vs ss) (hy : StrsAre b.vs ts)
    (h : C (lexLt ss ts) s) : wpAny (model prog w) A (keyLt' oneType' (.ref a.T) (.ref b.T)) C (fun _ _ => False) s := by
  rw [keyLt'_oneType, oneLt'_eq]
  simp only [if_true]
  refine wpAny_bind (wpAny_cRoomFor hu ?_)
  refine wpAny_bind (wpAny_callSpecialIfBound?_slot (T := "list") ⟨_, ha, rfl⟩ PySem.F.slot_list_lt (call_meets PySem.F.slot_list_lt (T := "list") ⟨_, ha, rfl⟩ PySem.F.entry_list_lt (PySem.F.args_list_lt_2 _ _) (list_ltAt a.T b.T a.vs b.vs ss ts hx hy a.ep b.ep) ⟨ha, hb, ?_⟩))
  exact wpAny_truthy_bool h
theorem sortListsM {l : List TxA} {rows : List (List Str)} {ep : Nat} {Q : Value → Shared → Prop} (hu : A.units + 1 < cLine) (F : Fr h₀ L hh m) (N : Led h₀ L hh ((D, listOf (txVals l).toArray ep) :: news)) (hl : NmAre l rows) (hm : ∀ q ∈ txLed l, q ∈ news) (h2 : 2 ≤ l.length) (h64 : l.length < 64) (hnd : rows.Nodup)
    (h : ∀ h' l' rows' e, Fr h₀ L h' m → Led h₀ L h' ((D, listOf (txVals l').toArray e) :: news) → NmAre l' rows' → l'.Perm l → rows'.Perm rows → rows'.Pairwise (fun a b => lexLt a b = true) → Q .none ⟨h', gs, dr, tk₀, os⟩) :
    wpAny (model prog w) A (call (.builtin "list.sort") [.ref D]) Q E ⟨hh, gs, dr, tk₀, os⟩ := by
  have hD := N.N _ (.head _)
  have ho : hh.get? D = some (seqObj "list" (txVals l).toArray ep) := hD.1
  have hlen : (txVals l).length = l.length := by simp [txVals]
  have hrl := hl.len
  refine wpAny_call_entry PyProof.Rows.slot_list_sort ⟨_, ho, rfl⟩ PyProof.Rows.entry_list_sort (kas_list_sort (vs := txVals l) (T := .type "list") F N.tail.N ho hD.2.1 hD.2.2 N.off (by lia) (by lia) (fun e1 h F' N' v hv => ?_) (by decide) (by decide) fun e1 h' F' N' => ?_) (PyProof.Rows.args_list_sort _)
  · obtain ⟨a, ha, rfl⟩ := List.mem_map.mp hv
    have := N' (a.T, listOf a.vs.toArray a.ep) (.tail _ (hm _ (List.mem_map_of_mem ha)))
    exact fun A Q E s k q => wpAny_typeOf (T := "list") ⟨_, k _ _ this.1, rfl⟩ q
  · have at' : ∀ {i : Nat} (hi : i < l.length), h'.get? (l[i]).T = some (listOf (l[i]).vs.toArray (l[i]).ep) := fun {i} hi => (N' _ (.tail _ (hm _ (List.mem_map_of_mem (List.getElem_mem hi))))).1
    have rw' : ∀ {i : Nat} (hi : i < l.length), StrsAre (l[i]).vs (rows.getD i []) := fun {i} hi => by
      obtain ⟨f, e, hf⟩ := hl.get (List.getElem?_eq_getElem hi)
      rw [List.getD_eq_getElem?_getD, e]; exact hf
    have vl : ∀ {i : Nat} (hi : i < l.length), (txVals l).getD i Value.none = .ref (l[i]).T := fun {i} hi => by
      rw [List.getD_eq_getElem?_getD]; unfold txVals; rw [List.getElem?_map, List.getElem?_eq_getElem hi]; rfl
    have H : LtOk (fun i j => lexLt (rows.getD i []) (rows.getD j [])) l.length := by
      refine ⟨fun i j k => lexLt_trans _ _ _, fun i j hi hj hne h1 => lexLt_total _ _ (fun e => hne ?_) h1, fun i => lexLt_irrefl _⟩
      rw [List.getD_eq_getElem?_getD, List.getD_eq_getElem?_getD, List.getElem?_eq_getElem (by lia), List.getElem?_eq_getElem (by lia)] at e
      exact (List.getElem?_inj (by lia) hnd).mp (by rw [List.getElem?_eq_getElem (by lia), List.getElem?_eq_getElem (by lia)]; exact congrArg some e)
    rw [hlen]
    refine RW_wp (fun i j C hi hj hC => ?_) (fun p hp => ?_) (run_sort H h2)
    · unfold kas_ask
      rw [vl hi, vl hj]
      exact keyLtLists (by show A.units + 1 < cLine; exact hu) (at' hi) (at' hj) (rw' hi) (rw' hj) hC
    · obtain ⟨pp, asc⟩ := hp
      have hin : ∀ i ∈ p.toList, i < l.length := fun i hi => List.mem_range.mp (pp.mem_iff.mp hi)
      have hin2 : ∀ i ∈ p.toList, i < rows.length := fun i hi => by have := hin i hi; lia
      have eo : (p.toList.map fun i => (txVals l).getD i Value.none) = txVals (pick l p.toList) := by
        unfold txVals
        rw [← pick_map]
        have key : ∀ q : List Nat, (∀ i ∈ q, i < l.length) → (q.map fun i => (List.map (fun x : TxA => Value.ref x.T) l).getD i Value.none) = pick (List.map (fun x : TxA => Value.ref x.T) l) q := by
          intro q
          induction q with
          | nil => intro _; rfl
          | cons i q ih =>
            intro hq
            have hi := hq i (.head _)
            have e : (List.map (fun x : TxA => Value.ref x.T) l)[i]? = some (.ref (l[i]).T) := by rw [List.getElem?_map, List.getElem?_eq_getElem hi]; rfl
            have ih' := ih fun j hj => hq j (.tail _ hj)
            unfold pick at ih' ⊢
            rw [List.map_cons, List.filterMap_cons_some e, ih', List.getD_eq_getElem?_getD, e]; rfl
        exact key _ hin
      rw [eo]
      refine KasFin.intro F' N' (UpdF.head N.off) fun h'' c F'' N'' => ⟨_, rfl, ?_⟩
      refine h h'' (pick l p.toList) (pick rows p.toList) c F'' ⟨N'', N.nd⟩ (hl.pick _) (pick_perm l pp) (pick_perm rows (by rw [← hrl]; exact pp)) ?_
      rw [List.pairwise_iff_getElem]
      intro i j hi hj hij
      have hpl := pick_len hin2
      have hps := pp.length_eq
      rw [List.length_range] at hps
      have g1 : ∀ {k : Nat} (hk : k < (pick rows p.toList).length), (pick rows p.toList)[k] = rows.getD (gp p k) [] := fun {k} hk => by
        have hk2 : k < p.size := by rw [← Array.length_toList]; lia
        have e1 := pick_get hin2 k
        rw [List.getElem?_eq_getElem hk] at e1
        have e2 : p.toList[k]? = some (gp p k) := by rw [gp_eq hk2]; simp [hk2]
        rw [e2, Option.bind_some] at e1
        rw [List.getD_eq_getElem?_getD, ← e1]; rfl
      rw [g1 hi, g1 hj]
      exact asc i j hij (by lia)
theorem sortedSeqM {a : Addr} {T : String} {o : Obj} {vs : List Value} {ep : Nat} {Q : Value → Shared → Prop} (hT : T = "list" ∨ T = "tuple") (F : Fr h₀ L hh m) (N : Led h₀ L hh news) (ho : hh.get? a = some o) (hc : o.cls = .type T) (hd : o.data = .seq vs.toArray ep) (hz : vs.length ≤ 1000)
    (h : ∀ B h', Fr h₀ L h' m → Led h₀ L h' ((B, listOf vs.toArray 0) :: news) → wpAny (model prog w) A.in1 (call (.builtin "list.sort") [.ref B]) (fun _ s' => Q (.ref B) s') E ⟨h', gs, dr, tk₀, os⟩) :
    wpAny (model prog w) A (call (.builtin "sorted") [.ref a]) Q E ⟨hh, gs, dr, tk₀, os⟩ := by
  refine call_function_entry kind_sorted plain_sorted entry_sorted (args_sorted1 _) ?_
  unfold Builtin.«sorted»
  refine wpAny_bind (m := checkCount "sorted" 1 1 _) (wpAny_pure ?_)
  have hsl : sizeLine = 16777216 := rfl
  refine wpAny_bind (wpAny_collect_seq (A := A.in1) a hT ho hc hd (fun h' hk => ?_) (by rw [List.size_toArray]; lia))
  refine wpAny_bind (wpAny_newList ?_ (by simp only; lia))
  have hp := Led.push (o := listOf vs.toArray 0) (keepFr F hk) (keepLed N hk) rfl
  refine wpAny_bind (wpAny_holding (wpAny_mono (h h'.objs.size (h'.push (listOf vs.toArray 0)) hp.1 hp.2) (fun _ s' x => ?_) fun _ _ e => e))
  exact wpAny_pure ⟨_, rfl, x⟩
theorem sortedValsM {v d : Addr} {od : Obj} {kvs : List (Str × Value)} {Q : Value → Shared → Prop} (hA : A.handled = none) (F : Fr h₀ L hh m) (N : Led h₀ L hh news) (hv : (v, viewOf d) ∈ news) (hm : (d, od) ∈ news) (hd : od.IsDictOf (PySem.strKind prog w) kvs) (hk : kvs.length ≤ 1000)
    (h : ∀ B h' tk, Fr h₀ L h' m → Led h₀ L h' ((B, listOf (kvs.map (·.2)).toArray 0) :: news) → wpAny (model prog w) A.in1 (call (.builtin "list.sort") [.ref B]) (fun _ s' => Q (.ref B) s') E ⟨h', gs, dr, tk, os⟩) :
    wpAny (model prog w) A (call (.builtin "sorted") [.ref v]) Q E ⟨hh, gs, dr, tk₀, os⟩ := by
  obtain ⟨ep, ha⟩ := KdkAt.of hd
  refine kdu_sorted (s := ⟨hh, gs, dr, tk₀, os⟩) (kdl_values (knd := PySem.strKind prog w) (kvs := kvs) (ep := ep)) hA F N.N ⟨⟨_, (N.N _ hv).1, rfl, rfl⟩, ha.dictAt (N.N _ hm).1⟩ (by have : sizeLine = 16777216 := rfl; lia) fun B h' tk vs F' N' l1 hl hvs => ?_
  have e : vs = kvs.map (·.2) := by
    apply List.ext_getElem?
    intro j
    rw [List.getElem?_map]
    cases e : vs[j]? with
    | none =>
      have := List.getElem?_eq_none_iff.mp e
      rw [List.getElem?_eq_none (by lia)]; rfl
    | some u =>
      obtain ⟨k, hk⟩ := hvs j u e
      rw [hk]; rfl
  rw [e] at N'
  exact h B h' tk F' ⟨N', List.nodup_cons.mpr ⟨fun hm => by
    obtain ⟨q, hq, e⟩ := List.mem_map.mp hm
    have := l1 q hq
    rw [show q.1 = B from e] at this
    exact absurd this (Nat.lt_irrefl _), N.nd⟩⟩
end
end
section
open PySem PySem.W PySem.Calls PyProof.Rows PySem.SeqAt
inductive BysAre : List Value → List (List Int) → Prop
  | nil : BysAre [] []
  | cons (b : Array UInt8) (t : Tok) {vs cs} : BysAre vs cs → BysAre (.bytes b t :: vs) (KBw.bInts b :: cs)
theorem BysAre.len {vs : List Value} {cs : List (List Int)} (h : BysAre vs cs) : vs.length = cs.length := by induction h with | nil => rfl | cons _ _ _ ih => simp [ih]
theorem BysAre.app {vs ws : List Value} {cs ds : List (List Int)} (h : BysAre vs cs) (h' : BysAre ws ds) : BysAre (vs ++ ws) (cs ++ ds) := by induction h with | nil => exact h' | cons b t _ ih => exact .cons b t ih
theorem BysAre.get {vs : List Value} {cs : List (List Int)} (h : BysAre vs cs) : ∀ {i : Nat} {v : Value}, vs[i]? = some v → ∃ b t, v = .bytes b t ∧ cs[i]? = some (KBw.bInts b) := by
  induction h with
  | nil => intro i v e; simp at e
  | cons b t _ ih =>
    intro i v e
    cases i with
    | zero => simp at e; exact ⟨b, t, e.symm, by simp⟩
    | succ i => simpa using ih (by simpa using e)
theorem BysAre.one {b : Array UInt8} {t : Tok} {c : List Int} (h : KBw.bInts b = c) : BysAre [.bytes b t] [c] := h ▸ .cons b t .nil
theorem bInts_inj {b c : Array UInt8} (h : KBw.bInts b = KBw.bInts c) : b = c := by
  unfold KBw.bInts at h
  apply Array.toList_inj.mp
  have key : ∀ x y : List UInt8, x.map (fun z => (z.toNat : Int)) = y.map (fun z => (z.toNat : Int)) → x = y := by
    intro x
    induction x with
    | nil => intro y e; cases y with | nil => rfl | cons _ _ => simp at e
    | cons a r ih =>
      intro y e
      cases y with
      | nil => simp at e
      | cons b t =>
        simp only [List.map_cons, List.cons.injEq] at e
        have : a = b := UInt8.toNat_inj.mp (by lia)
        rw [this, ih t e.2]
  exact key _ _ h
section
variable {prog : Program} {w : World} {A : Around} {h₀ hh : Heap} {L : Addr} {m : Str → Option Value} {news : List (Addr × Obj)} {E : Value → Shared → Prop} {gs : Array GenState} {dr : Drawn} {os : OsState} {tk₀ : Nat} {D : Addr}
theorem notInBysM {b : Array UInt8} {u : Tok} {vs : List Value} {cs : List (List Int)} {ep : Nat} {Q : Value → Shared → Prop} (ho : hh.get? D = some (listOf vs.toArray ep)) (hv : BysAre vs cs)
    (h : Q (.bool (decide (KBw.bInts b ∉ cs))) ⟨hh, gs, dr, tk₀, os⟩) : wpAny (model prog w) A (compareOp .NotIn (.bytes b u) (.ref D)) Q E ⟨hh, gs, dr, tk₀, os⟩ := by
  refine notIn_listAt (items := vs.toArray) (fun y => match y with | .bytes c _ => decide (c.toList = b.toList) | _ => false) ⟨_, ho, rfl, _, rfl⟩ (fun y hy => ?_) ?_
  · refine nameG fun GG hGG => ?_
    obtain ⟨i, hi, e⟩ := List.getElem_of_mem (by simpa using hy : y ∈ vs)
    obtain ⟨c, t, rfl, _⟩ := hv.get (e ▸ List.getElem?_eq_getElem hi)
    refine hGG ?_; clear hGG GG
    exact fun prog w E Q hq => eqBool_bytes hq
  · have key : ∀ {vs : List Value} {cs : List (List Int)}, BysAre vs cs → (vs.any fun y => match y with | .bytes c _ => decide (c.toList = b.toList) | _ => false) = decide (KBw.bInts b ∈ cs) := by
      intro vs cs h
      induction h with
      | nil => simp
      | cons c t _ ih =>
        rw [List.any_cons, ih]
        by_cases e : c = b
        · subst e; simp
        · have e1 : c.toList ≠ b.toList := fun q => e (Array.toList_inj.mp q)
          have e2 : KBw.bInts b ≠ KBw.bInts c := fun q => e (bInts_inj q).symm
          simp [e1, e2]
    rw [List.any_toArray, key hv]
    simpa using h
theorem neNilM {a b : Addr} {vs : List Value} {n k : Nat} {Q : Value → Shared → Prop} (hu : A.units < cLine) (ha : hh.get? a = some (listOf vs.toArray n)) (hb : hh.get? b = some (listOf (List.toArray []) k))
    (h : Q (.bool (!vs.isEmpty)) ⟨hh, gs, dr, tk₀, os⟩) : wpAny (model prog w) A (compareOp .NotEq (.ref a) (.ref b)) Q E ⟨hh, gs, dr, tk₀, os⟩ := by
  refine cmp_ofNotEq ?_
  cases vs with
  | nil => exact RcNeAt.lists (e := fun _ => true) (s := ⟨hh, gs, dr, tk₀, os⟩) ⟨_, ha, rfl, _, rfl⟩ ⟨_, hb, rfl, _, rfl⟩ rfl hu (fun j h1 _ => absurd h1 (by simp)) prog w E Q (by simpa using h)
  | cons v r => exact RcNeAt.lists_lengths (s := ⟨hh, gs, dr, tk₀, os⟩) ⟨_, ha, rfl, _, rfl⟩ ⟨_, hb, rfl, _, rfl⟩ (by simp) hu prog w E Q h
theorem maxM {vs : List Value} {ns : List Int} {ep : Nat} {Q : Value → Shared → Prop} (M : Int) (hA : A.handled = none) (F : Fr h₀ L hh m) (N : Led h₀ L hh news) (ho : hh.get? D = some (listOf vs.toArray ep)) (hi : IntsAre vs ns) (hM : M ∈ ns) (hmx : ∀ a ∈ ns, a ≤ M)
    (h : ∀ h' t tk, Fr h₀ L h' m → Led h₀ L h' news → Q (.int M t) ⟨h', gs, dr, tk, os⟩) : wpAny (model prog w) A (call (.builtin "max") [.ref D]) Q E ⟨hh, gs, dr, tk₀, os⟩ := by
  refine max_list_N hA F N.N ⟨_, ho, rfl, _, rfl⟩ hi (List.length_pos_of_mem hM) fun h' M' t tk F' N' m1 m2 => ?_
  have e : M' = M := Int.le_antisymm (hmx _ m1) (m2 _ hM)
  subst e
  exact h h' t tk F' ⟨N', N.nd⟩
theorem boundM {x dx C f : Addr} {sl : Array (Option Value)} {K : Frag} {name : Str} {expr : Bool} {es : List DictEntry} {n : Nat} {Q : Value → Shared → Prop} (F : Fr h₀ L hh m) (X₀ : K.In h₀) (N : Led h₀ L hh news) (I : InstAt hh x ⟨.ref C, some dx, .plain, sl⟩ C (some (dictOf es n))) (hg : plainGet K C name = true) (hhd : hasDictIn K C = true) (ha : findIn K (.ref C) name = some (some (.ref f))) (hf : isFn K (.ref f) = true)
    (hgf : specialIn K (.ref f) "__get__" = some (some (.builtin "function.__get__"))) (ht : takesIn K (.ref f) = some false) (hc : copiedNames.contains name = false) (hl : getL name es = some none)
    (h : ∀ q h' tk, Fr h₀ L h' m → Led h₀ L h' ((q, methodObj (.ref f) (.ref x)) :: news) → Q (.ref q) ⟨h', gs, dr, tk, os⟩) : wpAny (model prog w) A (getAttr (.ref x) name expr) Q E ⟨hh, gs, dr, tk₀, os⟩ :=
  kbm_bound F X₀ N.N I hg hhd ha hf hgf ht hc hl fun q h' F' N' l1 => h q h' _ F' ⟨N', List.nodup_cons.mpr ⟨fun hm => by
    obtain ⟨p, hp, e⟩ := List.mem_map.mp hm
    have := l1 p hp
    rw [show p.1 = q from e] at this
    exact absurd this (Nat.lt_irrefl _), N.nd⟩⟩
theorem starSeqM {a : Addr} {o : Obj} {T : String} {ws : List Value} {n : Nat} {Q : List Value → Shared → Prop} (hT : T = "list" ∨ T = "tuple") (F : Fr h₀ L hh m) (N : Led h₀ L hh news) (ho : hh.get? a = some o) (hc : o.cls = .type T) (hd : o.data = .seq ws.toArray n) (hz : ws.length ≤ 1000)
    (h : ∀ h', Fr h₀ L h' m → Led h₀ L h' news → Q ws ⟨h', gs, dr, tk₀, os⟩) : StarOf (model prog w) A E (.ref a) Q ⟨hh, gs, dr, tk₀, os⟩ := by
  have hT' : (⟨hh, gs, dr, tk₀, os⟩ : Shared).TypeIs (.ref a) T := ⟨o, ho, hc⟩
  have hsl : sizeLine = 16777216 := rfl
  have z : wpAny (model prog w) A (collect (.ref a)) Q E ⟨hh, gs, dr, tk₀, os⟩ :=
    wpAny_collect_seq a hT ho hc hd (fun h' hk => h h' (keepFr F hk) (keepLed N hk)) (by rw [List.size_toArray]; lia)
  unfold StarOf notIterableAtAll
  rcases hT with rfl | rfl
  · exact wpAny_bind (wpAny_specialOf hT' PySem.F.slot_list_iter.lookup (wpAny_pure ⟨rfl, z⟩))
  · exact wpAny_bind (wpAny_specialOf hT' PySem.F.slot_tuple_iter.lookup (wpAny_pure ⟨rfl, z⟩))
end
section
variable {prog : Program} {w : World} {A : Around} {E : Value → Shared → Prop} {env : Env} {iter : PySem.Expr} {x : Str} {px pos : Pos} {s : Shared}
noncomputable def ForG (prog : Program) (w : World) (A : Around) (env : Env) (x : Str) (body : List Stmt) (Q : Flow → Shared → Prop) (it : Value) (s₂ : Shared) : Prop :=
  ∀ px E, ∃ I, it = .ref I ∧ codeAny (model prog w) A (.forLoop (.Name x px) (.ref I) body [] env) (fun r s' => match r with | .ok f => Q f s' | .error e => cameBackBy (model prog w) A env E e s') s₂
theorem forG {body : List Stmt} {Q : Flow → Shared → Prop} (h : wpAny (model prog w) A (eval iter env) (fun xv s₁ => wpAny (model prog w) A (pyIter xv) (ForG prog w A env x body Q) E s₁) E s)
    (hs : ∀ x, foldedSetIterable iter env x = pure x) : wpAny (model prog w) A (exec (.For (.Name x px) iter body [] pos) env) Q E s := by
  refine wpAny_For (wpAny_mono h (fun xv s₁ h₁ => wpAny_mono h₁ (fun it s₂ h₂ => ?_) fun _ _ e => e) fun _ _ e => e) hs
  obtain ⟨I, rfl, c⟩ := h₂ px E
  exact c
end
end
section
open PySem PySem.W PySem.Calls PyProof.Rows
noncomputable abbrev s1 (x : List Int) : List Int := snd4 62 63 x
noncomputable abbrev s2 (x : List Int) : List Int := snd4 63 62 x
noncomputable abbrev gij (i j : Int) (x : List Int) : List Int := (gro i j x 4).take 4
noncomputable def mst : Nat → List Int → Nat
  | 0, _ => 0
  | k + 1, x => max (if s1 x = x then 0 else mst k (s1 x) + 1) (if s2 x = x then 0 else mst k (s2 x) + 1)
noncomputable def ded {α : Type} [DecidableEq α] : List α → List α
  | [] => []
  | a :: r => if a ∈ ded r then ded r else a :: ded r
theorem mem_ded {α : Type} [DecidableEq α] {x : α} : ∀ {l : List α}, x ∈ ded l ↔ x ∈ l
  | [] => Iff.rfl
  | a :: r => by
    unfold ded
    by_cases h : a ∈ ded r
    · rw [if_pos h, mem_ded (l := r), List.mem_cons]
      exact ⟨.inr, fun q => q.elim (fun e => by rw [e]; exact mem_ded.mp h) id⟩
    · rw [if_neg h, List.mem_cons, List.mem_cons, mem_ded (l := r)]
theorem ded_map {α β : Type} [DecidableEq α] [DecidableEq β] {f : α → β} : ∀ {l : List α}, (∀ a ∈ l, ∀ b ∈ l, f a = f b → a = b) → ded (l.map f) = (ded l).map f
  | [], _ => rfl
  | a :: r, h => by
    have ih := ded_map (f := f) (l := r) fun x hx y hy => h x (.tail _ hx) y (.tail _ hy)
    rw [List.map_cons]
    unfold ded
    rw [ih]
    by_cases hm : a ∈ ded r
    · rw [if_pos hm, if_pos (List.mem_map_of_mem hm)]
    · rw [if_neg hm, if_neg (fun q => ?_), List.map_cons]
      obtain ⟨b, hb, e⟩ := List.mem_map.mp q
      have := h b (.tail _ (mem_ded.mp hb)) a (.head _) e
      exact hm (this ▸ hb)
noncomputable def fours : List (Int × Int) := [0, 1, 2, 3].flatMap fun i => [0, 1, 2, 3].map fun j => (i, j)
noncomputable def cl (x : List Int) : List (List Int) := ded (fours.map fun p => gij p.1 p.2 x)
noncomputable def pats : List (List Int) := [62, 63, 0].flatMap fun a => [62, 63, 0].flatMap fun b => [62, 63, 0].flatMap fun c => [62, 63, 0].map fun d => [a, b, c, d]
noncomputable def okP (x : List Int) : Bool := x.length == 4 && x.all fun f => f == 62 || f == 63 || f == 0
theorem okP_pats {x : List Int} (h : okP x = true) : x ∈ pats := by
  unfold okP at h
  simp only [Bool.and_eq_true, beq_iff_eq, List.all_eq_true, Bool.or_eq_true] at h
  obtain ⟨hl, ha⟩ := h
  match x, hl with
  | [a, b, c, d], _ =>
    have e : ∀ f ∈ [a, b, c, d], f ∈ ([62, 63, 0] : List Int) := fun f hf => by rcases ha f hf with (h | h) | h <;> simp [h]
    unfold pats
    rw [List.mem_flatMap]
    refine ⟨a, e a (by simp), ?_⟩
    rw [List.mem_flatMap]
    refine ⟨b, e b (by simp), ?_⟩
    rw [List.mem_flatMap]
    exact ⟨c, e c (by simp), List.mem_map_of_mem (e d (by simp))⟩
theorem pats_g : ∀ x ∈ pats, ∀ p ∈ fours, okP (gij p.1 p.2 x) = true ∧ s1 (gij p.1 p.2 x) = gij (p.1 + 1) p.2 x ∧ s2 (gij p.1 p.2 x) = gij p.1 (p.2 + 1) x := by decide +kernel
theorem pats_e : ∀ x ∈ pats, (∀ j ∈ ([0, 1, 2, 3] : List Int), gij 4 j x = gij 3 j x ∧ gij j 4 x = gij j 3 x) ∧ gij 0 0 x = x ∧ okP x = true := by decide +kernel
theorem pats_c : ∀ x ∈ pats, (cl x).length ≤ 7 := by decide +kernel
theorem pats_r : ∀ x ∈ pats, mst 8 x = mst 9 x ∧ mst 8 x ≤ 7 := by decide +kernel
end
section
open PySem PySem.W PySem.Calls PyProof.Rows
noncomputable def ren (c f : Int) : Int := if f = 62 ∨ f = 63 then f else c
noncomputable def In3 (x : List Int) : Prop := ∀ f ∈ x, f = 62 ∨ f = 63 ∨ f = 0
theorem okP_in {x : List Int} (h : okP x = true) : x.length = 4 ∧ In3 x := by
  unfold okP at h
  simp only [Bool.and_eq_true, beq_iff_eq, List.all_eq_true, Bool.or_eq_true] at h
  exact ⟨h.1, fun f hf => by rcases h.2 f hf with (h | h) | h <;> simp [h]⟩
theorem pats_ok {x : List Int} (h : x ∈ pats) : okP x = true := (pats_e x h).2.2
theorem pats_in {x : List Int} (h : x ∈ pats) : x.length = 4 ∧ In3 x := okP_in (pats_ok h)
section
variable {c : Int} (hc : 0 ≤ c ∧ c < 62)
include hc
theorem ren_p {f p : Int} (hp : p = 62 ∨ p = 63) (hf : f = 62 ∨ f = 63 ∨ f = 0) : ren c f = p ↔ f = p := by
  unfold ren
  rcases hp with rfl | rfl <;> rcases hf with rfl | rfl | rfl <;> simp <;> lia
theorem ren_inj {f g : Int} (hf : f = 62 ∨ f = 63 ∨ f = 0) (hg : g = 62 ∨ g = 63 ∨ g = 0) (h : ren c f = ren c g) : f = g := by
  unfold ren at h
  rcases hf with rfl | rfl | rfl <;> rcases hg with rfl | rfl | rfl <;> simp at h ⊢ <;> lia
theorem map_ren_inj : ∀ {x y : List Int}, In3 x → In3 y → x.map (ren c) = y.map (ren c) → x = y
  | [], [], _, _, _ => rfl
  | [], _ :: _, _, _, h => by simp at h
  | _ :: _, [], _, _, h => by simp at h
  | a :: r, b :: t, hx, hy, h => by
    simp only [List.map_cons, List.cons.injEq] at h
    rw [ren_inj hc (hx a (.head _)) (hy b (.head _)) h.1, map_ren_inj (fun f hf => hx f (.tail _ hf)) (fun f hf => hy f (.tail _ hf)) h.2]
theorem grw_ren {p q : Int} (hp : p = 62 ∨ p = 63) (hq : q = 62 ∨ q = 63) : ∀ {x : List Int} {v w : Int}, In3 x → (v = q ↔ w = q) → grw p q v (x.map (ren c)) = (grw p q w x).map (ren c)
  | [], _, _, _, _ => rfl
  | f :: r, v, w, hx, hv => by
    have hf := hx f (.head _)
    rw [List.map_cons]
    unfold grw
    rw [grw_ren hp hq (x := r) (w := f) (fun g hg => hx g (.tail _ hg)) (ren_p hc hq hf), List.map_append]
    congr 1
    have hpp : ren c p = p := by unfold ren; rw [if_pos hp]
    by_cases h : w = q ∧ f = p
    · rw [if_pos h, if_pos ⟨hv.mpr h.1, (ren_p hc hp hf).mpr h.2⟩]
      simp [hpp]
    · rw [if_neg h, if_neg (fun h2 => h ⟨hv.mp h2.1, (ren_p hc hp hf).mp h2.2⟩)]; rfl
theorem snd4_ren {p q : Int} (hp : p = 62 ∨ p = 63) (hq : q = 62 ∨ q = 63) {x : List Int} (hx : In3 x) : snd4 p q (x.map (ren c)) = (snd4 p q x).map (ren c) := by
  unfold snd4
  rw [grw_ren hc hp hq hx (Iff.refl _), List.map_take]
theorem getD_ren {x : List Int} {k : Nat} (hk : k < x.length) : (x.map (ren c)).getD k 0 = ren c (x.getD k 0) := by
  rw [List.getD_eq_getElem?_getD, List.getD_eq_getElem?_getD, List.getElem?_map, List.getElem?_eq_getElem hk]; rfl
theorem getD_in {x : List Int} (hx : In3 x) {k : Nat} (hk : k < x.length) : x.getD k 0 = 62 ∨ x.getD k 0 = 63 ∨ x.getD k 0 = 0 := by
  rw [List.getD_eq_getElem?_getD, List.getElem?_eq_getElem hk]; exact hx _ (List.getElem_mem hk)
theorem extK_ren {i j : Int} {x : List Int} (hx : In3 x) {k : Nat} (hk : k < x.length) : extK i j (x.map (ren c)) k = (extK i j x k).map (ren c) := by
  unfold extK
  rw [getD_ren hc hk]
  have h1 := getD_in hc hx hk
  have e1 := ren_p hc (p := 62) (.inl rfl) h1
  have g1 : ren c (x.getD k 0) > 61 ↔ x.getD k 0 > 61 := by
    unfold ren
    rcases h1 with h | h | h <;> rw [h] <;> simp <;> omega
  have g2 : (k = 0 ∨ (x.map (ren c)).getD (k - 1) 0 = 125 - ren c (x.getD k 0)) ∧ ren c (x.getD k 0) > 61 ↔ (k = 0 ∨ x.getD (k - 1) 0 = 125 - x.getD k 0) ∧ x.getD k 0 > 61 := by
    rw [g1, getD_ren hc (show k - 1 < x.length by omega)]
    have h2 := getD_in hc hx (show k - 1 < x.length by omega)
    unfold ren
    rcases h1 with h | h | h <;> rcases h2 with h' | h' | h' <;> rw [h, h'] <;> simp <;> omega
  by_cases h : x.getD k 0 > 61 ∧ (k = 0 ∨ x.getD (k - 1) 0 = 125 - x.getD k 0)
  · have h' := g2.mpr ⟨h.2, h.1⟩
    rw [if_pos h, if_pos ⟨h'.2, h'.1⟩, List.map_append, List.map_replicate]
    by_cases e : x.getD k 0 = 62
    · rw [if_pos e, if_pos (e1.mpr e)]; rfl
    · rw [if_neg e, if_neg (fun q => e (e1.mp q))]; rfl
  · rw [if_neg h, if_neg (fun q => h ⟨(g2.mp ⟨q.2, q.1⟩).2, (g2.mp ⟨q.2, q.1⟩).1⟩)]; rfl
theorem gro_ren {i j : Int} {x : List Int} (hx : In3 x) : ∀ {k : Nat}, k ≤ x.length → gro i j (x.map (ren c)) k = (gro i j x k).map (ren c)
  | 0, _ => rfl
  | k + 1, hk => by
    unfold gro
    rw [gro_ren hx (k := k) (by lia), extK_ren hc hx (by lia), List.map_append]
theorem gij_ren {i j : Int} {x : List Int} (hx : x.length = 4 ∧ In3 x) : gij i j (x.map (ren c)) = (gij i j x).map (ren c) := by
  unfold gij
  rw [gro_ren hc hx.2 (by lia), List.map_take]
theorem mst_ren : ∀ {k : Nat} {x : List Int}, x ∈ pats → mst k (x.map (ren c)) = mst k x
  | 0, _, _ => rfl
  | k + 1, x, hx => by
    have h1 := pats_g x hx (0, 0) (by decide)
    have e0 := (pats_e x hx).2.1
    rw [show gij (0, 0).1 (0, 0).2 x = gij 0 0 x from rfl, e0] at h1
    have i0 := pats_in hx
    have hs1 : s1 x ∈ pats := by rw [h1.2.1]; exact okP_pats (pats_g x hx (1, 0) (by decide)).1
    have hs2 : s2 x ∈ pats := by rw [h1.2.2]; exact okP_pats (pats_g x hx (0, 1) (by decide)).1
    unfold mst
    have e1 : s1 (x.map (ren c)) = (s1 x).map (ren c) := snd4_ren hc (.inl rfl) (.inr rfl) i0.2
    have e2 : s2 (x.map (ren c)) = (s2 x).map (ren c) := snd4_ren hc (.inr rfl) (.inl rfl) i0.2
    rw [e1, e2, mst_ren hs1, mst_ren hs2]
    have q1 : (s1 x).map (ren c) = x.map (ren c) ↔ s1 x = x := ⟨map_ren_inj hc (pats_in hs1).2 i0.2, fun e => by rw [e]⟩
    have q2 : (s2 x).map (ren c) = x.map (ren c) ↔ s2 x = x := ⟨map_ren_inj hc (pats_in hs2).2 i0.2, fun e => by rw [e]⟩
    simp only [q1, q2]
end
noncomputable def Dom (x : List Int) : Prop := ∃ c, (0 ≤ c ∧ c < 62) ∧ ∃ x0 ∈ pats, x = x0.map (ren c)
theorem Dom.four {x : List Int} (h : Dom x) : Four x := by
  obtain ⟨c, hc, x0, h0, rfl⟩ := h
  obtain ⟨l, i⟩ := pats_in h0
  refine ⟨by rw [List.length_map]; exact l, fun f hf => ?_⟩
  obtain ⟨g, hg, rfl⟩ := List.mem_map.mp hf
  unfold ren Fig
  rcases i g hg with h | h | h <;> rw [h] <;> simp <;> lia
theorem Dom.g {x : List Int} (h : Dom x) {p : Int × Int} (hp : p ∈ fours) : Dom (gij p.1 p.2 x) ∧ s1 (gij p.1 p.2 x) = gij (p.1 + 1) p.2 x ∧ s2 (gij p.1 p.2 x) = gij p.1 (p.2 + 1) x := by
  obtain ⟨c, hc, x0, h0, rfl⟩ := h
  have h1 := pats_g x0 h0 p hp
  have i0 := pats_in h0
  rw [gij_ren hc i0, gij_ren hc i0, gij_ren hc i0]
  have o := okP_in h1.1
  exact ⟨⟨c, hc, _, okP_pats h1.1, rfl⟩, (snd4_ren hc (.inl rfl) (.inr rfl) o.2).trans (congrArg _ h1.2.1), (snd4_ren hc (.inr rfl) (.inl rfl) o.2).trans (congrArg _ h1.2.2)⟩
theorem Dom.edge {x : List Int} (h : Dom x) {j : Int} (hj : j ∈ ([0, 1, 2, 3] : List Int)) : gij 4 j x = gij 3 j x ∧ gij j 4 x = gij j 3 x := by
  obtain ⟨c, hc, x0, h0, rfl⟩ := h
  have i0 := pats_in h0
  have e := (pats_e x0 h0).1 j hj
  rw [gij_ren hc i0, gij_ren hc i0, gij_ren hc i0, gij_ren hc i0, e.1, e.2]
  exact ⟨rfl, rfl⟩
theorem Dom.zero {x : List Int} (h : Dom x) : gij 0 0 x = x := by
  obtain ⟨c, hc, x0, h0, rfl⟩ := h
  rw [gij_ren hc (pats_in h0), (pats_e x0 h0).2.1]
theorem Dom.s {x : List Int} (h : Dom x) : Dom (s1 x) ∧ Dom (s2 x) := by
  have h0 := h.g (p := (0, 0)) (by decide)
  have e := h.zero
  rw [show gij (0, 0).1 (0, 0).2 x = gij 0 0 x from rfl, e] at h0
  rw [h0.2.1, h0.2.2]
  exact ⟨(h.g (p := (1, 0)) (by decide)).1, (h.g (p := (0, 1)) (by decide)).1⟩
theorem Dom.rk {x : List Int} (h : Dom x) : mst 8 x = mst 9 x ∧ mst 8 x ≤ 7 := by
  obtain ⟨c, hc, x0, h0, rfl⟩ := h
  rw [mst_ren hc h0, mst_ren hc h0]
  exact pats_r x0 h0
theorem Dom.cl {x : List Int} (h : Dom x) : (cl x).length ≤ 7 := by
  obtain ⟨c, hc, x0, h0, rfl⟩ := h
  have i0 := pats_in h0
  have e : Mine.cl (x0.map (ren c)) = (Mine.cl x0).map (List.map (ren c)) := by
    unfold Mine.cl
    rw [← ded_map (f := List.map (ren c)), List.map_map]
    · congr 1
      exact List.map_congr_left fun p _ => gij_ren hc i0
    · intro a ha b hb e
      obtain ⟨p, hp, rfl⟩ := List.mem_map.mp ha
      obtain ⟨q, hq, rfl⟩ := List.mem_map.mp hb
      exact map_ren_inj hc (okP_in (pats_g x0 h0 p hp).1).2 (okP_in (pats_g x0 h0 q hq).1).2 e
  rw [e, List.length_map]
  exact pats_c x0 h0
theorem Dom.text (n : Int) : Dom (textT n) := by
  have hc : ∀ k, n / 3 ^ k % 3 = 0 ∨ n / 3 ^ k % 3 = 1 ∨ n / 3 ^ k % 3 = 2 := fun k => by lia
  have h62 : 0 ≤ n / 81 % 62 ∧ n / 81 % 62 < 62 := by lia
  have e : ∀ k, figT n k = ren (n / 81 % 62) (if n / 3 ^ k % 3 = 0 then 62 else if n / 3 ^ k % 3 = 1 then 63 else 0) := fun k => by
    unfold figT ren
    rcases hc k with h | h | h <;> rw [h] <;> simp
  refine ⟨n / 81 % 62, h62, (List.range 4).map fun k => (if n / 3 ^ k % 3 = 0 then 62 else if n / 3 ^ k % 3 = 1 then 63 else 0), okP_pats ?_, ?_⟩
  · unfold okP
    simp only [Bool.and_eq_true, List.all_eq_true, List.length_map, List.length_range, beq_self_eq_true, true_and]
    intro f hf
    obtain ⟨k, _, rfl⟩ := List.mem_map.mp hf
    split
    · rfl
    · split <;> rfl
  · unfold textT
    rw [List.map_map]
    exact List.map_congr_left fun k _ => e k
end
section
open PySem PySem.W PySem.Calls PyProof.Rows
theorem bval_sgn : ∀ f, Fig f → bval (sgn f) = f := all64 (by decide)
theorem sgn_inj {f g : Int} (hf : Fig f) (hg : Fig g) (h : sgn f = sgn g) : f = g := by rw [← bval_sgn f hf, ← bval_sgn g hg, h]
theorem nmStr_inj {x y : List Int} (hx : ∀ f ∈ x, Fig f) (hy : ∀ f ∈ y, Fig f) (h : nmStr x = nmStr y) : x = y := by
  unfold nmStr at h
  have h2 : (x.map fun f => (sgn f).toNat) = y.map fun f => (sgn f).toNat := by
    have := congrArg (fun s : Str => s.cps.toList) h
    simpa using this
  clear h
  induction x generalizing y with
  | nil => cases y with | nil => rfl | cons _ _ => simp at h2
  | cons a r ih =>
    cases y with
    | nil => simp at h2
    | cons b t =>
      simp only [List.map_cons, List.cons.injEq] at h2
      have n1 := sgn_in a
      have n2 := sgn_in b
      have : a = b := sgn_inj (hx a (.head _)) (hy b (.head _)) (by lia)
      rw [this, ih (fun f hf => hx f (.tail _ hf)) (fun f hf => hy f (.tail _ hf)) h2.2]
theorem nm_inj {x y : List Int} (hx : Dom x) (hy : Dom y) (h : nmStr x = nmStr y) : x = y := nmStr_inj hx.four.2 hy.four.2 h
theorem packL_inj {x y : List Int} (hx : Four x) (hy : Four y) (h : packL x = packL y) : x = y := by
  obtain ⟨a, b, c, d, rfl, ha, hb, hc, hd⟩ := hx.cases
  obtain ⟨a', b', c', d', rfl, ha', hb', hc', hd'⟩ := hy.cases
  unfold Fig at *
  change pack3 a b c d = pack3 a' b' c' d' at h
  simp only [pack3, List.cons.injEq, and_true] at h
  obtain ⟨h1, h2, h3⟩ := h
  obtain ⟨e1, p1⟩ := uq h1 (d16 hb).1 (d16 hb).2 (d16 hb').1 (d16 hb').2
  obtain ⟨p2, p3⟩ := uq h2 (d4 hc).1 (d4 hc).2 (d4 hc').1 (d4 hc').2
  obtain ⟨p4, e4⟩ := uq h3 hd.1 hd.2 hd'.1 hd'.2
  rw [e1, jn p1 p2, jn p3 p4, e4]
theorem mem_cl {x y : List Int} : y ∈ cl x ↔ ∃ p ∈ fours, y = gij p.1 p.2 x := by
  unfold cl
  rw [mem_ded, List.mem_map]
  exact ⟨fun ⟨p, hp, e⟩ => ⟨p, hp, e.symm⟩, fun ⟨p, hp, e⟩ => ⟨p, hp, e.symm⟩⟩
noncomputable def clo (fss : List (List Int)) : List (List Int) := fss.flatMap cl
theorem mem_clo {fss : List (List Int)} {y : List Int} : y ∈ clo fss ↔ ∃ f ∈ fss, ∃ p ∈ fours, y = gij p.1 p.2 f := by
  unfold clo
  rw [List.mem_flatMap]
  exact ⟨fun ⟨f, hf, h⟩ => ⟨f, hf, mem_cl.mp h⟩, fun ⟨f, hf, h⟩ => ⟨f, hf, mem_cl.mpr h⟩⟩
theorem clo_dom {fss : List (List Int)} (hd : ∀ f ∈ fss, Dom f) {y : List Int} (h : y ∈ clo fss) : Dom y := by
  obtain ⟨f, hf, p, hp, rfl⟩ := mem_clo.mp h
  exact ((hd f hf).g hp).1
theorem fours_mem {p : Int × Int} (h : p ∈ fours) : (p.1 = 0 ∨ p.1 = 1 ∨ p.1 = 2 ∨ p.1 = 3) ∧ (p.2 = 0 ∨ p.2 = 1 ∨ p.2 = 2 ∨ p.2 = 3) := by
  have : ∀ p ∈ fours, (p.1 = 0 ∨ p.1 = 1 ∨ p.1 = 2 ∨ p.1 = 3) ∧ (p.2 = 0 ∨ p.2 = 1 ∨ p.2 = 2 ∨ p.2 = 3) := by decide
  exact this p h
theorem mem_fours {i j : Int} (hi : i = 0 ∨ i = 1 ∨ i = 2 ∨ i = 3) (hj : j = 0 ∨ j = 1 ∨ j = 2 ∨ j = 3) : (i, j) ∈ fours := by
  rcases hi with rfl | rfl | rfl | rfl <;> rcases hj with rfl | rfl | rfl | rfl <;> decide
theorem mem4 {j : Int} (hj : j = 0 ∨ j = 1 ∨ j = 2 ∨ j = 3) : j ∈ ([0, 1, 2, 3] : List Int) := by
  rcases hj with rfl | rfl | rfl | rfl <;> decide
theorem clo_s {fss : List (List Int)} (hd : ∀ f ∈ fss, Dom f) {y : List Int} (h : y ∈ clo fss) : s1 y ∈ clo fss ∧ s2 y ∈ clo fss := by
  obtain ⟨f, hf, p, hp, rfl⟩ := mem_clo.mp h
  have hg := (hd f hf).g hp
  obtain ⟨i, j⟩ := p
  obtain ⟨hi, hj⟩ := fours_mem hp
  dsimp only at hi hj hg ⊢
  rw [hg.2.1, hg.2.2]
  refine ⟨mem_clo.mpr ⟨f, hf, ?_⟩, mem_clo.mpr ⟨f, hf, ?_⟩⟩
  · by_cases e : i = 3
    · subst e
      exact ⟨(3, j), mem_fours (by decide) hj, ((hd f hf).edge (mem4 hj)).1⟩
    · exact ⟨(i + 1, j), mem_fours (by lia) hj, rfl⟩
  · by_cases e : j = 3
    · subst e
      exact ⟨(i, 3), mem_fours hi (by decide), ((hd f hf).edge (mem4 hi)).2⟩
    · exact ⟨(i, j + 1), mem_fours hi (by lia), rfl⟩
theorem nodup_sub {α : Type} [DecidableEq α] : ∀ {l r : List α}, l.Nodup → (∀ x ∈ l, x ∈ r) → l.length ≤ r.length
  | [], _, _, _ => Nat.zero_le _
  | a :: l, r, nd, h => by
    rw [List.nodup_cons] at nd
    have ha := h a (.head _)
    have ih := nodup_sub (l := l) (r := r.erase a) nd.2 fun x hx => (List.mem_erase_of_ne (fun e : x = a => nd.1 (by rw [← e]; exact hx))).mpr (h x (.tail _ hx))
    rw [List.length_erase_of_mem ha] at ih
    have := List.length_pos_of_mem ha
    rw [List.length_cons]; omega
theorem clo_len {fss : List (List Int)} (hd : ∀ f ∈ fss, Dom f) : (clo fss).length ≤ 7 * fss.length := by
  unfold clo
  induction fss with
  | nil => exact Nat.le_refl _
  | cons f r ih =>
    rw [List.flatMap_cons, List.length_append, List.length_cons]
    have := (hd f (.head _)).cl
    have := ih fun g hg => hd g (.tail _ hg)
    lia
structure KOk (fss K : List (List Int)) : Prop where
  nd : K.Nodup
  mem : ∀ y, y ∈ K ↔ y ∈ clo fss
theorem KOk.of {fss K : List (List Int)} (hd : ∀ f ∈ fss, Dom f) (nd : K.Nodup) (hs : ∀ y ∈ K, y ∈ clo fss) (hf : ∀ f ∈ fss, f ∈ K) (hc : ∀ y ∈ K, s1 y ∈ K ∧ s2 y ∈ K) : KOk fss K := by
  refine ⟨nd, fun y => ⟨hs y, fun h => ?_⟩⟩
  obtain ⟨f, hm, p, hp, rfl⟩ := mem_clo.mp h
  have D := hd f hm
  have z : gij 0 0 f ∈ K := by rw [D.zero]; exact hf f hm
  have st2 : ∀ {i j : Int}, (i, j) ∈ fours → gij i j f ∈ K → gij i (j + 1) f ∈ K := fun {i j} hp h => by rw [← (D.g hp).2.2]; exact (hc _ h).2
  have st1 : ∀ {i j : Int}, (i, j) ∈ fours → gij i j f ∈ K → gij (i + 1) j f ∈ K := fun {i j} hp h => by rw [← (D.g hp).2.1]; exact (hc _ h).1
  have r0 : ∀ j : Int, (j = 0 ∨ j = 1 ∨ j = 2 ∨ j = 3) → gij 0 j f ∈ K := by
    rintro j (rfl | rfl | rfl | rfl)
    · exact z
    · exact st2 (j := 0) (by decide) z
    · exact st2 (j := 1) (by decide) (st2 (j := 0) (by decide) z)
    · exact st2 (j := 2) (by decide) (st2 (j := 1) (by decide) (st2 (j := 0) (by decide) z))
  obtain ⟨i, j⟩ := p
  obtain ⟨hi, hj⟩ := fours_mem hp
  dsimp only at hi hj ⊢
  have h0 := r0 j hj
  rcases hi with rfl | rfl | rfl | rfl
  · exact h0
  · exact st1 (i := 0) (mem_fours (by decide) hj) h0
  · exact st1 (i := 1) (mem_fours (by decide) hj) (st1 (i := 0) (mem_fours (by decide) hj) h0)
  · exact st1 (i := 2) (mem_fours (by decide) hj) (st1 (i := 1) (mem_fours (by decide) hj) (st1 (i := 0) (mem_fours (by decide) hj) h0))
theorem KOk.dom {fss K : List (List Int)} (hd : ∀ f ∈ fss, Dom f) (h : KOk fss K) : ∀ y ∈ K, Dom y := fun y hy => clo_dom hd ((h.mem y).mp hy)
theorem KOk.len {fss K : List (List Int)} (hd : ∀ f ∈ fss, Dom f) (h : KOk fss K) : K.length ≤ 7 * fss.length := Nat.le_trans (nodup_sub h.nd fun y hy => (h.mem y).mp hy) (clo_len hd)
theorem KOk.s {fss K : List (List Int)} (hd : ∀ f ∈ fss, Dom f) (h : KOk fss K) : ∀ y ∈ K, s1 y ∈ K ∧ s2 y ∈ K := fun y hy => by
  have := clo_s hd ((h.mem y).mp hy)
  exact ⟨(h.mem _).mpr this.1, (h.mem _).mpr this.2⟩
noncomputable def tri3 (x : List Int) : List Str := [nmStr x, nmStr (s1 x), nmStr (s2 x)]
structure SpecT (fss : List (List Int)) (tri rounds : List (List Str)) : Prop where
  up : tri.Pairwise fun a b => lexLt a b = true
  tmem : ∀ r, r ∈ tri ↔ ∃ y ∈ clo fss, r = tri3 y
  rne : ∀ (k : Nat) (r : List Str), rounds[k]? = some r → r ≠ []
  rup : ∀ (k : Nat) (r : List Str), rounds[k]? = some r → upS r
  rmem : ∀ (k : Nat) (r : List Str), rounds[k]? = some r → ∀ q, q ∈ r ↔ ∃ y ∈ clo fss, q = nmStr y ∧ mst 8 y = k
  rlen : ∀ y ∈ clo fss, mst 8 y < rounds.length
theorem up_ext {α : Type} {R : α → α → Prop} (irr : ∀ a, ¬ R a a) (asym : ∀ a b, R a b → ¬ R b a) : ∀ {a b : List α}, a.Pairwise R → b.Pairwise R → (∀ x, x ∈ a ↔ x ∈ b) → a = b
  | [], [], _, _, _ => rfl
  | [], y :: t, _, _, h => nomatch (h y).mpr (.head _)
  | x :: r, [], _, _, h => nomatch (h x).mp (.head _)
  | x :: r, y :: t, ha, hb, h => by
    obtain ⟨a1, a2⟩ := List.pairwise_cons.mp ha
    obtain ⟨b1, b2⟩ := List.pairwise_cons.mp hb
    have e : x = y := by
      rcases List.mem_cons.mp ((h x).mp (.head _)) with e | hx
      · exact e
      · rcases List.mem_cons.mp ((h y).mpr (.head _)) with e | hy
        · exact e.symm
        · exact absurd (b1 x hx) (asym _ _ (a1 y hy))
    subst e
    rw [up_ext irr asym a2 b2 fun z => ⟨fun hz => ?_, fun hz => ?_⟩]
    · rcases List.mem_cons.mp ((h z).mp (.tail _ hz)) with rfl | h'
      · exact absurd (a1 _ hz) (irr _)
      · exact h'
    · rcases List.mem_cons.mp ((h z).mpr (.tail _ hz)) with rfl | h'
      · exact absurd (b1 _ hz) (irr _)
      · exact h'
theorem SpecT.len_le {fss : List (List Int)} {tri rounds tri' rounds' : List (List Str)} (h : SpecT fss tri rounds) (h' : SpecT fss tri' rounds') : rounds'.length ≤ rounds.length := by
  refine Nat.le_of_not_lt fun hlt => ?_
  have e : rounds'[rounds.length]? = some rounds'[rounds.length] := List.getElem?_eq_getElem hlt
  have ne := h'.rne _ _ e
  match hr : rounds'[rounds.length], ne with
  | q :: r, _ =>
    obtain ⟨y, hy, _, hk⟩ := (h'.rmem _ _ e q).mp (by rw [hr]; exact .head _)
    have := h.rlen y hy
    lia
theorem SpecT.eq {fss : List (List Int)} {tri rounds tri' rounds' : List (List Str)} (h : SpecT fss tri rounds) (h' : SpecT fss tri' rounds') : tri = tri' ∧ rounds = rounds' := by
  refine ⟨up_ext (fun a q => by rw [lexLt_irrefl] at q; cases q) (fun a b q1 q2 => by have := lexLt_trans _ _ _ q1 q2; rw [lexLt_irrefl] at this; cases this) h.up h'.up fun r => (h.tmem r).trans (h'.tmem r).symm, ?_⟩
  have hl := Nat.le_antisymm (h'.len_le h) (h.len_le h')
  refine List.ext_getElem hl fun k h1 h2 => ?_
  have e1 : rounds[k]? = some rounds[k] := List.getElem?_eq_getElem h1
  have e2 : rounds'[k]? = some rounds'[k] := List.getElem?_eq_getElem h2
  exact up_ext (R := fun a b : Str => a.cps.toList < b.cps.toList) (fun a => List.lt_irrefl _) (fun a b q1 q2 => List.lt_irrefl _ (List.lt_trans q1 q2)) (h.rup _ _ e1) (h'.rup _ _ e2) fun q => (h.rmem _ _ e1 q).trans (h'.rmem _ _ e2 q).symm
theorem spec_tri {fss K : List (List Int)} (hK : KOk fss K) {tri : List (List Str)} (hp : tri.Perm (K.map tri3)) : ∀ r, r ∈ tri ↔ ∃ y ∈ clo fss, r = tri3 y := fun r => by
  rw [hp.mem_iff, List.mem_map]
  exact ⟨fun ⟨y, hy, e⟩ => ⟨y, (hK.mem y).mp hy, e.symm⟩, fun ⟨y, hy, e⟩ => ⟨y, (hK.mem y).mpr hy, e.symm⟩⟩
theorem tri3_inj {x y : List Int} (hx : Dom x) (hy : Dom y) (h : tri3 x = tri3 y) : x = y := by
  unfold tri3 at h
  injection h with h1 _
  exact nm_inj hx hy h1
theorem nodup_map {α β : Type} {f : α → β} : ∀ {l : List α}, l.Nodup → (∀ a ∈ l, ∀ b ∈ l, f a = f b → a = b) → (l.map f).Nodup
  | [], _, _ => List.nodup_nil
  | a :: l, nd, h => by
    rw [List.nodup_cons] at nd
    rw [List.map_cons, List.nodup_cons]
    refine ⟨fun hm => ?_, nodup_map nd.2 fun x hx y hy => h x (.tail _ hx) y (.tail _ hy)⟩
    obtain ⟨b, hb, e⟩ := List.mem_map.mp hm
    exact nd.1 (h b (.tail _ hb) a (.head _) e ▸ hb)
theorem KOk.names {fss K : List (List Int)} (hd : ∀ f ∈ fss, Dom f) (h : KOk fss K) : (K.map nmStr).Nodup := nodup_map h.nd fun a ha b hb e => nm_inj (h.dom hd a ha) (h.dom hd b hb) e
theorem KOk.tris {fss K : List (List Int)} (hd : ∀ f ∈ fss, Dom f) (h : KOk fss K) : (K.map tri3).Nodup := nodup_map h.nd fun a ha b hb e => tri3_inj (h.dom hd a ha) (h.dom hd b hb) e
theorem rk_step {y : List Int} (hy : Dom y) : (s1 y ≠ y → mst 8 (s1 y) < mst 8 y) ∧ (s2 y ≠ y → mst 8 (s2 y) < mst 8 y) ∧ (0 < mst 8 y → (s1 y ≠ y ∧ mst 8 (s1 y) + 1 = mst 8 y) ∨ (s2 y ≠ y ∧ mst 8 (s2 y) + 1 = mst 8 y)) := by
  have h := hy.rk.1
  have e : mst 9 y = max (if s1 y = y then 0 else mst 8 (s1 y) + 1) (if s2 y = y then 0 else mst 8 (s2 y) + 1) := rfl
  rw [e] at h
  refine ⟨fun n => ?_, fun n => ?_, fun p => ?_⟩
  · rw [h, if_neg n]; lia
  · rw [h, if_neg n]; lia
  · by_cases n1 : s1 y = y <;> by_cases n2 : s2 y = y
    · rw [if_pos n1, if_pos n2] at h; lia
    · rw [if_pos n1, if_neg n2] at h; exact .inr ⟨n2, by lia⟩
    · rw [if_neg n1, if_pos n2] at h; exact .inl ⟨n1, by lia⟩
    · rw [if_neg n1, if_neg n2] at h
      by_cases q : mst 8 (s1 y) + 1 = mst 8 y
      · exact .inl ⟨n1, q⟩
      · exact .inr ⟨n2, by lia⟩
end
section
open PySem PySem.W PySem.Calls PyProof.Rows
noncomputable def ent (G : Gr) (q : Str) : Option (Str × Int × List Str) := G.find? fun p => p.1 == q
theorem npOf_ent (G : Gr) (q : Str) : npOf G q = ((ent G q).map (·.2.1)).getD 0 := rfl
theorem suOf_ent (G : Gr) (q : Str) : suOf G q = ((ent G q).map (·.2.2)).getD [] := by
  unfold suOf skel ent
  rw [List.find?_map]
  show ((Option.map _ (List.find? (fun p : Str × Int × List Str => p.1 == q) G)).map _).getD [] = _
  rw [Option.map_map]; rfl
theorem ent_mod (G : Gr) (n : Str) (f : Int → List Str → Int × List Str) (q : Str) : ent (modG G n f) q = (ent G q).map fun p => if p.1 = n then (p.1, f p.2.1 p.2.2) else p := by
  unfold ent modG
  rw [List.find?_map]
  congr 2
  funext p
  show ((if p.1 = n then (p.1, f p.2.1 p.2.2) else p).1 == q) = (p.1 == q)
  split <;> rfl
theorem ent_name {G : Gr} {q : Str} {p : Str × Int × List Str} (h : ent G q = some p) : p.1 = q := by
  have := List.find?_some h; simpa using this
theorem ent_some {G : Gr} {q : Str} (h : q ∈ G.map (·.1)) : ∃ p, ent G q = some p := by
  cases e : ent G q with
  | some p => exact ⟨p, rfl⟩
  | none =>
    obtain ⟨p, hp, rfl⟩ := List.mem_map.mp h
    have := List.find?_eq_none.mp e p hp
    simp at this
theorem ent_none {G : Gr} {q : Str} (h : q ∉ G.map (·.1)) : ent G q = none := by
  refine List.find?_eq_none.mpr fun p hp e => h ?_
  have : p.1 = q := by simpa using e
  exact this ▸ List.mem_map_of_mem (f := fun p : Str × Int × List Str => p.1) hp
theorem np_mod {G : Gr} {n q : Str} {f : Int → List Str → Int × List Str} (hq : q ∈ G.map (·.1)) : npOf (modG G n f) q = if q = n then (f (npOf G q) (suOf G q)).1 else npOf G q := by
  obtain ⟨p, hp⟩ := ent_some hq
  have e := ent_name hp
  rw [npOf_ent, npOf_ent, suOf_ent, ent_mod, hp]
  simp only [Option.map_some, Option.getD_some, e]
  split <;> rfl
theorem su_mod {G : Gr} {n q : Str} {f : Int → List Str → Int × List Str} (hq : q ∈ G.map (·.1)) : suOf (modG G n f) q = if q = n then (f (npOf G q) (suOf G q)).2 else suOf G q := by
  obtain ⟨p, hp⟩ := ent_some hq
  have e := ent_name hp
  rw [npOf_ent, suOf_ent, suOf_ent, ent_mod, hp]
  simp only [Option.map_some, Option.getD_some, e]
  split <;> rfl
theorem np_off {G : Gr} {q : Str} (h : q ∉ G.map (·.1)) : npOf G q = 0 ∧ suOf G q = [] := by
  rw [npOf_ent, suOf_ent, ent_none h]; exact ⟨rfl, rfl⟩
theorem ensure_in (G : Gr) (n : Str) : n ∈ (ensure G n).map (·.1) := by
  rw [ensure_names]; split
  · assumption
  · simp
theorem ent_ensure (G : Gr) (n q : Str) : npOf (ensure G n) q = npOf G q ∧ suOf (ensure G n) q = suOf G q := by
  rw [npOf_ent, npOf_ent, suOf_ent, suOf_ent]
  unfold ensure
  split
  · exact ⟨rfl, rfl⟩
  · rename_i h
    have e : ent (G ++ [(n, 0, [])]) q = (ent G q).or (if n == q then some (n, 0, []) else none) := by
      unfold ent
      rw [List.find?_append, List.find?_cons, List.find?_nil]
      cases n == q <;> rfl
    rw [e]
    cases ent G q with
    | some p => exact ⟨rfl, rfl⟩
    | none => cases n == q <;> exact ⟨rfl, rfl⟩
theorem mod_all {G : Gr} {n q : Str} {f : Int → List Str → Int × List Str} (hn : n ∈ G.map (·.1)) : npOf (modG G n f) q = (if q = n then (f (npOf G q) (suOf G q)).1 else npOf G q) ∧ suOf (modG G n f) q = if q = n then (f (npOf G q) (suOf G q)).2 else suOf G q := by
  by_cases hq : q ∈ G.map (·.1)
  · exact ⟨np_mod hq, su_mod hq⟩
  · have hne : q ≠ n := fun e => hq (e ▸ hn)
    rw [if_neg hne, if_neg hne, (np_off hq).1, (np_off hq).2]
    exact np_off (by rw [modG_names]; exact hq)
theorem addF_all (nm : Str) (G : Gr) (p q : Str) : npOf (addF nm G p) q = npOf G q ∧ suOf (addF nm G p) q = suOf G q ++ if q = p then [nm] else [] := by
  unfold addF follow
  obtain ⟨h1, h2⟩ := mod_all (q := q) (f := fun n l => (n, l ++ [nm])) (ensure_in G p)
  rw [h1, h2, (ent_ensure G p q).1, (ent_ensure G p q).2]
  refine ⟨by split <;> rfl, ?_⟩
  split
  · rfl
  · rw [List.append_nil]
theorem addFs_all (nm : Str) : ∀ (ps : List Str) (G : Gr) (q : Str), npOf (ps.foldl (addF nm) G) q = npOf G q ∧ suOf (ps.foldl (addF nm) G) q = suOf G q ++ List.replicate (ps.count q) nm
  | [], G, q => ⟨rfl, by simp⟩
  | p :: r, G, q => by
    obtain ⟨h1, h2⟩ := addFs_all nm r (addF nm G p) q
    rw [List.foldl_cons, h1, h2, (addF_all nm G p q).1, (addF_all nm G p q).2]
    refine ⟨rfl, ?_⟩
    rw [List.count_cons, List.append_assoc]
    by_cases e : q = p
    · subst e
      rw [if_pos rfl]
      simp [List.replicate_succ]
    · rw [if_neg e]
      have : (p == q) = false := by simpa using fun h => e h.symm
      simp [this]
theorem addG_all (G : Gr) (nm : Str) (ps : List Str) (q : Str) : npOf (addG G nm ps) q = npOf G q + (if q = nm then (ps.length : Int) else 0) ∧ suOf (addG G nm ps) q = suOf G q ++ List.replicate (ps.count q) nm := by
  unfold addG bump
  obtain ⟨h1, h2⟩ := addFs_all nm ps (modG (ensure G nm) nm fun n s => (n + ps.length, s)) q
  obtain ⟨h3, h4⟩ := mod_all (q := q) (f := fun n s => (n + (ps.length : Int), s)) (ensure_in G nm)
  rw [h1, h2, h3, h4, (ent_ensure G nm q).1, (ent_ensure G nm q).2]
  refine ⟨by split <;> simp, by split <;> rfl⟩
theorem ensure_mem {G : Gr} {n z : Str} : z ∈ (ensure G n).map (·.1) ↔ z ∈ G.map (·.1) ∨ z = n := by
  rw [ensure_names]
  split
  · rename_i h
    exact ⟨.inl, fun q => q.elim id fun e => e ▸ h⟩
  · rw [List.mem_append, List.mem_singleton]
theorem addFs_mem (nm : Str) : ∀ {ps : List Str} {G : Gr} {z : Str}, z ∈ (ps.foldl (addF nm) G).map (·.1) ↔ z ∈ G.map (·.1) ∨ z ∈ ps
  | [], _, _ => by simp
  | p :: r, G, z => by
    rw [List.foldl_cons, addFs_mem nm (ps := r), List.mem_cons]
    have : z ∈ (addF nm G p).map (·.1) ↔ z ∈ G.map (·.1) ∨ z = p := by unfold addF follow; rw [modG_names, ensure_mem]
    rw [this, or_assoc]
theorem addG_mem {G : Gr} {nm : Str} {ps : List Str} {z : Str} : z ∈ (addG G nm ps).map (·.1) ↔ z ∈ G.map (·.1) ∨ z = nm ∨ z ∈ ps := by
  unfold addG
  rw [addFs_mem]
  unfold bump
  rw [modG_names, ensure_mem, or_assoc]
noncomputable def grP (P : List (Str × List Str)) : Gr := P.foldl (fun G p => addG G p.1 p.2) []
theorem grPs_all : ∀ (P : List (Str × List Str)) (G : Gr) (q : Str), npOf (P.foldl (fun G p => addG G p.1 p.2) G) q = npOf G q + ((P.map fun p => if q = p.1 then (p.2.length : Int) else 0).sum) ∧ suOf (P.foldl (fun G p => addG G p.1 p.2) G) q = suOf G q ++ P.flatMap fun p => List.replicate (p.2.count q) p.1
  | [], _, _ => ⟨by simp, by simp⟩
  | p :: r, G, q => by
    obtain ⟨h1, h2⟩ := grPs_all r (addG G p.1 p.2) q
    rw [List.foldl_cons, h1, h2, (addG_all G p.1 p.2 q).1, (addG_all G p.1 p.2 q).2, List.map_cons, List.sum_cons, List.flatMap_cons, List.append_assoc]
    exact ⟨by lia, rfl⟩
theorem grPs_mem : ∀ {P : List (Str × List Str)} {G : Gr} {z : Str}, z ∈ (P.foldl (fun G p => addG G p.1 p.2) G).map (·.1) ↔ z ∈ G.map (·.1) ∨ ∃ p ∈ P, z = p.1 ∨ z ∈ p.2
  | [], _, _ => by simp
  | p :: r, G, z => by
    rw [List.foldl_cons, grPs_mem (P := r), addG_mem, or_assoc]
    refine or_congr Iff.rfl ⟨?_, ?_⟩
    · rintro (h | ⟨q, hq, h⟩)
      · exact ⟨p, .head _, h⟩
      · exact ⟨q, .tail _ hq, h⟩
    · rintro ⟨q, hq, h⟩
      rcases List.mem_cons.mp hq with rfl | hq
      · exact .inl h
      · exact .inr ⟨q, hq, h⟩
theorem grPs_nodup : ∀ (P : List (Str × List Str)) {G : Gr}, (G.map (·.1)).Nodup → ((P.foldl (fun G p => addG G p.1 p.2) G).map (·.1)).Nodup
  | [], _, h => h
  | p :: r, _, h => grPs_nodup r (addG_nodup h p.1 p.2)
end
section
open PySem PySem.W PySem.Calls PyProof.Rows
structure Net (G : Gr) (rk : Str → Nat) (hn : Str → List Str) : Prop where
  nd : (G.map (·.1)).Nodup
  np : ∀ q ∈ G.map (·.1), npOf G q = ((hn q).length : Int)
  su : ∀ y s, s ∈ suOf G y → s ∈ G.map (·.1) ∧ y ∈ hn s
  suc : ∀ y ∈ G.map (·.1), ∀ s ∈ G.map (·.1), (suOf G y).count s = (hn s).count y
  lo : ∀ q ∈ G.map (·.1), ∀ y ∈ hn q, y ∈ G.map (·.1) ∧ rk y < rk q
  hi : ∀ q ∈ G.map (·.1), 0 < rk q → ∃ y ∈ hn q, rk y + 1 = rk q
noncomputable def cnt (rk : Str → Nat) (hn : Str → List Str) (r : Nat) (q : Str) : Nat := ((hn q).filter fun y => decide (r ≤ rk y)).length
structure RInv (G0 : Gr) (rk : Str → Nat) (hn : Str → List Str) (r : Nat) (G : Gr) (rd : List Str) : Prop where
  sk : skel G = skel G0
  nd : rd.Nodup
  mem : ∀ q, q ∈ rd ↔ q ∈ G0.map (·.1) ∧ rk q = r
  np : ∀ q ∈ G0.map (·.1), r ≤ rk q → npOf G q = (cnt rk hn r q : Int)
theorem find_first {G : Gr} (nd : (G.map (·.1)).Nodup) {p : Str × Int × List Str} (hp : p ∈ G) : ent G p.1 = some p := by
  induction G with
  | nil => nomatch hp
  | cons a r ih =>
    rw [List.map_cons, List.nodup_cons] at nd
    unfold ent at ih ⊢
    rw [List.find?_cons]
    rcases List.mem_cons.mp hp with rfl | hp
    · simp
    · have : (a.1 == p.1) = false := by
        refine beq_false_of_ne fun e => nd.1 (e ▸ List.mem_map_of_mem (f := fun p : Str × Int × List Str => p.1) hp)
      rw [this]
      exact ih nd.2 hp
theorem ready_mem {G : Gr} (nd : (G.map (·.1)).Nodup) (q : Str) : q ∈ readyOf G ↔ q ∈ G.map (·.1) ∧ npOf G q = 0 := by
  unfold readyOf
  rw [List.mem_map]
  constructor
  · rintro ⟨p, hp, rfl⟩
    rw [List.mem_filter] at hp
    refine ⟨List.mem_map_of_mem (f := fun p : Str × Int × List Str => p.1) hp.1, ?_⟩
    rw [npOf_ent, find_first nd hp.1]
    simpa using hp.2
  · rintro ⟨hq, h0⟩
    obtain ⟨p, hp, rfl⟩ := List.mem_map.mp hq
    rw [npOf_ent, find_first nd hp] at h0
    exact ⟨p, List.mem_filter.mpr ⟨hp, by simpa using h0⟩, rfl⟩
theorem ready_nodup {G : Gr} (nd : (G.map (·.1)).Nodup) : (readyOf G).Nodup := by
  unfold readyOf
  exact nd.sublist ((List.filter_sublist (l := G)).map _)
section
variable {G0 : Gr} {rk : Str → Nat} {hn : Str → List Str} (N : Net G0 rk hn)
include N
theorem Net.cnt0 (q : Str) : cnt rk hn 0 q = (hn q).length := by
  unfold cnt
  rw [List.filter_eq_self.mpr fun y _ => by simp]
theorem Net.cnt_zero {q : Str} (hq : q ∈ G0.map (·.1)) {r : Nat} : cnt rk hn r q = 0 ↔ rk q ≤ r := by
  unfold cnt
  rw [List.length_eq_zero_iff, List.filter_eq_nil_iff]
  constructor
  · intro h
    refine Nat.le_of_not_lt fun hlt => ?_
    obtain ⟨y, hy, e⟩ := N.hi q hq (by lia)
    exact h y hy (decide_eq_true (by lia))
  · intro h y hy hd
    have := (N.lo q hq y hy).2
    have := of_decide_eq_true hd
    lia
theorem Net.start : RInv G0 rk hn 0 G0 (readyOf G0) := by
  refine ⟨rfl, ready_nodup N.nd, fun q => ?_, fun q hq _ => by rw [N.np q hq, N.cnt0]⟩
  rw [ready_mem N.nd]
  refine and_congr_right fun hq => ?_
  rw [N.np q hq, ← N.cnt0 q]
  have := N.cnt_zero hq (r := 0)
  lia
theorem passFs_np : ∀ (l : List Str) {G : Gr} (q : Str), q ∈ G.map (·.1) → npOf (l.foldl passF G) q = if q ∈ l then -1 else npOf G q
  | [], _, _, _ => by simp
  | a :: r, G, q, hq => by
    rw [List.foldl_cons, passFs_np r (G := passF G a) q (by rw [passF_names]; exact hq)]
    have e : npOf (passF G a) q = if q = a then -1 else npOf G q := by unfold passF; exact np_mod (f := fun _ s => (-1, s)) hq
    rw [e]
    by_cases h1 : q ∈ r
    · rw [if_pos h1, if_pos (.tail _ h1)]
    · rw [if_neg h1]
      by_cases h2 : q = a
      · rw [if_pos h2, if_pos (by rw [h2]; exact .head _)]
      · rw [if_neg h2, if_neg (fun h => by rcases List.mem_cons.mp h with h | h <;> contradiction)]
theorem passFs_skel : ∀ (l : List Str) (G : Gr), skel (l.foldl passF G) = skel G
  | [], _ => rfl
  | a :: r, G => by
    rw [List.foldl_cons, passFs_skel r]
    unfold passF
    exact skel_mod G a fun _ => -1
structure MInv (G0 : Gr) (rk : Str → Nat) (hn : Str → List Str) (r : Nat) (fin D : List Str) (st : Gr × List Str) : Prop where
  sk : skel st.1 = skel G0
  np : ∀ s ∈ G0.map (·.1), r < rk s → npOf st.1 s = (cnt rk hn r s : Int) - (D.count s : Int)
  pass : ∀ q ∈ G0.map (·.1), rk q = r → q ∉ fin → npOf st.1 q = -1
  nd : st.2.Nodup
  mem : ∀ s, s ∈ st.2 ↔ s ∈ G0.map (·.1) ∧ r < rk s ∧ npOf st.1 s = 0
theorem MInv.relax {r : Nat} {fin D : List Str} {st : Gr × List Str} (I : MInv G0 rk hn r fin D st) {s : Str} (hs : s ∈ G0.map (·.1)) (hr : r < rk s) (hc : (D ++ [s]).count s ≤ cnt rk hn r s) : MInv G0 rk hn r fin (D ++ [s]) (relaxS st s) := by
  have names : st.1.map (·.1) = G0.map (·.1) := names_skel I.sk
  have npn : ∀ q ∈ G0.map (·.1), npOf (modG st.1 s fun n l => (n - 1, l)) q = if q = s then npOf st.1 q - 1 else npOf st.1 q := fun q hq => np_mod (f := fun n l => (n - 1, l)) (by rw [names]; exact hq)
  have hcs : D.count s + 1 ≤ cnt rk hn r s := by rw [List.count_append] at hc; simpa using hc
  have hold := I.np s hs hr
  have hns : s ∉ st.2 := fun hm => by
    have := ((I.mem s).mp hm).2.2
    lia
  refine ⟨by rw [relaxS_skel]; exact I.sk, fun q hq hqr => ?_, fun q hq hqr hf => ?_, ?_, fun q => ?_⟩
  · unfold relaxS
    rw [npn q hq, List.count_append, I.np q hq hqr]
    by_cases e : q = s
    · subst e; rw [if_pos rfl]; simp; lia
    · rw [if_neg e]
      have : [s].count q = 0 := List.count_eq_zero.mpr fun h => e (List.mem_singleton.mp h)
      lia
  · unfold relaxS
    rw [npn q hq, if_neg (fun e => by subst e; lia)]
    exact I.pass q hq hqr hf
  · unfold relaxS
    dsimp only
    split
    · rw [List.nodup_append]
      exact ⟨I.nd, by simp, fun a ha b hb e => by simp at hb; subst hb; exact hns (e ▸ ha)⟩
    · exact I.nd
  · unfold relaxS
    dsimp only
    have old : q ∈ st.2 → q ≠ s := fun h e => hns (e ▸ h)
    by_cases e : q = s
    · subst e
      by_cases h0 : npOf (modG st.1 q fun n l => (n - 1, l)) q = 0
      · rw [if_pos h0]
        simp only [List.mem_append, List.mem_singleton, or_true, true_iff]
        exact ⟨hs, hr, h0⟩
      · rw [if_neg h0]
        exact ⟨fun h => absurd h hns, fun h => absurd h.2.2 h0⟩
    · have key : q ∈ st.2 ↔ q ∈ G0.map (·.1) ∧ r < rk q ∧ npOf (modG st.1 s fun n l => (n - 1, l)) q = 0 := by
        rw [I.mem q]
        refine and_congr_right fun hq => and_congr_right fun _ => ?_
        rw [npn q hq, if_neg e]
      split
      · rw [List.mem_append, List.mem_singleton]
        exact ⟨fun h => h.elim key.mp fun h => absurd h e, fun h => .inl (key.mpr h)⟩
      · exact key
theorem MInv.relaxs {r : Nat} {fin : List Str} : ∀ {l D : List Str} {st : Gr × List Str}, MInv G0 rk hn r fin D st → (∀ s ∈ l, s ∈ G0.map (·.1) ∧ r < rk s) → (∀ s ∈ G0.map (·.1), (D ++ l).count s ≤ cnt rk hn r s) → MInv G0 rk hn r fin (D ++ l) (l.foldl relaxS st)
  | [], D, st, I, _, _ => by rw [List.append_nil]; exact I
  | s :: l, D, st, I, hl, hc => by
    obtain ⟨hs, hr⟩ := hl s (.head _)
    have hsp : D ++ s :: l = (D ++ [s]) ++ l := by simp
    rw [hsp] at hc ⊢
    refine MInv.relaxs (I.relax N hs hr ?_) (fun s hs => hl s (.tail _ hs)) hc
    have := hc s hs
    rw [List.count_append] at this
    lia
theorem MInv.fin1 {r : Nat} {fin D : List Str} {st : Gr × List Str} (I : MInv G0 rk hn r fin D st) {q : Str} (hq : q ∈ G0.map (·.1)) (hr : rk q = r) (hc : ∀ s ∈ G0.map (·.1), (D ++ suOf G0 q).count s ≤ cnt rk hn r s) : MInv G0 rk hn r (fin ++ [q]) (D ++ suOf G0 q) (finF st q) := by
  have names : st.1.map (·.1) = G0.map (·.1) := names_skel I.sk
  unfold finF
  rw [suOf_skel I.sk q]
  have npn : ∀ z ∈ G0.map (·.1), npOf (modG st.1 q fun _ l => (-2, l)) z = if z = q then -2 else npOf st.1 z := fun z hz => np_mod (f := fun _ l => (-2, l)) (by rw [names]; exact hz)
  have I1 : MInv G0 rk hn r (fin ++ [q]) D (modG st.1 q fun _ l => (-2, l), st.2) := by
    refine ⟨by rw [← I.sk]; exact skel_mod st.1 q fun _ => -2, fun s hs hsr => ?_, fun z hz hzr hf => ?_, I.nd, fun s => ?_⟩
    · show npOf (modG st.1 q fun _ l => (-2, l)) s = _
      rw [npn s hs, if_neg (fun e => by subst e; lia)]; exact I.np s hs hsr
    · show npOf (modG st.1 q fun _ l => (-2, l)) z = _
      rw [List.mem_append, List.mem_singleton, not_or] at hf
      rw [npn z hz, if_neg hf.2]; exact I.pass z hz hzr hf.1
    · show s ∈ st.2 ↔ _
      rw [I.mem s]
      refine and_congr_right fun hs => and_congr_right fun hsr => ?_
      show _ ↔ npOf (modG st.1 q fun _ l => (-2, l)) s = 0
      rw [npn s hs, if_neg (fun e => by subst e; lia)]
  refine I1.relaxs N (fun s hs => ?_) hc
  obtain ⟨h1, h2⟩ := N.su q s hs
  exact ⟨h1, by have := (N.lo s h1 q h2).2; lia⟩
theorem MInv.fins {r : Nat} : ∀ {l fin D : List Str} {st : Gr × List Str}, MInv G0 rk hn r fin D st → (∀ q ∈ l, q ∈ G0.map (·.1) ∧ rk q = r) → (∀ s ∈ G0.map (·.1), (D ++ l.flatMap (suOf G0)).count s ≤ cnt rk hn r s) → MInv G0 rk hn r (fin ++ l) (D ++ l.flatMap (suOf G0)) (l.foldl finF st)
  | [], fin, D, st, I, _, _ => by rw [List.flatMap_nil, List.append_nil, List.append_nil]; exact I
  | q :: l, fin, D, st, I, hl, hc => by
    obtain ⟨hq, hr⟩ := hl q (.head _)
    have e1 : D ++ (q :: l).flatMap (suOf G0) = (D ++ suOf G0 q) ++ l.flatMap (suOf G0) := by rw [List.flatMap_cons, List.append_assoc]
    have e2 : fin ++ q :: l = (fin ++ [q]) ++ l := by simp
    rw [e1] at hc ⊢
    rw [e2]
    refine MInv.fins (I.fin1 N hq hr fun s hs => ?_) (fun q hq => hl q (.tail _ hq)) hc
    have := hc s hs
    rw [List.count_append] at this
    lia
theorem total_count {r : Nat} {s : Str} (hs : s ∈ G0.map (·.1)) : ∀ {l : List Str}, l.Nodup → (∀ q ∈ l, q ∈ G0.map (·.1)) → (l.flatMap (suOf G0)).count s = ((hn s).filter fun y => decide (y ∈ l)).length
  | [], _, _ => by rw [List.filter_eq_nil_iff.mpr (fun y _ h => by simp at h)]; rfl
  | q :: l, nd, hl => by
    rw [List.nodup_cons] at nd
    rw [List.flatMap_cons, List.count_append, total_count hs (r := r) nd.2 fun x hx => hl x (.tail _ hx), N.suc q (hl q (.head _)) s hs]
    have : ∀ h : List Str, h.count q + (h.filter fun y => decide (y ∈ l)).length = (h.filter fun y => decide (y ∈ q :: l)).length := by
      intro h
      induction h with
      | nil => rfl
      | cons a t ih =>
        by_cases e : a = q
        · subst e
          have h1 : a ∉ l := nd.1
          rw [List.count_cons_self, List.filter_cons_of_neg (p := fun y => decide (y ∈ l)) (by simpa using h1), List.filter_cons_of_pos (p := fun y => decide (y ∈ a :: l)) (by simp), List.length_cons]
          lia
        · rw [List.count_cons_of_ne e]
          by_cases h1 : a ∈ l
          · rw [List.filter_cons_of_pos (p := fun y => decide (y ∈ l)) (by simpa using h1), List.filter_cons_of_pos (p := fun y => decide (y ∈ q :: l)) (by simp [h1]), List.length_cons, List.length_cons]
            lia
          · rw [List.filter_cons_of_neg (p := fun y => decide (y ∈ l)) (by simpa using h1), List.filter_cons_of_neg (p := fun y => decide (y ∈ q :: l)) (by simp [h1, e])]
            exact ih
    exact this _
theorem RInv.step {r : Nat} {G : Gr} {rd : List Str} (I : RInv G0 rk hn r G rd) :
    RInv G0 rk hn (r + 1) (rd.foldl finF (rd.foldl passF G, [])).1 (rd.foldl finF (rd.foldl passF G, [])).2 ∧
    (∀ k q, rd[k]? = some q → q ∈ (rd.foldl passF G).map (·.1) ∧ npOf ((rd.take k).foldl finF (rd.foldl passF G, [])).1 q = -1 ∧ ∀ s ∈ suOf (rd.foldl passF G) q, s ∈ (rd.foldl passF G).map (·.1)) := by
  have names : G.map (·.1) = G0.map (·.1) := names_skel I.sk
  have sk1 : skel (rd.foldl passF G) = skel G0 := by rw [passFs_skel N]; exact I.sk
  have names1 := names_skel sk1
  have hrd : ∀ q ∈ rd, q ∈ G0.map (·.1) ∧ rk q = r := fun q hq => (I.mem q).mp hq
  have np1 : ∀ q ∈ G0.map (·.1), npOf (rd.foldl passF G) q = if q ∈ rd then -1 else npOf G q := fun q hq => passFs_np N rd q (by rw [names]; exact hq)
  have I0 : MInv G0 rk hn r [] [] (rd.foldl passF G, []) := by
    refine ⟨sk1, fun s hs hr => ?_, fun q hq hr _ => ?_, List.nodup_nil, fun s => ⟨fun h => (nomatch h), fun ⟨hs, hr, h0⟩ => ?_⟩⟩
    · show npOf (rd.foldl passF G) s = _
      rw [np1 s hs, if_neg (fun h => by have := (hrd s h).2; omega), I.np s hs (by omega)]; simp
    · show npOf (rd.foldl passF G) q = _
      rw [np1 q hq, if_pos ((I.mem q).mpr ⟨hq, hr⟩)]
    · exfalso
      have h1 : npOf (rd.foldl passF G) s = 0 := h0
      rw [np1 s hs, if_neg (fun h => by have := (hrd s h).2; omega), I.np s hs (by omega)] at h1
      have := (N.cnt_zero hs (r := r)).mp (by omega)
      omega
  have cb : ∀ (l : List Str), l.Sublist rd → ∀ s ∈ G0.map (·.1), ([] ++ l.flatMap (suOf G0)).count s ≤ cnt rk hn r s := fun l hl s hs => by
    rw [List.nil_append, total_count N (r := r) hs (I.nd.sublist hl) fun q hq => (hrd q (hl.subset hq)).1]
    unfold cnt
    rw [← List.countP_eq_length_filter, ← List.countP_eq_length_filter]
    refine List.countP_mono_left fun y _ hy => ?_
    have := (hrd y (hl.subset (of_decide_eq_true hy))).2
    exact decide_eq_true (by omega)
  have whole := I0.fins N (l := rd) hrd (cb rd (List.Sublist.refl _))
  refine ⟨⟨whole.sk, whole.nd, fun q => ?_, fun q hq hr => ?_⟩, fun k q hk => ?_⟩
  · rw [whole.mem q]
    refine and_congr_right fun hq => ?_
    constructor
    · rintro ⟨h1, h2⟩
      rw [whole.np q hq h1, List.nil_append, total_count N (r := r) hq I.nd fun q hq => (hrd q hq).1] at h2
      refine Nat.le_antisymm ?_ h1
      have e := N.cnt_zero hq (r := r + 1)
      refine e.mp ?_
      have sp : cnt rk hn r q = ((hn q).filter fun y => decide (y ∈ rd)).length + cnt rk hn (r + 1) q := split_cnt N I hq
      omega
    · intro h
      have h1 : r < rk q := by omega
      refine ⟨h1, ?_⟩
      rw [whole.np q hq h1, List.nil_append, total_count N (r := r) hq I.nd fun q hq => (hrd q hq).1]
      have sp : cnt rk hn r q = ((hn q).filter fun y => decide (y ∈ rd)).length + cnt rk hn (r + 1) q := split_cnt N I hq
      have := (N.cnt_zero hq (r := r + 1)).mpr (by omega)
      omega
  · rw [whole.np q hq (by omega), List.nil_append, total_count N (r := r) hq I.nd fun q hq => (hrd q hq).1]
    have sp : cnt rk hn r q = ((hn q).filter fun y => decide (y ∈ rd)).length + cnt rk hn (r + 1) q := split_cnt N I hq
    omega
  · have hq := hrd q (List.mem_of_getElem? hk)
    rw [names1]
    refine ⟨hq.1, ?_, fun s hs => ?_⟩
    · have part := I0.fins N (l := rd.take k) (fun q hq => hrd q (List.mem_of_mem_take hq)) (cb _ (List.take_sublist _ _))
      refine part.pass q hq.1 hq.2 fun hm => ?_
      rw [List.nil_append] at hm
      obtain ⟨j, hj, e⟩ := List.getElem_of_mem hm
      rw [List.length_take] at hj
      rw [List.getElem_take] at e
      have := (List.getElem?_inj (i := j) (j := k) (by omega) I.nd).mp (by rw [hk, List.getElem?_eq_getElem (by omega), e])
      omega
    · rw [suOf_skel sk1 q] at hs
      exact (N.su q s hs).1
where
  split_cnt {r : Nat} {G : Gr} {rd : List Str} (N : Net G0 rk hn) (I : RInv G0 rk hn r G rd) {q : Str} (hq : q ∈ G0.map (·.1)) : cnt rk hn r q = ((hn q).filter fun y => decide (y ∈ rd)).length + cnt rk hn (r + 1) q := by
    have hin : ∀ y ∈ hn q, y ∈ G0.map (·.1) := fun y hy => (N.lo q hq y hy).1
    unfold cnt
    generalize hn q = h at hin
    induction h with
    | nil => rfl
    | cons a t ih =>
      have ih := ih fun y hy => hin y (.tail _ hy)
      have ha := hin a (.head _)
      have hm := I.mem a
      rw [List.filter_cons, List.filter_cons, List.filter_cons]
      rcases Nat.lt_trichotomy (rk a) r with h | h | h
      · have n1 : a ∉ rd := fun x => by have := (hm.mp x).2; omega
        simp only [n1, decide_false, Bool.false_eq_true, if_false, show ¬ r ≤ rk a by omega, show ¬ r + 1 ≤ rk a by omega]
        exact ih
      · have n1 : a ∈ rd := hm.mpr ⟨ha, h⟩
        simp only [n1, decide_true, if_true, show r ≤ rk a by omega, show ¬ r + 1 ≤ rk a by omega, decide_false, Bool.false_eq_true, if_false, List.length_cons]
        omega
      · have n1 : a ∉ rd := fun x => by have := (hm.mp x).2; omega
        simp only [n1, decide_false, Bool.false_eq_true, if_false, show r ≤ rk a by omega, show r + 1 ≤ rk a by omega, decide_true, if_true, List.length_cons]
        omega
end
end
section
open PySem PySem.W PySem.Calls PyProof.Rows
noncomputable def hnm (x : List Int) : List Str := (tri3 x).filter fun z => decide (z ≠ nmStr x)
theorem hnm_len (x : List Int) : (hnm x).length ≤ 2 := by
  unfold hnm tri3
  rw [List.filter_cons_of_neg (by simp)]
  exact List.length_filter_le _ _
theorem mem_hnm {x : List Int} {y : Str} : y ∈ hnm x ↔ (y = nmStr (s1 x) ∨ y = nmStr (s2 x)) ∧ y ≠ nmStr x := by
  unfold hnm tri3
  rw [List.mem_filter]
  simp only [List.mem_cons, List.not_mem_nil, or_false, decide_eq_true_eq]
  exact ⟨fun ⟨h1, h2⟩ => ⟨h1.resolve_left h2, h2⟩, fun ⟨h1, h2⟩ => ⟨.inr h1, h2⟩⟩
noncomputable def netP (K : List (List Int)) : List (Str × List Str) := K.map fun x => (nmStr x, hnm x)
noncomputable def netG (K : List (List Int)) : Gr := grP (netP K)
noncomputable def dec (K : List (List Int)) (q : Str) : List Int := (K.find? fun x => nmStr x == q).getD []
theorem netG_snoc (K : List (List Int)) (x : List Int) : netG (K ++ [x]) = addG (netG K) (nmStr x) (hnm x) := by
  unfold netG grP netP
  rw [List.map_append, List.foldl_append]; rfl
theorem netG_nodup (K : List (List Int)) : ((netG K).map (·.1)).Nodup := grPs_nodup _ (by simp)
theorem netG_mem {K : List (List Int)} {z : Str} : z ∈ (netG K).map (·.1) ↔ ∃ x ∈ K, z = nmStr x ∨ z ∈ hnm x := by
  unfold netG grP
  rw [grPs_mem]
  unfold netP
  simp only [List.map_nil, List.not_mem_nil, false_or, List.mem_map]
  constructor
  · rintro ⟨p, ⟨x, hx, rfl⟩, h⟩; exact ⟨x, hx, h⟩
  · rintro ⟨x, hx, h⟩; exact ⟨_, ⟨x, hx, rfl⟩, h⟩
theorem netG_short (K : List (List Int)) : short (netG K) (2 * K.length) := by
  have key : ∀ (n : Nat) (K : List (List Int)), K.length = n → short (netG K) (2 * n) := by
    intro n
    induction n with
    | zero => intro K h; rw [List.length_eq_zero_iff.mp h]; intro p hp; nomatch hp
    | succ n ih =>
      intro K h
      have e : K = K.dropLast ++ [K.getLast (by intro q; rw [q] at h; simp at h)] := (List.dropLast_concat_getLast _).symm
      rw [e, netG_snoc]
      have h1 := short_addG (ih K.dropLast (by simp; lia)) (nmStr (K.getLast (by intro q; rw [q] at h; simp at h))) (hnm (K.getLast (by intro q; rw [q] at h; simp at h)))
      have h2 := hnm_len (K.getLast (by intro q; rw [q] at h; simp at h))
      exact fun p hp => Nat.le_trans (h1 p hp) (by lia)
  exact key _ K rfl
theorem netG_len {fss K : List (List Int)} (hd : ∀ f ∈ fss, Dom f) (hs : ∀ y ∈ K, y ∈ clo fss) : (netG K).length ≤ 7 * fss.length := by
  have h1 : ((netG K).map (·.1)).length ≤ ((clo fss).map nmStr).length := nodup_sub (netG_nodup K) fun z hz => by
    obtain ⟨x, hx, h⟩ := netG_mem.mp hz
    have hc := hs x hx
    rcases h with rfl | h
    · exact List.mem_map_of_mem hc
    · rcases (mem_hnm.mp h).1 with rfl | rfl
      · exact List.mem_map_of_mem (clo_s hd hc).1
      · exact List.mem_map_of_mem (clo_s hd hc).2
  rw [List.length_map, List.length_map] at h1
  exact Nat.le_trans h1 (clo_len hd)
section
variable {fss K : List (List Int)} (hd : ∀ f ∈ fss, Dom f) (hK : KOk fss K)
include hd hK
theorem dec_nm {x : List Int} (hx : x ∈ K) : dec K (nmStr x) = x := by
  unfold dec
  cases e : K.find? fun y => nmStr y == nmStr x with
  | none =>
    have := List.find?_eq_none.mp e x hx
    simp at this
  | some y =>
    have h1 : nmStr y = nmStr x := by simpa using List.find?_some e
    exact nm_inj (hK.dom hd y (List.mem_of_find?_eq_some e)) (hK.dom hd x hx) h1
theorem net_names {z : Str} : z ∈ (netG K).map (·.1) ↔ ∃ x ∈ K, z = nmStr x := by
  rw [netG_mem]
  constructor
  · rintro ⟨x, hx, h | h⟩
    · exact ⟨x, hx, h⟩
    · rcases (mem_hnm.mp h).1 with h | h
      · exact ⟨_, (hK.s hd x hx).1, h⟩
      · exact ⟨_, (hK.s hd x hx).2, h⟩
  · rintro ⟨x, hx, h⟩; exact ⟨x, hx, .inl h⟩
theorem sum_one {f : List Int → Int} {x : List Int} (hx : x ∈ K) : ((netP K).map fun p => if nmStr x = p.1 then f (dec K p.1) else 0).sum = f x := by
  unfold netP
  rw [List.map_map]
  have hdm := hK.dom hd
  have key : ∀ l : List (List Int), l.Nodup → (∀ y ∈ l, y ∈ K) → (l.map fun y => if nmStr x = nmStr y then f (dec K (nmStr y)) else 0).sum = if x ∈ l then f x else 0 := by
    intro l
    induction l with
    | nil => intro _ _; simp
    | cons a r ih =>
      intro nd hl
      rw [List.nodup_cons] at nd
      rw [List.map_cons, List.sum_cons, ih nd.2 fun y hy => hl y (.tail _ hy)]
      by_cases e : x = a
      · subst e
        rw [if_pos rfl, dec_nm hd hK hx, if_neg nd.1, if_pos (.head _)]; lia
      · rw [if_neg (fun h => e (nm_inj (hdm x hx) (hdm a (hl a (.head _))) h))]
        by_cases h : x ∈ r
        · rw [if_pos h, if_pos (.tail _ h)]; lia
        · rw [if_neg h, if_neg (fun h' => by rcases List.mem_cons.mp h' with h' | h' <;> contradiction)]; lia
  have := key K hK.nd fun y hy => hy
  rw [if_pos hx] at this
  exact this
theorem net_np {x : List Int} (hx : x ∈ K) : npOf (netG K) (nmStr x) = ((hnm x).length : Int) := by
  unfold netG grP
  rw [(grPs_all _ _ _).1]
  have e : ((netP K).map fun p => if nmStr x = p.1 then ((p.2).length : Int) else 0) = (netP K).map fun p => if nmStr x = p.1 then ((hnm (dec K p.1)).length : Int) else 0 := by
    refine List.map_congr_left fun p hp => ?_
    obtain ⟨y, hy, rfl⟩ := List.mem_map.mp hp
    show (if nmStr x = nmStr y then ((hnm y).length : Int) else 0) = if nmStr x = nmStr y then ((hnm (dec K (nmStr y))).length : Int) else 0
    rw [dec_nm hd hK hy]
  rw [e, sum_one hd hK (f := fun y => ((hnm y).length : Int)) hx]
  show (0 : Int) + _ = _
  lia
theorem net_su {y s : Str} (h : s ∈ suOf (netG K) y) : ∃ x ∈ K, s = nmStr x ∧ y ∈ hnm x := by
  unfold netG grP at h
  rw [(grPs_all _ _ _).2] at h
  have e : suOf ([] : Gr) y = [] := rfl
  rw [e, List.nil_append, List.mem_flatMap] at h
  obtain ⟨p, hp, hs⟩ := h
  obtain ⟨x, hx, rfl⟩ := List.mem_map.mp hp
  have hc := List.ne_nil_of_mem hs
  have := List.eq_of_mem_replicate hs
  refine ⟨x, hx, this, ?_⟩
  refine List.count_pos_iff.mp (Nat.pos_of_ne_zero fun h0 => hc ?_)
  show List.replicate ((hnm x).count y) (nmStr x) = []
  rw [h0]; rfl
theorem net_suc {x : List Int} (hx : x ∈ K) (y : Str) : (suOf (netG K) y).count (nmStr x) = (hnm x).count y := by
  unfold netG grP
  rw [(grPs_all _ _ _).2]
  have e : suOf ([] : Gr) y = [] := rfl
  rw [e, List.nil_append]
  unfold netP
  have hdm := hK.dom hd
  have key : ∀ l : List (List Int), l.Nodup → (∀ z ∈ l, z ∈ K) → (List.flatMap (fun p : Str × List Str => List.replicate (p.2.count y) p.1) (l.map fun x => (nmStr x, hnm x))).count (nmStr x) = if x ∈ l then (hnm x).count y else 0 := by
    intro l
    induction l with
    | nil => intro _ _; simp
    | cons a r ih =>
      intro nd hl
      rw [List.nodup_cons] at nd
      rw [List.map_cons, List.flatMap_cons, List.count_append, ih nd.2 fun y hy => hl y (.tail _ hy)]
      by_cases e : x = a
      · subst e
        rw [List.count_replicate_self, if_neg nd.1, if_pos (.head _)]; rfl
      · have hne : nmStr a ≠ nmStr x := fun h => e (nm_inj (hdm a (hl a (.head _))) (hdm x hx) h).symm
        have h0 : (List.replicate ((hnm a).count y) (nmStr a)).count (nmStr x) = 0 := List.count_eq_zero.mpr fun h => hne (List.eq_of_mem_replicate h).symm
        show (List.replicate ((hnm a).count y) (nmStr a)).count (nmStr x) + _ = _
        rw [h0]
        by_cases h : x ∈ r
        · rw [if_pos h, if_pos (.tail _ h)]; lia
        · rw [if_neg h, if_neg (fun h' => by rcases List.mem_cons.mp h' with h' | h' <;> contradiction)]
  have := key K hK.nd fun y hy => hy
  rw [if_pos hx] at this
  exact this
theorem net_ok : Net (netG K) (fun q => mst 8 (dec K q)) (fun q => hnm (dec K q)) := by
  have hdm := hK.dom hd
  refine ⟨netG_nodup K, fun q hq => ?_, fun y s hs => ?_, fun y hy s hs => ?_, fun q hq y hy => ?_, fun q hq hr => ?_⟩
  · obtain ⟨x, hx, rfl⟩ := (net_names hd hK).mp hq
    show _ = ((hnm (dec K (nmStr x))).length : Int)
    rw [dec_nm hd hK hx]; exact net_np hd hK hx
  · obtain ⟨x, hx, rfl, hm⟩ := net_su hd hK hs
    refine ⟨(net_names hd hK).mpr ⟨x, hx, rfl⟩, ?_⟩
    show y ∈ hnm (dec K (nmStr x))
    rw [dec_nm hd hK hx]; exact hm
  · obtain ⟨x, hx, rfl⟩ := (net_names hd hK).mp hs
    show _ = (hnm (dec K (nmStr x))).count y
    rw [dec_nm hd hK hx]; exact net_suc hd hK hx y
  · obtain ⟨x, hx, rfl⟩ := (net_names hd hK).mp hq
    have hy' : y ∈ hnm (dec K (nmStr x)) := hy
    show y ∈ _ ∧ mst 8 (dec K y) < mst 8 (dec K (nmStr x))
    rw [dec_nm hd hK hx] at hy' ⊢
    obtain ⟨h1, h2⟩ := mem_hnm.mp hy'
    have st := rk_step (hdm x hx)
    rcases h1 with rfl | rfl
    · have hk := (hK.s hd x hx).1
      rw [dec_nm hd hK hk]
      exact ⟨(net_names hd hK).mpr ⟨_, hk, rfl⟩, st.1 fun e => h2 (by rw [e])⟩
    · have hk := (hK.s hd x hx).2
      rw [dec_nm hd hK hk]
      exact ⟨(net_names hd hK).mpr ⟨_, hk, rfl⟩, st.2.1 fun e => h2 (by rw [e])⟩
  · obtain ⟨x, hx, rfl⟩ := (net_names hd hK).mp hq
    have hr' : 0 < mst 8 (dec K (nmStr x)) := hr
    show ∃ y ∈ hnm (dec K (nmStr x)), mst 8 (dec K y) + 1 = mst 8 (dec K (nmStr x))
    rw [dec_nm hd hK hx] at hr' ⊢
    have st := rk_step (hdm x hx)
    rcases st.2.2 hr' with ⟨h1, h2⟩ | ⟨h1, h2⟩
    · have hk := (hK.s hd x hx).1
      exact ⟨nmStr (s1 x), mem_hnm.mpr ⟨.inl rfl, fun e => h1 (nm_inj (hdm _ hk) (hdm x hx) e)⟩, by rw [dec_nm hd hK hk]; exact h2⟩
    · have hk := (hK.s hd x hx).2
      exact ⟨nmStr (s2 x), mem_hnm.mpr ⟨.inr rfl, fun e => h1 (nm_inj (hdm _ hk) (hdm x hx) e)⟩, by rw [dec_nm hd hK hk]; exact h2⟩
theorem net_rk (q : Str) (hq : q ∈ (netG K).map (·.1)) : mst 8 (dec K q) ≤ 7 := by
  obtain ⟨x, hx, rfl⟩ := (net_names hd hK).mp hq
  rw [dec_nm hd hK hx]
  exact (hK.dom hd x hx).rk.2
end
structure Rds (K : List (List Int)) (r : Nat) (rs : List (List Str)) : Prop where
  len : rs.length = r
  ne : ∀ (k : Nat) (l : List Str), rs[k]? = some l → l ≠ []
  up : ∀ (k : Nat) (l : List Str), rs[k]? = some l → upS l
  mem : ∀ (k : Nat) (l : List Str), rs[k]? = some l → ∀ q, q ∈ l ↔ q ∈ (netG K).map (·.1) ∧ mst 8 (dec K q) = k
theorem Rds.nil (K : List (List Int)) : Rds K 0 [] := ⟨rfl, fun k l h => by simp at h, fun k l h => by simp at h, fun k l h => by simp at h⟩
theorem Rds.snoc {K : List (List Int)} {r : Nat} {rs : List (List Str)} (R : Rds K r rs) {rd l : List Str} (hne : rd ≠ []) (hnd : rd.Nodup) (hm : ∀ q, q ∈ rd ↔ q ∈ (netG K).map (·.1) ∧ mst 8 (dec K q) = r) (hp : l.Perm rd) (hs : sortedS l = true) : Rds K (r + 1) (rs ++ [l]) := by
  have get : ∀ (k : Nat) (l' : List Str), (rs ++ [l])[k]? = some l' → rs[k]? = some l' ∨ (k = r ∧ l' = l) := fun k l' h => by
    rcases Nat.lt_trichotomy k rs.length with h1 | h1 | h1
    · rw [List.getElem?_append_left h1] at h; exact .inl h
    · subst h1
      simp at h
      exact .inr ⟨R.len, h.symm⟩
    · rw [List.getElem?_eq_none (by simp; lia)] at h; cases h
  refine ⟨by simp [R.len], fun k l' h => ?_, fun k l' h => ?_, fun k l' h q => ?_⟩
  · rcases get k l' h with h | ⟨_, rfl⟩
    · exact R.ne k l' h
    · intro e; rw [e] at hp; exact hne hp.nil_eq.symm
  · rcases get k l' h with h | ⟨_, rfl⟩
    · exact R.up k l' h
    · exact upS_of hs (hp.nodup_iff.mpr hnd)
  · rcases get k l' h with h | ⟨rfl, rfl⟩
    · exact R.mem k l' h q
    · rw [hp.mem_iff]; exact hm q
theorem Rds.spec {fss K : List (List Int)} (hd : ∀ f ∈ fss, Dom f) (hK : KOk fss K) {r : Nat} {rs : List (List Str)} (R : Rds K r rs) (hend : ∀ q ∈ (netG K).map (·.1), mst 8 (dec K q) ≠ r) {tri : List (List Str)} (hup : tri.Pairwise fun a b => lexLt a b = true) (hp : tri.Perm (K.map tri3)) : SpecT fss tri rs := by
  have N := net_ok hd hK
  have low : ∀ (n : Nat) q, q ∈ (netG K).map (·.1) → mst 8 (dec K q) = r + n → False := by
    intro n
    induction n with
    | zero => intro q hq e; exact hend q hq e
    | succ n ih =>
      intro q hq e
      obtain ⟨y, hy, e2⟩ := N.hi q hq (by show 0 < mst 8 (dec K q); lia)
      have e2' : mst 8 (dec K y) + 1 = mst 8 (dec K q) := e2
      exact ih y (N.lo q hq y hy).1 (by lia)
  refine ⟨hup, spec_tri hK hp, R.ne, R.up, fun k l h q => ?_, fun y hy => ?_⟩
  · rw [R.mem k l h q, net_names hd hK]
    constructor
    · rintro ⟨⟨x, hx, rfl⟩, e⟩
      rw [dec_nm hd hK hx] at e
      exact ⟨x, (hK.mem x).mp hx, rfl, e⟩
    · rintro ⟨x, hx, rfl, e⟩
      have hx' := (hK.mem x).mpr hx
      exact ⟨⟨x, hx', rfl⟩, by rw [dec_nm hd hK hx']; exact e⟩
  · rw [R.len]
    have hy' := (hK.mem y).mpr hy
    refine Nat.lt_of_not_le fun hle => low (mst 8 y - r) (nmStr y) ((net_names hd hK).mpr ⟨y, hy', rfl⟩) ?_
    rw [dec_nm hd hK hy']; lia
end
section
open PySem PySem.W PySem.Calls PyProof.Rows
noncomputable def Shows (n : List (Addr × Obj)) (v : Value) (d : PyData) : Prop := ∀ h : Heap, (∀ q ∈ n, h.get? q.1 = some q.2) → ∃ as, Reads h v d as
noncomputable def strsD (r : List Str) : PyData := .list (r.map .str)
noncomputable def outD (tri rounds : List (List Str)) : PyData := .list [.list (tri.map strsD), .list (rounds.map strsD)]
theorem reads_strs {h : Heap} {vs : List Value} {ss : List Str} (s : StrsAre vs ss) : ReadsAll h vs (ss.map .str) [] := by
  induction s with
  | nil => exact .nil
  | cons x t r ih => exact ReadsAll.cons (Reads.str (h := h) x t) ih
theorem reads_family {h : Heap} {l : List TxA} {rows : List (List Str)} (n : NmAre l rows) : (∀ q ∈ txLed l, h.get? q.1 = some q.2) → ∃ as, ReadsAll h (txVals l) (rows.map strsD) as := by
  induction n with
  | nil => exact fun _ => ⟨[], .nil⟩
  | @cons a ss l rows x r ih =>
    intro hg
    obtain ⟨as, ih⟩ := ih fun q hq => hg q (.tail _ hq)
    exact ⟨_, .cons (Reads.list (hg (a.T, listOf a.vs.toArray a.ep) (.head _)) rfl rfl (reads_strs x)) ih⟩
theorem shows_out {n : List (Addr × Obj)} {R A B : Addr} {l1 l2 : List TxA} {tri rounds : List (List Str)} {e0 e1 e2 : Nat} (h0 : (R, listOf (List.toArray [Value.ref A, Value.ref B]) e0) ∈ n) (hA : (A, listOf (txVals l1).toArray e1) ∈ n) (hB : (B, listOf (txVals l2).toArray e2) ∈ n)
    (n1 : NmAre l1 tri) (n2 : NmAre l2 rounds) (m1 : ∀ q ∈ txLed l1, q ∈ n) (m2 : ∀ q ∈ txLed l2, q ∈ n) : Shows n (.ref R) (outD tri rounds) := by
  intro h hg
  obtain ⟨as1, r1⟩ := reads_family n1 fun q hq => hg q (m1 q hq)
  obtain ⟨as2, r2⟩ := reads_family n2 fun q hq => hg q (m2 q hq)
  exact ⟨_, Reads.list (hg _ h0) rfl rfl (.cons (Reads.list (hg _ hA) rfl rfl (by simpa using r1)) (.cons (Reads.list (hg _ hB) rfl rfl (by simpa using r2)) .nil))⟩
theorem strs_lay : ∀ r : List Str, (∀ s ∈ r, PyData.strOk s = true) → PyData.canLayAll0 (r.map PyData.str) = true ∧ PyData.depthAll (r.map PyData.str) = 0
  | [], _ => ⟨rfl, rfl⟩
  | a :: r, h => by
    obtain ⟨h1, h2⟩ := strs_lay r fun s hs => h s (.tail _ hs)
    simp [PyData.canLayAll0, PyData.canLay0, PyData.depthAll, PyData.depth, h1, h2, h a (.head _)]
theorem rows_lay : ∀ r : List (List Str), (∀ a ∈ r, ∀ s ∈ a, PyData.strOk s = true) → PyData.canLayAll0 (r.map strsD) = true ∧ PyData.depthAll (r.map strsD) ≤ 1
  | [], _ => ⟨rfl, Nat.zero_le _⟩
  | a :: r, h => by
    obtain ⟨h1, h2⟩ := rows_lay r fun b hb => h b (.tail _ hb)
    obtain ⟨h3, h4⟩ := strs_lay a (h a (.head _))
    simp [PyData.canLayAll0, PyData.canLay0, PyData.depthAll, PyData.depth, strsD, h1, h3, h4] at h2 ⊢
    lia
theorem out_shaped (tri rounds : List (List Str)) (ht : ∀ a ∈ tri, ∀ s ∈ a, PyData.strOk s = true) (hr : ∀ a ∈ rounds, ∀ s ∈ a, PyData.strOk s = true) : SeqAt.shaped (outD tri rounds) = true := by
  obtain ⟨h1, h2⟩ := rows_lay tri ht
  obtain ⟨h3, h4⟩ := rows_lay rounds hr
  unfold SeqAt.shaped outD
  simp [PyData.canLayAll0, PyData.canLay0, PyData.depthAll, PyData.depth, h1, h3]
  lia
theorem nm_ok (x : List Int) : PyData.strOk (nmStr x) = true := by
  have key : ∀ f, (sgn f).toNat < 256 := fun f => by have := sgn_in f; lia
  unfold PyData.strOk nmStr
  rw [List.all_toArray, List.all_eq_true]
  intro c hc
  obtain ⟨f, _, rfl⟩ := List.mem_map.mp hc
  exact decide_eq_true (by have := key f; lia)
theorem SpecT.shaped {fss : List (List Int)} {tri rounds : List (List Str)} (h : SpecT fss tri rounds) : SeqAt.shaped (outD tri rounds) = true := by
  refine out_shaped tri rounds (fun a ha s hs => ?_) fun a ha s hs => ?_
  · obtain ⟨y, _, rfl⟩ := (h.tmem a).mp ha
    unfold tri3 at hs
    simp only [List.mem_cons, List.not_mem_nil, or_false] at hs
    rcases hs with rfl | rfl | rfl <;> exact nm_ok _
  · obtain ⟨k, hk, e⟩ := List.getElem_of_mem ha
    obtain ⟨y, _, rfl, _⟩ := (h.rmem k a (by rw [List.getElem?_eq_getElem hk, e]) s).mp hs
    exact nm_ok _
theorem eqv_strs : ∀ r : List Str, PyData.eqvAll (r.map PyData.str) (r.map PyData.str) = true
  | [] => by simp [PyData.eqvAll]
  | a :: r => by simp [PyData.eqvAll, PyData.eqv, eqv_strs r]
theorem eqv_rows : ∀ r : List (List Str), PyData.eqvAll (r.map strsD) (r.map strsD) = true
  | [] => by simp [PyData.eqvAll]
  | a :: r => by simp [PyData.eqvAll, PyData.eqv, strsD, eqv_strs a, eqv_rows r]
theorem out_eqv (tri rounds : List (List Str)) : PyData.eqv (outD tri rounds) (outD tri rounds) = true := by
  unfold outD
  simp [PyData.eqv, PyData.eqvAll, eqv_rows]
end
section
open PySem PySem.W PySem.Calls PyProof.Rows
set_option genInjectivity false in
set_option genSizeOf false in
structure DuA where
  x : List Int
  a : TxA
noncomputable def duTx (E : List DuA) : List TxA := E.map (·.a)
noncomputable def duX (E : List DuA) : List (List Int) := E.map (·.x)
noncomputable def duKv (E : List DuA) : List (Str × Value) := E.map fun e => (nmStr e.x, .ref e.a.T)
structure DuOk (fss : List (List Int)) (E : List DuA) : Prop where
  nd : (duX E).Nodup
  mem : ∀ e ∈ E, e.x ∈ clo fss ∧ StrsAre e.a.vs (tri3 e.x)
theorem duX_len (E : List DuA) : (duX E).length = E.length := by simp [duX]
theorem duKv_len (E : List DuA) : (duKv E).length = E.length := by simp [duKv]
section
variable {fss : List (List Int)} (hD : ∀ f ∈ fss, Dom f)
include hD
theorem du_inj {E : List DuA} (h : DuOk fss E) {e : DuA} (he : e ∈ E) {x : List Int} (hx : x ∈ clo fss) (q : nmStr e.x = nmStr x) : e.x = x := nm_inj (clo_dom hD (h.mem e he).1) (clo_dom hD hx) q
theorem du_at {E : List DuA} (h : DuOk fss E) {e : DuA} (he : e ∈ E) : valueAt (duKv E) (nmStr e.x) = some (.ref e.a.T) := by
  unfold PySem.valueAt duKv
  rw [List.find?_map]
  have hnd := h.nd
  have key : ∀ l : List DuA, (∀ a ∈ l, a ∈ E) → (l.map (·.x)).Nodup → e ∈ l → List.find? ((fun kv : Str × Value => decide (kv.1 = nmStr e.x)) ∘ fun e : DuA => (nmStr e.x, Value.ref e.a.T)) l = some e := by
    intro l
    induction l with
    | nil => intro _ _ h; nomatch h
    | cons a r ih =>
      intro hl nd hm
      rw [List.map_cons, List.nodup_cons] at nd
      rw [List.find?_cons]
      rcases List.mem_cons.mp hm with rfl | hm
      · simp
      · have : decide (nmStr a.x = nmStr e.x) = false := decide_eq_false fun q => nd.1 (by
          have := du_inj hD h (hl a (.head _)) (h.mem e he).1 q
          rw [this]; exact List.mem_map_of_mem (f := fun e : DuA => e.x) hm)
        show (match decide (nmStr a.x = nmStr e.x) with | true => some a | false => _) = _
        rw [this]
        exact ih (fun b hb => hl b (.tail _ hb)) nd.2 hm
  rw [key E (fun _ h => h) hnd he]; rfl
theorem du_store {E : List DuA} (h : DuOk fss E) {x : List Int} (hx : x ∈ clo fss) (a : TxA) (ha : StrsAre a.vs (tri3 x)) :
    ∃ E' R, DuOk fss E' ∧ duKv E' = stored (duKv E) (nmStr x) (.ref a.T) ∧ (∀ y, y ∈ duX E' ↔ y ∈ duX E ∨ y = x) ∧ ((a.T, listOf a.vs.toArray a.ep) :: txLed (duTx E)).Perm (txLed (duTx E') ++ R) := by
  by_cases hm : x ∈ duX E
  · refine nameG fun GG hGG => ?_
    obtain ⟨e, he, rfl⟩ := List.mem_map.mp hm
    obtain ⟨pre, post, rfl⟩ := List.append_of_mem he
    refine hGG ?_; clear hGG GG
    have hnd := h.nd
    unfold duX at hnd
    rw [List.map_append, List.map_cons, List.nodup_append, List.nodup_cons] at hnd
    refine nameG fun GG hGG => ?_
    obtain ⟨n1, ⟨n2, n3⟩, n4⟩ := hnd
    refine hGG ?_; clear hGG GG
    have off1 : ∀ b ∈ pre, nmStr b.x ≠ nmStr e.x := fun b hb q => n4 _ (List.mem_map_of_mem hb) e.x (.head _) (du_inj hD h (List.mem_append_left _ hb) hx q)
    have off2 : ∀ b ∈ post, nmStr b.x ≠ nmStr e.x := fun b hb q => n2 (by
      rw [← du_inj hD h (List.mem_append_right _ (.tail _ hb)) hx q]; exact List.mem_map_of_mem (f := fun e : DuA => e.x) hb)
    refine ⟨pre ++ ⟨e.x, a⟩ :: post, [(e.a.T, listOf e.a.vs.toArray e.a.ep)], ⟨?_, fun b hb => ?_⟩, ?_, fun y => ?_, ?_⟩
    · have := h.nd
      unfold duX at this ⊢
      rw [List.map_append, List.map_cons] at this ⊢
      exact this
    · rcases List.mem_append.mp hb with hb | hb
      · exact h.mem b (List.mem_append_left _ hb)
      · rcases List.mem_cons.mp hb with rfl | hb
        · exact ⟨hx, ha⟩
        · exact h.mem b (List.mem_append_right _ (.tail _ hb))
    · unfold stored
      have hany : ((duKv (pre ++ e :: post)).any fun kv => decide (kv.1 = nmStr e.x)) = true := by
        unfold duKv
        rw [List.any_map, List.any_eq_true]
        exact ⟨e, he, by simp⟩
      rw [if_pos hany]
      unfold duKv
      rw [List.map_append, List.map_cons, List.map_append, List.map_cons, List.map_append, List.map_cons, if_pos rfl]
      have m1 : ∀ l : List DuA, (∀ b ∈ l, nmStr b.x ≠ nmStr e.x) → (l.map fun e => (nmStr e.x, Value.ref e.a.T)).map (fun kv => if kv.1 = nmStr e.x then (kv.1, Value.ref a.T) else kv) = l.map fun e => (nmStr e.x, Value.ref e.a.T) := fun l hl => by
        rw [List.map_map]
        exact List.map_congr_left fun b hb => by show (if nmStr b.x = nmStr e.x then _ else _) = _; rw [if_neg (hl b hb)]
      rw [m1 _ off1, m1 _ off2]
    · unfold duX
      simp only [List.map_append, List.map_cons, List.mem_append, List.mem_cons]
      constructor
      · rintro (h | h | h)
        · exact .inl (.inl h)
        · exact .inr h
        · exact .inl (.inr (.inr h))
      · rintro ((h | h | h) | h)
        · exact .inl h
        · exact .inr (.inl h)
        · exact .inr (.inr h)
        · exact .inr (.inl h)
    · unfold duTx txLed
      simp only [List.map_append, List.map_cons, List.append_assoc, List.cons_append]
      refine (List.Perm.cons _ (List.perm_middle)).trans ?_
      refine List.Perm.trans ?_ (List.perm_middle.symm)
      refine (List.Perm.swap _ _ _).trans ?_
      refine List.Perm.trans ?_ (List.Perm.cons _ (List.perm_append_comm (l₁ := [(e.a.T, listOf e.a.vs.toArray e.a.ep)]) (l₂ := List.map (fun x : TxA => (x.T, listOf x.vs.toArray x.ep)) (List.map (fun x : DuA => x.a) pre) ++ List.map (fun x : TxA => (x.T, listOf x.vs.toArray x.ep)) (List.map (fun x : DuA => x.a) post)) |>.trans (by simp)))
      exact List.Perm.swap _ _ _
  · refine ⟨E ++ [⟨x, a⟩], [], ⟨?_, fun b hb => ?_⟩, ?_, fun y => ?_, ?_⟩
    · unfold duX at hm ⊢
      rw [List.map_append, List.nodup_append]
      exact ⟨h.nd, by simp, fun c hc b hb e => by simp at hb; subst hb; exact hm (e ▸ hc)⟩
    · rcases List.mem_append.mp hb with hb | hb
      · exact h.mem b hb
      · simp at hb; subst hb; exact ⟨hx, ha⟩
    · unfold stored
      have hany : ¬ ((duKv E).any fun kv => decide (kv.1 = nmStr x)) = true := by
        unfold duKv
        rw [List.any_map, List.any_eq_true]
        rintro ⟨b, hb, q⟩
        have q' : nmStr b.x = nmStr x := by simpa using q
        exact hm (by rw [← du_inj hD h hb hx q']; exact List.mem_map_of_mem (f := fun e : DuA => e.x) hb)
      rw [if_neg hany]
      unfold duKv
      rw [List.map_append]; rfl
    · unfold duX
      rw [List.map_append, List.mem_append]; simp
    · unfold duTx txLed
      rw [List.map_append, List.map_append, List.append_nil]
      exact List.perm_append_comm (l₁ := [(a.T, listOf a.vs.toArray a.ep)])
end
inductive MoAre (t : Nat) : List (Str × Value) → List (List Int) → Prop
  | nil : MoAre t [] []
  | cons (x : List Int) (k : Tok) {kvs X} : MoAre t kvs X → MoAre t ((nmStr x, .int (mst t x : Nat) k) :: kvs) (x :: X)
theorem MoAre.len {t : Nat} {kvs : List (Str × Value)} {X : List (List Int)} (h : MoAre t kvs X) : kvs.length = X.length := by induction h with | nil => rfl | cons _ _ _ ih => simp [ih]
theorem MoAre.snoc {t : Nat} {kvs : List (Str × Value)} {X : List (List Int)} (h : MoAre t kvs X) (x : List Int) (k : Tok) : MoAre t (kvs ++ [(nmStr x, .int (mst t x : Nat) k)]) (X ++ [x]) := by
  induction h with
  | nil => exact .cons x k .nil
  | cons y u _ ih => exact .cons y u ih
theorem MoAre.at {t : Nat} {kvs : List (Str × Value)} {X : List (List Int)} (h : MoAre t kvs X) (hd : ∀ y ∈ X, Dom y) {x : List Int} (hx : x ∈ X) : ∃ k, valueAt kvs (nmStr x) = some (.int (mst t x : Nat) k) := by
  induction h with
  | nil => nomatch hx
  | @cons y u kvs X _ ih =>
    unfold PySem.valueAt at ih ⊢
    rw [List.find?_cons]
    by_cases e : nmStr y = nmStr x
    · have : y = x := nm_inj (hd y (.head _)) (hd x hx) e
      subst this
      exact ⟨u, by simp⟩
    · rw [decide_eq_false e]
      rcases List.mem_cons.mp hx with rfl | hx
      · exact absurd rfl e
      · exact ih (fun y hy => hd y (.tail _ hy)) hx
theorem MoAre.none {t : Nat} {kvs : List (Str × Value)} {X : List (List Int)} (h : MoAre t kvs X) (hd : ∀ y ∈ X, Dom y) {x : List Int} (hdx : Dom x) (hx : x ∉ X) : valueAt kvs (nmStr x) = none := by
  induction h with
  | nil => rfl
  | @cons y u kvs X _ ih =>
    unfold PySem.valueAt at ih ⊢
    rw [List.find?_cons]
    have e : nmStr y ≠ nmStr x := fun e => hx (by rw [nm_inj (hd y (.head _)) hdx e]; exact .head _)
    rw [decide_eq_false e]
    exact ih (fun y hy => hd y (.tail _ hy)) fun h => hx (.tail _ h)
theorem MoAre.store {t : Nat} {kvs : List (Str × Value)} {X : List (List Int)} (h : MoAre t kvs X) (hd : ∀ y ∈ X, Dom y) {x : List Int} (hdx : Dom x) (hx : x ∉ X) (k : Tok) : MoAre t (stored kvs (nmStr x) (.int (mst t x : Nat) k)) (X ++ [x]) := by
  rw [stored_absent (h.none hd hdx hx)]
  exact h.snoc x k
theorem take_notin {α : Type} {l : List α} (nd : l.Nodup) {i : Nat} {x : α} (h : l[i]? = some x) : x ∉ l.take i := fun hm => by
  obtain ⟨j, hj, e⟩ := List.getElem_of_mem hm
  rw [List.length_take] at hj
  rw [List.getElem_take] at e
  obtain ⟨hi, _⟩ := List.getElem?_eq_some_iff.mp h
  have := (List.getElem?_inj (i := j) (j := i) (by omega) nd).mp (by rw [h, List.getElem?_eq_getElem (by omega), e])
  omega
theorem mid_unique {c : Addr} {o o' : Obj} : ∀ {a a' b b' : List (Addr × Obj)}, ((a ++ (c, o) :: b).map (·.1)).Nodup → a ++ (c, o) :: b = a' ++ (c, o') :: b' → a = a' ∧ b = b'
  | [], [], b, b', _, e => by simp at e; exact ⟨rfl, e.2⟩
  | [], q :: a', b, b', nd, e => by
    simp only [List.nil_append, List.cons_append, List.cons.injEq] at e
    rw [List.nil_append, List.map_cons, List.nodup_cons] at nd
    exact absurd (by rw [e.2, List.map_append, List.map_cons]; exact List.mem_append_right _ (.head _)) nd.1
  | q :: a, [], b, b', nd, e => by
    simp only [List.nil_append, List.cons_append, List.cons.injEq] at e
    rw [List.cons_append, List.map_cons, List.nodup_cons] at nd
    exact absurd (by rw [e.1, List.map_append, List.map_cons]; exact List.mem_append_right _ (.head _)) nd.1
  | q :: a, q' :: a', b, b', nd, e => by
    simp only [List.cons_append, List.cons.injEq] at e
    rw [List.cons_append, List.map_cons, List.nodup_cons] at nd
    obtain ⟨h1, h2⟩ := mid_unique nd.2 e.2
    exact ⟨by rw [e.1, h1], h2⟩
theorem fstoreJD {prog : Program} {w : World} {A : Around} {env : Env} {x : Str} {h₀ : Heap} {L c : Addr} (hc : env.cells.lookup x = some c) (hk : env.scope.kind = .function) (hl : env.kindOf x = some .cell) :
    FStoreJ prog w A env x h₀ L (fun news => ∃ a o b v₀, news = a ++ (c, o) :: b ∧ o.data = .cell v₀) (fun v m news m' news' => m' = m ∧ ∃ o' : Obj, o'.data = .cell (some v) ∧ ∀ a o b, news = a ++ (c, o) :: b → news' = a ++ (c, o') :: b) := by
  intro v m news hh gs dr tk os Q E I it z1 F N hQ
  refine nameG fun GG hGG => ?_
  obtain ⟨a, o, b, v₀, rfl, hd⟩ := z1
  refine hGG ?_; clear hGG GG
  have hm : (c, o) ∈ a ++ (c, o) :: b := List.mem_append_right _ (.head _)
  have hg := N.N _ (.tail _ hm)
  refine wpAny_storeName_cell hk hl hc ⟨o, hg.1, hd⟩ fun h' hv hs => ?_
  obtain ⟨o', ho', hd'⟩ := hv
  have := N.set F (SetAt.tail (p := (I, it)) (SetAt.app a (SetAt.head (r := b)))) hs ho'
  exact hQ m _ h' tk ⟨rfl, o', hd', fun a2 o2 b2 e => by
    obtain ⟨h1, h2⟩ := mid_unique N.tail.nd e
    rw [h1, h2]⟩ this.1 this.2
theorem DuOk.len {fss : List (List Int)} (hD : ∀ f ∈ fss, Dom f) {E : List DuA} (h : DuOk fss E) : E.length ≤ 7 * fss.length := by
  rw [← duX_len]
  exact Nat.le_trans (nodup_sub h.nd fun y hy => by obtain ⟨e, he, rfl⟩ := List.mem_map.mp hy; exact (h.mem e he).1) (clo_len hD)
theorem PureFn.useC {w : World} {loose : List Str} {mean : ExcName → Option Value} {mg mb : Str → Option Value} {k : Nat} {f : Addr} {pos : List Value} {kw : List (Str × Value)} {pre : Heap → Prop} {ok : Value → Heap → Prop}
    (C : PureFn w loose mean mg mb k f pos kw pre ok) {dp un : Nat} {gd : Option (List Code)} {outer : List Env} {base h₀ : Heap} {L : Addr} {m : Str → Option Value} {news : List (Addr × Obj)} {hh : Heap} {g : Array GenState} {dr : Drawn} {tk₀ : Nat} {os : OsState} {Q E : Value → Shared → Prop}
    (B : Below (topA dp un gd outer) base outer h₀) (F : Fr h₀ L hh m) (X : (hd.heap_39 w.params).In h₀) (T : Top hd.view_39 loose mean mg mb h₀) (N : Led h₀ L hh news)
    (hd : dp + k < recursionLimit) (hu : un + 8 * k < cLine) (hp : pre hh)
    (h : ∀ (v : Value) (h' : Heap) (tk' : Nat), ok v h' → Fr h₀ L h' m → Led h₀ L h' news → Q v ⟨h', g, dr, tk', os⟩) :
    wpAny (model PySem.Challenge.rw_oy0258_01.row.prog w) (topA dp un gd outer) (call (.ref f) pos kw) Q E ⟨hh, g, dr, tk₀, os⟩ :=
  C dp un gd outer base ⟨hh, g, dr, tk₀, os⟩ Q E (Below.mono B F.keep) (X.keeps F.keep) (T.keeps F.keep) hd hu hp
    fun v h' tk' o kp => h v h' tk' o (keepFr F kp) (keepLed N kp)
theorem TxAre.get {l : List TxA} {r : List (List Int)} (h : TxAre l r) : ∀ {i : Nat} {a : TxA}, l[i]? = some a → ∃ f, r[i]? = some f ∧ IntsAre a.vs f := by
  induction h with
  | nil => intro i a e; simp at e
  | cons x _ ih =>
    intro i a e
    cases i with
    | zero => simp at e; exact ⟨_, rfl, e ▸ x⟩
    | succ i => simpa using ih (by simpa using e)
theorem TxAre.len {l : List TxA} {r : List (List Int)} (h : TxAre l r) : l.length = r.length := by induction h with | nil => rfl | cons _ _ ih => simp [ih]
theorem txVals_at {l : List TxA} {i : Nat} {v : Value} (h : (txVals l).toArray[i]? = some v) : ∃ a, l[i]? = some a ∧ v = .ref a.T := by
  unfold txVals at h
  rw [List.getElem?_toArray, List.getElem?_map] at h
  obtain ⟨a, h1, h2⟩ := Option.map_eq_some_iff.mp h
  exact ⟨a, h1, h2.symm⟩
noncomputable def rowG (f : List Int) (i : Nat) : List Str := (List.range 5).map fun j => nmStr (gij (i : Nat) (j : Nat) f)
theorem Led.shrink {h₀ h : Heap} {L I : Addr} {R news : List (Addr × Obj)} (N : Led h₀ L h R) (hI : I ∉ R.map (·.1)) (hs : news.Sublist R) : Led h₀ L h news ∧ I ∉ news.map (·.1) := ⟨N.sub hs, fun hm => hI ((hs.map _).subset hm)⟩
theorem split_two {α : Type} {l : List α} {i : Nat} {a b : α} (ha : l[i]? = some a) (hb : l[i + 1]? = some b) : ∃ pre post, l = pre ++ a :: b :: post := by
  refine nameG fun GG hGG => ?_
  obtain ⟨h1, e1⟩ := List.getElem?_eq_some_iff.mp ha
  obtain ⟨h2, e2⟩ := List.getElem?_eq_some_iff.mp hb
  refine hGG ?_; clear hGG GG
  refine ⟨l.take i, l.drop (i + 2), ?_⟩
  rw [← e1, ← e2, List.getElem_cons_drop h2, List.getElem_cons_drop h1, List.take_append_drop]
theorem Du.perm {P X X' R : List (Addr × Obj)} {q : Addr × Obj} (h : (q :: X).Perm (X' ++ R)) : (q :: (P ++ X)).Perm ((P ++ X') ++ R) :=
  (List.perm_middle.symm).trans ((List.Perm.append_left P h).trans (List.Perm.of_eq (List.append_assoc ..).symm))
noncomputable def nds3 (x : List Int) : List (List Int) := [x, s1 x, s2 x]
theorem tri3_nds (x : List Int) : tri3 x = (nds3 x).map nmStr := rfl
noncomputable def rks (t : Nat) (x : List Int) (l : List (List Int)) : List Int := (l.filter fun z => decide (nmStr z ≠ nmStr x)).map fun z => 1 + (mst t z : Int)
theorem rks_max {fss K : List (List Int)} (hD : ∀ f ∈ fss, Dom f) (hK : KOk fss K) {t : Nat} {x : List Int} (hx : x ∈ K) : ((mst (t + 1) x : Nat) : Int) ∈ [0] ++ rks t x (nds3 x) ∧ ∀ a ∈ [0] ++ rks t x (nds3 x), a ≤ ((mst (t + 1) x : Nat) : Int) := by
  have d := hK.dom hD
  have hs := hK.s hD x hx
  have e : mst (t + 1) x = max (if s1 x = x then 0 else mst t (s1 x) + 1) (if s2 x = x then 0 else mst t (s2 x) + 1) := rfl
  have q1 : nmStr (s1 x) = nmStr x ↔ s1 x = x := ⟨nm_inj (d _ hs.1) (d x hx), fun h => by rw [h]⟩
  have q2 : nmStr (s2 x) = nmStr x ↔ s2 x = x := ⟨nm_inj (d _ hs.2) (d x hx), fun h => by rw [h]⟩
  rw [e]
  unfold rks nds3
  rw [List.filter_cons_of_neg (by simp)]
  by_cases n1 : s1 x = x <;> by_cases n2 : s2 x = x
  · rw [List.filter_cons_of_neg (by simp [q1, n1]), List.filter_cons_of_neg (by simp [q2, n2]), if_pos n1, if_pos n2]
    simp
  · rw [List.filter_cons_of_neg (by simp [q1, n1]), List.filter_cons_of_pos (by simp [q2, n2]), if_pos n1, if_neg n2]
    simp; lia
  · rw [List.filter_cons_of_pos (by simp [q1, n1]), List.filter_cons_of_neg (by simp [q2, n2]), if_neg n1, if_pos n2]
    simp; lia
  · rw [List.filter_cons_of_pos (by simp [q1, n1]), List.filter_cons_of_pos (by simp [q2, n2]), if_neg n1, if_neg n2]
    simp; lia
theorem duKv_get {E : List DuA} {i : Nat} {q : Str} {v : Value} (h : (duKv E)[i]? = some (q, v)) : ∃ e, E[i]? = some e ∧ q = nmStr e.x ∧ v = .ref e.a.T ∧ (duX E)[i]? = some e.x := by
  unfold duKv at h
  rw [List.getElem?_map] at h
  obtain ⟨e, h1, h2⟩ := Option.map_eq_some_iff.mp h
  cases h2
  exact ⟨e, h1, rfl, rfl, by unfold duX; rw [List.getElem?_map, h1]; rfl⟩
theorem NmAre.nonempty {l : List TxA} {r : List (List Str)} (h : NmAre l r) : NmAre (l.filter fun a => !a.vs.isEmpty) (r.filter fun s => !s.isEmpty) := by
  induction h with
  | nil => exact .nil
  | @cons a f l r x _ ih =>
    have e : a.vs.isEmpty = f.isEmpty := by
      have := strs_len x
      cases hv : a.vs <;> cases f <;> simp [hv] at this ⊢
    rw [List.filter_cons, List.filter_cons, e]
    split
    · exact .cons x ih
    · exact ih
theorem filter_take : ∀ (rr : List (List Str)), (∀ (k : Nat) (a b : List Str), rr[k]? = some a → rr[k + 1]? = some b → b ≠ [] → a ≠ []) → ∃ m, (rr.filter fun s => !s.isEmpty) = rr.take m ∧ ∀ (k : Nat) (s : List Str), rr[k]? = some s → (s ≠ [] ↔ k < m)
  | [], _ => ⟨0, rfl, fun k s h => by simp at h⟩
  | a :: r, h => by
    by_cases e : a = []
    · have all : ∀ (k : Nat) (s : List Str), (a :: r)[k]? = some s → s = [] := by
        intro k
        induction k with
        | zero => intro s hs; simp at hs; rw [← hs, e]
        | succ k ih =>
          intro s hs
          obtain ⟨hk, _⟩ := List.getElem?_eq_some_iff.mp hs
          have hb : (a :: r)[k]? = some (a :: r)[k] := List.getElem?_eq_getElem (by omega)
          by_cases hne : s = []
          · exact hne
          · exact absurd (ih _ hb) (h k _ s hb hs hne)
      refine ⟨0, ?_, fun k s hs => ⟨fun hne => absurd (all k s hs) hne, fun hlt => absurd hlt (Nat.not_lt_zero _)⟩⟩
      rw [List.take_zero, List.filter_eq_nil_iff]
      intro s hs hq
      obtain ⟨k, hk, rfl⟩ := List.getElem_of_mem hs
      rw [all k _ (List.getElem?_eq_getElem hk)] at hq
      exact absurd hq (by simp)
    · obtain ⟨m, h1, h2⟩ := filter_take r fun k x y hx hy => h (k + 1) x y (by simpa using hx) (by simpa using hy)
      refine ⟨m + 1, ?_, fun k s hs => ?_⟩
      · rw [List.filter_cons_of_pos (by simpa using e), h1]; rfl
      · cases k with
        | zero => simp at hs; subst hs; exact ⟨fun _ => Nat.succ_pos _, fun _ => e⟩
        | succ k => exact (h2 k s (by simpa using hs)).trans (Nat.succ_lt_succ_iff).symm
theorem spec_due {fss X : List (List Int)} {rr tri : List (List Str)} (hD : ∀ f ∈ fss, Dom f) (hK : KOk fss X) (hrl : rr.length = 8) (hrs : ∀ (k : Nat) (s : List Str), rr[k]? = some s → s.Perm ((X.filter fun x => decide (mst 8 x = k)).map nmStr) ∧ sortedS s = true) (hup : tri.Pairwise fun a b => lexLt a b = true) (hp : tri.Perm (X.map tri3)) : SpecT fss tri (rr.filter fun s => !s.isEmpty) := by
  have hd := hK.dom hD
  have mem : ∀ (k : Nat) (s : List Str), rr[k]? = some s → ∀ q, q ∈ s ↔ ∃ y ∈ X, q = nmStr y ∧ mst 8 y = k := fun k s h q => by
    rw [(hrs k s h).1.mem_iff, List.mem_map]
    constructor
    · rintro ⟨y, hy, rfl⟩
      rw [List.mem_filter] at hy
      exact ⟨y, hy.1, rfl, of_decide_eq_true hy.2⟩
    · intro z2
      refine nameG fun GG hGG => ?_
      obtain ⟨y, hy, rfl, e⟩ := z2
      refine hGG ?_; clear hGG GG
      exact ⟨y, List.mem_filter.mpr ⟨hy, decide_eq_true e⟩, rfl⟩
  obtain ⟨m, e, hm⟩ := filter_take rr fun k a b ha hb hne => by
    match b, hne with
    | q :: t, _ =>
      refine nameG fun GG hGG => ?_
      obtain ⟨y, hy, _, hk⟩ := (mem _ _ hb q).mp (.head _)
      refine hGG ?_; clear hGG GG
      have st := rk_step (hd y hy)
      have down : ∃ z ∈ X, mst 8 z = k := by
        rcases st.2.2 (by lia) with ⟨_, h⟩ | ⟨_, h⟩
        · exact ⟨_, (hK.s hD y hy).1, by lia⟩
        · exact ⟨_, (hK.s hD y hy).2, by lia⟩
      obtain ⟨z, hz, hzk⟩ := down
      exact List.ne_nil_of_mem ((mem _ _ ha (nmStr z)).mpr ⟨z, hz, rfl, hzk⟩)
  rw [e]
  have get : ∀ (k : Nat) (s : List Str), (rr.take m)[k]? = some s → k < m ∧ rr[k]? = some s := fun k s h => by
    rw [List.getElem?_take] at h
    split at h
    · rename_i hk; exact ⟨hk, h⟩
    · cases h
  refine ⟨hup, spec_tri hK hp, fun k s h => ?_, fun k s h => ?_, fun k s h q => ?_, fun y hy => ?_⟩
  · obtain ⟨h1, h2⟩ := get k s h
    exact (hm k s h2).mpr h1
  · refine nameG fun GG hGG => ?_
    obtain ⟨h1, h2⟩ := get k s h
    obtain ⟨hpm, hs⟩ := hrs k s h2
    refine hGG ?_; clear hGG GG
    refine upS_of hs (hpm.nodup_iff.mpr (nodup_map (hK.nd.sublist List.filter_sublist) fun a ha b hb q => ?_))
    exact nm_inj (hd a (List.mem_filter.mp ha).1) (hd b (List.mem_filter.mp hb).1) q
  · obtain ⟨h1, h2⟩ := get k s h
    rw [mem k s h2 q]
    exact ⟨fun ⟨y, hy, a, b⟩ => ⟨y, (hK.mem y).mp hy, a, b⟩, fun ⟨y, hy, a, b⟩ => ⟨y, (hK.mem y).mpr hy, a, b⟩⟩
  · have hy' := (hK.mem y).mpr hy
    have h7 := (hd y hy').rk.2
    have hg : rr[mst 8 y]? = some rr[mst 8 y] := List.getElem?_eq_getElem (by lia)
    have := (hm _ _ hg).mp (List.ne_nil_of_mem ((mem _ _ hg (nmStr y)).mpr ⟨y, hy', rfl, rfl⟩))
    rw [List.length_take]
    lia
theorem NmAre.of_du {fss : List (List Int)} {E : List DuA} (h : ∀ e ∈ E, e.x ∈ clo fss ∧ StrsAre e.a.vs (tri3 e.x)) : NmAre (duTx E) ((duX E).map tri3) := by
  induction E with
  | nil => exact .nil
  | cons e r ih => exact .cons (h e (.head _)).2 (ih fun b hb => h b (.tail _ hb))
theorem duKv_vals (E : List DuA) : (duKv E).map (·.2) = txVals (duTx E) := by
  unfold duKv txVals duTx
  rw [List.map_map, List.map_map]; rfl
theorem two_len {α : Type} {l : List α} {a b : α} (ha : a ∈ l) (hb : b ∈ l) (hne : a ≠ b) : 2 ≤ l.length := by
  match l, ha, hb with
  | [x], ha, hb => simp at ha hb; exact absurd (ha.trans hb.symm) hne
  | x :: y :: r, _, _ => simp
end
section
section
variable (w : World) (loose : List Str) (mean : ExcName → Option Value) (mg mb : Str → Option Value)
theorem c_due (T : Addr) (l : List TxA) (e2 : Nat) (fss : List (List Int)) (hl : TxAre l fss) (hD : ∀ f ∈ fss, Dom f) (hlen : fss.length ≤ 6) (h2 : ∃ a ∈ fss, ∃ b ∈ fss, a ≠ b) :
   HeapFn w loose mean mg mb 4 283 [.ref T] [] ((T, listOf (txVals l).toArray e2) :: txLed l) (fun v n => ∃ tri rounds, SpecT fss tri rounds ∧ Shows n v (outD tri rounds)) := by
  unfold HeapFn
  k_fill
  intro dp un gd outer base g s Q E hB hX hT hsz hS hdp hun hret
  refine nameG fun GG hGG => ?_
  obtain ⟨hh, gs, dr, tk, os⟩ := s
  refine hGG ?_; clear hGG GG
  dsimp only at *
  refine wpAny_call ?_
  refine' enterNC (g := g) (news := (T, listOf (txVals l).toArray e2) :: txLed l) (l := [(Str.ofString "texts", .ref T)]) (binds := [(Str.ofString "texts", .ref T)]) ?kX ?kT ?ksz ?kS ?k6 ?k7 ?k8 ?k9 ?kk ?knd ?kl ?kln ?_ ?co ?gen ?kd
  case kX => assumption
  case kT => assumption
  case ksz => first | exact Nat.le_refl _ | assumption
  case kS => first | assumption | exact Sep.nil fun _ _ e => e
  case k6 => k_is
  case k7 => k_is
  case k8 => k_room
  case k9 => first | exact BindsTo.of_eq (by kernel_rfl!) | exact binds_K (by k_in) rfl (by k_is) rfl rfl rfl | fail "enter: no rule for these arguments"
  case kk => exact rfl
  case knd => decide +kernel
  case kl => (intro L' q hq; simp only [List.mem_cons, List.not_mem_nil, or_false] at hq; rcases hq with rfl; kernel_rfl)
  case kln => (simp only [List.map_cons, List.map_nil]; decide +kernel)
  case co => exact rfl
  case gen => exact rfl
  case kd => exact rfl
  intro L' m' h₁ tk' cells F' V' N' Y'
  k_cells Y'
  simp only [List.cons_append, List.nil_append] at N'
  show wpAny _ _ (execs (_ :: _) _) _ _ _
  refine seqG ?_
  intro R' hR'
  refine wpAny_Assign_Name ?_
  rename Fr _ _ _ _ => oldF
  rename Led _ _ _ _ => oldN
  refine newDictM oldF oldN (Top.nolimit (by assumption)) ?_
  intro d' h' o' F' N' lo' hdict'
  clear oldF oldN
  with_reducible rename Knows _ _ => oldV
  rename Fr _ _ _ _ => oldF
  rename Led _ _ _ _ => oldN
  refine' stC oldF oldN rfl (by (intro o'; walk_at "s")) ‹_› ?_ rfl (by kernel_rfl)
  intro h' oc' F' N' hcell'
  clear oldF oldN
  refine hR'.next ?_
  clear hR' R'
  refine seqG ?_
  intro R' hR'
  refine forG ?_ (by intro _; rfl)
  refine' nmVq ‹_› ‹_› rfl (by walk_at "g") ?_ (by kernel_rfl)
  obtain ⟨oF, oM, oB, vF, vM, N1, hcF, hcM, hcB⟩ : ∃ oF oM oB vF vM, Led g L' h' ((d', o') :: (L' + 1 + 1 + 1, oM) :: (L' + 1 + 1, oF) :: (L' + 1, oB) :: (T, listOf (txVals l).toArray e2) :: txLed l) ∧ oF.data = .cell vF ∧ oM.data = .cell vM ∧ oB.data = .cell (some (.ref d')) := ⟨_, _, _, _, _, N', by assumption, by assumption, hcell'⟩
  have F1 := F'
  clear N' hcell' F'
  have hll := hl.len
  refine listSrcF (by rfl) F1 N1 (by k_mem) ?_
  intro I' h2' F2 N2 hI S2
  refine fun px' E' => ⟨_, rfl, ?_⟩
  refine for_coreC (Ok := fun news => ∃ a o b v₀, news = a ++ (L' + 1 + 1, o) :: b ∧ o.data = .cell v₀) S2 F2 N2 hI (fun k m news => ∃ E oD oF vF, Knows m [(Str.ofString "texts", .ref T)] ∧ news = (d', oD) :: (L' + 1 + 1 + 1, oM) :: (L' + 1 + 1, oF) :: (L' + 1, oB) :: (T, listOf (txVals l).toArray e2) :: (txLed l ++ txLed (duTx E)) ∧ oF.data = .cell vF ∧ oD.IsDictOf (PySem.strKind PySem.Challenge.rw_oy0258_01.row.prog w) (duKv E) ∧ DuOk fss E ∧ ∀ y, y ∈ duX E ↔ y ∈ clo (fss.take k)) ?_ ?_ ?_ (fstoreJD rfl rfl (by kernel_rfl)) ?_ ?_
  · exact ⟨[], o', oF, vF, oldV, by simp [duTx, txLed], hcF, hdict', ⟨List.nodup_nil, fun e he => nomatch he⟩, fun y => by simp [duX, clo]⟩
  · intro i m news z1 q hq
    refine nameG fun GG hGG => ?_
    obtain ⟨E, oD, oF, vF, _, rfl, _⟩ := z1
    refine hGG ?_; clear hGG GG
    rw [List.mem_singleton.mp hq]
    k_mem
  · intro i m news z2
    refine nameG fun GG hGG => ?_
    obtain ⟨E, oD, oF, vF, _, rfl, hcF, _⟩ := z2
    refine hGG ?_; clear hGG GG
    exact ⟨[(d', oD), (L' + 1 + 1 + 1, oM)], oF, _, vF, rfl, hcF⟩
  ·
    clear F1 F2 N1 N2 S2 hcF hdict' oldV
    intro k v m₁ news₁ m₂ news₂ it h tk hk hv z3 z4 F' N'
    refine nameG fun GG hGG => ?_
    obtain ⟨E, oD, oF1, vF1, V1, rfl, hcF1, hdE, okE, memE⟩ := z3
    obtain ⟨rfl, oF2, hcF2, hnew⟩ := z4
    refine hGG ?_; clear hGG GG
    try (with_reducible refine nameQ ?_; intro Q' hQ')
    have hn2 := hnew [(d', oD), (L' + 1 + 1 + 1, oM)] oF1 _ rfl
    subst hn2
    clear hnew hcF1
    simp only [List.cons_append, List.nil_append] at N'
    refine nameG fun GG hGG => ?_
    obtain ⟨ax, hax, rfl⟩ := txVals_at hv
    obtain ⟨f, hf, hfi⟩ := hl.get hax
    refine hGG ?_; clear hGG GG
    have hfm : f ∈ fss := List.mem_of_getElem? hf
    have hDf := hD f hfm
    refine seqG ?_
    intro R' hR'
    have hax2 : (ax.T, listOf ax.vs.toArray ax.ep) ∈ txLed l := List.mem_map_of_mem (f := fun x : TxA => (x.T, listOf x.vs.toArray x.ep)) (List.mem_of_getElem? hax)
    refine' asgLC_C ?hsw ?hclos ?hcl ?hpc ?hkind ?hnames ?hx ?hy ?hk ?_ ?hs
    case hsw => rfl
    case hclos => rfl
    case hcl => (intro _; rfl)
    case hpc => (intro _; rfl)
    case hkind => rfl
    case hnames => decide
    case hx => rfl
    case hy => rfl
    case hk => rfl
    case hs => (intro _; rfl)
    refine Call_ ?_
    k_dflt (refine' nmB ‹_› ‹_› ‹_› (by k_is) (by boot_by_name) (by decide) ?_ rfl rfl rfl (by kernel_rfl) (by kernel_rfl))
    refine PyProof.Rows.callWith_type1 ?_
    refine args_cons ?_
    refine constIntM ?_
    refine args_nil ?_
    try dsimp only [List.cons_append, List.nil_append]
    rename Fr _ _ _ _ => oldF
    rename Led _ _ _ _ => oldN
    refine rangeM oldF oldN ?_
    intro r' h' tk' t1' t2' F' N'
    clear oldF oldN
    rename Fr _ _ _ _ => oldF; rename Led _ _ _ _ => oldN
    refine rangeSrc 5 (by rfl) (by rfl) oldF oldN (by k_mem) (by decide) ?_
    intro I3 h3 F3 N3 S3
    clear oldF oldN
    refine LCAtC.mk (fun i ys made => ∃ lg, made = txLed lg.reverse ∧ ys = txVals lg ∧ NmAre lg ((List.range i).map (rowG f))) S3 F3 N3 ⟨[], rfl, rfl, .nil⟩ ?_ ?_
    · intro i v C o ys made g' h tk hi5 hP hcell hJ Fo Fc Nc
      clear F3 N3 S3
      refine nameG fun GG hGG => ?_
      obtain ⟨ti, rfl⟩ := hP
      obtain ⟨lg, rfl, rfl, hlg⟩ := hJ
      refine hGG ?_; clear hGG GG
      have Vc : Knows _ _ := Knows.mp (l := []) (by simp)
      have hXc := hX.keeps Fo.keep
      have hTc := hT.keeps Fo.keep
      with_reducible refine testsOf.nil ?_
      rw [if_pos rfl]
      dsimp only
      refine' evalLC_L rfl (by decide) rfl (by decide) rfl ?_ (by (intro _; rfl))
      refine Call_ ?_
      k_dflt (refine' nmB ‹_› ‹_› ‹_› (by k_is) (by boot_by_name) (by decide) ?_ rfl rfl rfl (by kernel_rfl) (by kernel_rfl))
      refine PyProof.Rows.callWith_type1 ?_
      refine args_cons ?_
      refine constIntM ?_
      refine args_nil ?_
      try dsimp only [List.cons_append, List.nil_append]
      rename Fr _ _ _ _ => oldF
      rename Led _ _ _ _ => oldN
      refine rangeM oldF oldN ?_
      intro r' h' tk' t1' t2' F' N'
      clear oldF oldN
      rename Fr _ _ _ _ => oldF; rename Led _ _ _ _ => oldN
      refine rangeSrc 5 (by rfl) (by rfl) oldF oldN (by k_mem) (by decide) ?_
      intro I4 h4 F4 N4 S4
      clear oldF oldN
      refine LCAtL.mk (fun j ys made => made = [] ∧ StrsAre ys ((rowG f i).take j)) S4 F4 N4 ⟨rfl, StrsAre.nil⟩ ?_ ?_
      · intro j v C2 ys2 made2 g2 h2 tk2 hj hP2 hJ2 Fo2 Fc2 Nc2
        clear F4 N4 S4 Vc
        refine nameG fun GG hGG => ?_
        obtain ⟨tj, rfl⟩ := hP2
        obtain ⟨rfl, hys⟩ := hJ2
        refine hGG ?_; clear hGG GG
        have Vc2 : Knows _ _ := Knows.mp (l := [(Str.ofString "j", Value.int (j : Int) tj)]) (by simp)
        have hXc2 := hXc.keeps Fo2.keep
        have hTc2 := hTc.keeps Fo2.keep
        clear hXc hTc
        simp only [List.nil_append] at Nc2
        with_reducible refine testsOf.nil ?_
        rw [if_pos rfl]
        refine Call_ ?_
        k_dflt (refine' nmK ‹_› ‹_› ‹_› (by k_is) ?_ rfl rfl (by kernel_rfl) (by kernel_rfl))
        k_dflt (refine' callWith_K (by k_asm) (by k_is) ?_)
        refine args_cons ?_
        refine' nmCq ‹_› rfl (by k_mem) ‹_› ?_ (by kernel_rfl)
        refine args_cons ?_
        refine' nmCq ‹_› rfl (by k_mem) ‹_› ?_ (by kernel_rfl)
        refine args_cons ?_
        refine' nmVq ‹_› ‹_› rfl (by walk_at "g") ?_ (by kernel_rfl)
        refine args_nil ?_
        try dsimp only [List.cons_append, List.nil_append]
        refine ⟨by k_in, ?_⟩
        try dsimp only [List.nil_append, List.cons_append]
        have hg2 : h2.get? ax.T = some (listOf ax.vs.toArray ax.ep) := (Nc2.N (ax.T, listOf ax.vs.toArray ax.ep) (by walk_at "a")).1
        refine' PureFn.useC (c_name w loose mean mg mb ax.T ax.vs ax.ep f hDf.four hfi (i : Int) (j : Int) ti tj (by walk_at "om") (by walk_at "om")) ?hB Fc2 hXc2 hTc2 Nc2 ?hd ?hu hg2 ?_
        case hB => exact Below.mono (pushX hB Fo rfl rfl) Fo2.keep
        case hd => (show dp + 1 + 2 < recursionLimit; omega)
        case hu => (show un + 3 + 8 * 2 < cLine; omega)
        rintro v h' tk' ⟨tv, rfl⟩ F' N'
        refine EPost.intro [] F' N' (by walk_at "u") ⟨rfl, ?_⟩
        rw [take_step (x := nmStr (gij (i : Nat) (j : Nat) f)) (by unfold rowG; rw [List.getElem?_map, List.getElem?_range hj]; rfl)]
        exact strs_snoc hys _ _
      · rintro D2 h3 tk3 ys3 made3 ep3 ⟨rfl, hys3⟩ F' N'
        rw [List.take_of_length_le (by simp [rowG])] at hys3
        refine EPost.intro ((D2, listOf ys3.toArray ep3) :: txLed lg.reverse) F' N' (by walk_at "u") ⟨lg ++ [⟨D2, ys3, ep3⟩], by simp [txLed], by simp [txVals], ?_⟩
        rw [List.range_succ, List.map_append]
        exact hlg.app (.cons hys3 .nil)
    · intro Gd h5 tk5 ys made ep5 z5
      refine nameG fun GG hGG => ?_
      obtain ⟨lg, rfl, rfl, hlg⟩ := z5
      refine hGG ?_; clear hGG GG
      refine ⟨rfl, ?_⟩
      rintro m3 h6 tk6 rfl F' N'
      clear F3 N3 S3
      have V' := V1.set (x := Str.ofString "grid") (v := Value.ref Gd) (l' := _) (by walk_at "m")
      clear V1
      refine hR'.next ?_
      clear hR' R'
      refine oneN ?_
      refine forG ?_ (by intro _; rfl)
      refine Call_ ?_
      k_dflt (refine' nmB ‹_› ‹_› ‹_› (by k_is) (by boot_by_name) (by decide) ?_ rfl rfl rfl (by kernel_rfl) (by kernel_rfl))
      refine PyProof.Rows.callWith_type1 ?_
      refine args_cons ?_
      refine constIntM ?_
      refine args_nil ?_
      try dsimp only [List.cons_append, List.nil_append]
      rename Fr _ _ _ _ => oldF
      rename Led _ _ _ _ => oldN
      refine rangeM oldF oldN ?_
      intro r' h' tk' t1' t2' F' N'
      clear oldF oldN
      have hlgl := hlg.len
      rw [List.length_map, List.length_range] at hlgl
      rename Fr _ _ _ _ => oldF; rename Led _ _ _ _ => oldN
      refine rangeSrcF 4 (by rfl) (by rfl) oldF oldN (by k_mem) (by decide) ?_
      intro I8 h8 F8 N8' hI8' S8
      clear oldF oldN
      obtain ⟨N8, hI8⟩ := Led.shrink (news := (Gd, listOf (txVals lg).toArray ep5) :: (txLed lg.reverse ++ (I', it) :: (d', oD) :: (L' + 1 + 1 + 1, oM) :: (L' + 1 + 1, oF2) :: (L' + 1, oB) :: (T, listOf (txVals l).toArray e2) :: (txLed l ++ txLed (duTx E)))) N8' hI8' (by walk_at "u")
      clear N8' hI8'
      refine fun px2 E2 => ⟨_, rfl, ?_⟩
      refine for_core S8 F8 N8 hI8 (fun i m news => ∃ E oD, Knows m [(Str.ofString "texts", .ref T), (Str.ofString "grid", .ref Gd)] ∧ news = (Gd, listOf (txVals lg).toArray ep5) :: (txLed lg.reverse ++ (I', it) :: (d', oD) :: (L' + 1 + 1 + 1, oM) :: (L' + 1 + 1, oF2) :: (L' + 1, oB) :: (T, listOf (txVals l).toArray e2) :: (txLed l ++ txLed (duTx E))) ∧ oD.IsDictOf (PySem.strKind PySem.Challenge.rw_oy0258_01.row.prog w) (duKv E) ∧ DuOk fss E ∧ ∀ y, y ∈ duX E ↔ y ∈ clo (fss.take k) ∨ ∃ p ∈ fours, p.1 < (i : Int) ∧ y = gij p.1 p.2 f) ?_ ?_ (fstoreL rfl rfl (by kernel_rfl)) ?_ ?_
      · refine ⟨E, oD, V', rfl, hdE, okE, fun y => (memE y).trans ⟨.inl, fun h => h.elim id fun ⟨p, hp, hlt, _⟩ => ?_⟩⟩
        have := (fours_mem hp).1
        omega
      · intro i m news _ q hq; nomatch hq
      · clear F8 N8 S8 V' hdE okE memE
        intro i v m₁ news₁ m₂ news₂ it2 h tk hi z6 z7 z8 F' N'
        refine nameG fun GG hGG => ?_
        obtain ⟨ti, rfl⟩ := z6
        obtain ⟨E, oD, V1, rfl, hdE, okE, memE⟩ := z7
        obtain ⟨rfl, rfl⟩ := z8
        refine hGG ?_; clear hGG GG
        try (with_reducible refine nameQ ?_; intro Q' hQ')
        have V' := V1.set (x := Str.ofString "i") (v := Value.int (i : Int) ti) (l' := _) (by walk_at "m")
        clear V1
        refine oneN ?_
        refine forG ?_ (by intro _; rfl)
        refine Call_ ?_
        k_dflt (refine' nmB ‹_› ‹_› ‹_› (by k_is) (by boot_by_name) (by decide) ?_ rfl rfl rfl (by kernel_rfl) (by kernel_rfl))
        refine PyProof.Rows.callWith_type1 ?_
        refine args_cons ?_
        refine constIntM ?_
        refine args_nil ?_
        try dsimp only [List.cons_append, List.nil_append]
        rename Fr _ _ _ _ => oldF
        rename Led _ _ _ _ => oldN
        refine rangeM oldF oldN ?_
        intro r' h' tk' t1' t2' F' N'
        clear oldF oldN
        obtain ⟨a, ha⟩ : ∃ a, lg[i]? = some a := ⟨_, List.getElem?_eq_getElem (by walk_at "om")⟩
        obtain ⟨b, hb⟩ : ∃ b, lg[i + 1]? = some b := ⟨_, List.getElem?_eq_getElem (by walk_at "om")⟩
        refine nameG fun GG hGG => ?_
        obtain ⟨pre, post, hsp⟩ := split_two ha hb
        obtain ⟨ra, era, hra⟩ := hlg.get ha
        obtain ⟨rb, erb, hrb⟩ := hlg.get hb
        refine hGG ?_; clear hGG GG
        rw [List.getElem?_map, List.getElem?_range (by walk_at "om")] at era erb
        cases era
        cases erb
        have eL : txLed lg.reverse = txLed post.reverse ++ ((b.T, listOf b.vs.toArray b.ep) :: (a.T, listOf a.vs.toArray a.ep) :: txLed pre.reverse) := by rw [hsp]; simp [txLed]
        have hx1 : (txVals lg).toArray[((i : Nat) : Int).toNat]? = some (Value.ref a.T) := by rw [Int.toNat_natCast, List.getElem?_toArray]; unfold txVals; rw [List.getElem?_map, ha]; rfl
        have hx2 : (txVals lg).toArray[((i : Int) + 1).toNat]? = some (Value.ref b.T) := by rw [show ((i : Int) + 1).toNat = i + 1 by omega, List.getElem?_toArray]; unfold txVals; rw [List.getElem?_map, hb]; rfl
        rename Fr _ _ _ _ => oldF; rename Led _ _ _ _ => oldN
        refine rangeSrcF 4 (by rfl) (by rfl) oldF oldN (by k_mem) (by decide) ?_
        intro I9 h9 F9 N9' hI9' S9
        clear oldF oldN
        obtain ⟨N9, hI9⟩ := Led.shrink (news := (I8, it2) :: (Gd, listOf (txVals lg).toArray ep5) :: (txLed lg.reverse ++ (I', it) :: (d', oD) :: (L' + 1 + 1 + 1, oM) :: (L' + 1 + 1, oF2) :: (L' + 1, oB) :: (T, listOf (txVals l).toArray e2) :: (txLed l ++ txLed (duTx E)))) N9' hI9' (by walk_at "u")
        clear N9' hI9'
        refine fun px3 E3 => ⟨_, rfl, ?_⟩
        refine for_core S9 F9 N9 hI9 (fun j m news => ∃ E oD, Knows m [(Str.ofString "texts", .ref T), (Str.ofString "grid", .ref Gd), (Str.ofString "i", Value.int (i : Int) ti)] ∧ news = (I8, it2) :: (Gd, listOf (txVals lg).toArray ep5) :: (txLed lg.reverse ++ (I', it) :: (d', oD) :: (L' + 1 + 1 + 1, oM) :: (L' + 1 + 1, oF2) :: (L' + 1, oB) :: (T, listOf (txVals l).toArray e2) :: (txLed l ++ txLed (duTx E))) ∧ oD.IsDictOf (PySem.strKind PySem.Challenge.rw_oy0258_01.row.prog w) (duKv E) ∧ DuOk fss E ∧ ∀ y, y ∈ duX E ↔ (y ∈ clo (fss.take k) ∨ ∃ p ∈ fours, p.1 < (i : Int) ∧ y = gij p.1 p.2 f) ∨ ∃ q : Nat, q < j ∧ y = gij (i : Int) (q : Int) f) ?_ ?_ (fstoreL rfl rfl (by kernel_rfl)) ?_ ?_
        · refine ⟨E, oD, V', rfl, hdE, okE, fun y => (memE y).trans ⟨.inl, fun h => h.elim id fun ⟨q, hq, _⟩ => absurd hq (Nat.not_lt_zero _)⟩⟩
        · intro i m news _ q hq; nomatch hq
        · clear F9 N9 S9 V' hdE okE memE
          intro j v m₁ news₁ m₂ news₂ it3 h tk hj z9 z10 z11 F' N'
          refine nameG fun GG hGG => ?_
          obtain ⟨tj, rfl⟩ := z9
          obtain ⟨E, oD, V1, rfl, hdE, okE, memE⟩ := z10
          obtain ⟨rfl, rfl⟩ := z11
          refine hGG ?_; clear hGG GG
          try (with_reducible refine nameQ ?_; intro Q' hQ')
          have V' := V1.set (x := Str.ofString "j") (v := Value.int (j : Int) tj) (l' := _) (by walk_at "m")
          clear V1
          have hp : ((i : Int), (j : Int)) ∈ fours := mem_fours (by walk_at "om") (by walk_at "om")
          have hg := hDf.g hp
          have hxc : gij (i : Int) (j : Int) f ∈ clo fss := mem_clo.mpr ⟨f, hfm, _, hp, rfl⟩
          obtain ⟨t1, hr1⟩ : ∃ t, a.vs.toArray[((j : Nat) : Int).toNat]? = some (Value.str (nmStr (gij (i : Int) (j : Int) f)) t) := by
            obtain ⟨y, t, e1, e2⟩ := strs_get hra j (a.vs[j]'(by rw [strs_len hra]; simp [rowG]; omega)) (List.getElem?_eq_getElem _)
            unfold rowG at e1
            rw [List.getElem?_map, List.getElem?_range (by walk_at "om")] at e1
            cases e1
            exact ⟨t, by rw [Int.toNat_natCast, List.getElem?_toArray, List.getElem?_eq_getElem (by rw [strs_len hra]; simp [rowG]; omega), e2]⟩
          obtain ⟨t2, hr2⟩ : ∃ t, b.vs.toArray[((j : Nat) : Int).toNat]? = some (Value.str (nmStr (s1 (gij (i : Int) (j : Int) f))) t) := by
            obtain ⟨y, t, e1, e2⟩ := strs_get hrb j (b.vs[j]'(by rw [strs_len hrb]; simp [rowG]; omega)) (List.getElem?_eq_getElem _)
            unfold rowG at e1
            rw [List.getElem?_map, List.getElem?_range (by walk_at "om")] at e1
            cases e1
            exact ⟨t, by rw [Int.toNat_natCast, List.getElem?_toArray, List.getElem?_eq_getElem (by rw [strs_len hrb]; simp [rowG]; omega), e2]; rw [hg.2.1]; rfl⟩
          obtain ⟨t3, hr3⟩ : ∃ t, a.vs.toArray[((j : Int) + 1).toNat]? = some (Value.str (nmStr (s2 (gij (i : Int) (j : Int) f))) t) := by
            obtain ⟨y, t, e1, e2⟩ := strs_get hra (j + 1) (a.vs[j + 1]'(by rw [strs_len hra]; simp [rowG]; omega)) (List.getElem?_eq_getElem _)
            unfold rowG at e1
            rw [List.getElem?_map, List.getElem?_range (by walk_at "om")] at e1
            cases e1
            exact ⟨t, by rw [show ((j : Int) + 1).toNat = j + 1 by omega, List.getElem?_toArray, List.getElem?_eq_getElem (by rw [strs_len hra]; simp [rowG]; omega), e2]; rw [hg.2.2]; rfl⟩
          have hEl : (duKv E).length ≤ 42 := by rw [duKv_len]; have := okE.len hD; omega
          rw [eL] at N'
          simp only [List.append_assoc, List.cons_append] at N'
          generalize hxe : gij (i : Int) (j : Int) f = x at *
          refine oneN ?_
          refine wpAny_Assign_Subscript ?_
          refine List_ ?_
          refine args_cons ?_
          refine Subscript_ ?_
          refine Subscript_ ?_
          refine' nmVq ‹_› ‹_› rfl (by walk_at "g") ?_ (by kernel_rfl)
          refine' nmVq ‹_› ‹_› rfl (by walk_at "g") ?_ (by kernel_rfl)
          refine' itemM (by walk_at "o") (by walk_at "om") (by walk_at "om") (by first | assumption | (simp only [Int.toNat_natCast, Int.reduceToNat, List.getElem?_toArray, List.getElem?_cons_zero, List.getElem?_cons_succ]; rfl) | rfl) ?_ (by with_unfolding_all rfl)
          refine' nmVq ‹_› ‹_› rfl (by walk_at "g") ?_ (by kernel_rfl)
          refine' itemM (by walk_at "o") (by walk_at "om") (by walk_at "om") (by first | assumption | (simp only [Int.toNat_natCast, Int.reduceToNat, List.getElem?_toArray, List.getElem?_cons_zero, List.getElem?_cons_succ]; rfl) | rfl) ?_ (by with_unfolding_all rfl)
          refine args_cons ?_
          refine Subscript_ ?_
          refine Subscript_ ?_
          refine' nmVq ‹_› ‹_› rfl (by walk_at "g") ?_ (by kernel_rfl)
          with_reducible refine wpAny_BinOp ?_
          refine' nmVq ‹_› ‹_› rfl (by walk_at "g") ?_ (by kernel_rfl)
          refine constIntM ?_
          with_reducible refine addM ?_
          refine' itemM (by walk_at "o") (by walk_at "om") (by walk_at "om") (by first | assumption | (simp only [Int.toNat_natCast, Int.reduceToNat, List.getElem?_toArray, List.getElem?_cons_zero, List.getElem?_cons_succ]; rfl) | rfl) ?_ (by with_unfolding_all rfl)
          refine' nmVq ‹_› ‹_› rfl (by walk_at "g") ?_ (by kernel_rfl)
          refine' itemM (by walk_at "o") (by walk_at "om") (by walk_at "om") (by first | assumption | (simp only [Int.toNat_natCast, Int.reduceToNat, List.getElem?_toArray, List.getElem?_cons_zero, List.getElem?_cons_succ]; rfl) | rfl) ?_ (by with_unfolding_all rfl)
          refine args_cons ?_
          refine Subscript_ ?_
          refine Subscript_ ?_
          refine' nmVq ‹_› ‹_› rfl (by walk_at "g") ?_ (by kernel_rfl)
          refine' nmVq ‹_› ‹_› rfl (by walk_at "g") ?_ (by kernel_rfl)
          refine' itemM (by walk_at "o") (by walk_at "om") (by walk_at "om") (by first | assumption | (simp only [Int.toNat_natCast, Int.reduceToNat, List.getElem?_toArray, List.getElem?_cons_zero, List.getElem?_cons_succ]; rfl) | rfl) ?_ (by with_unfolding_all rfl)
          with_reducible refine wpAny_BinOp ?_
          refine' nmVq ‹_› ‹_› rfl (by walk_at "g") ?_ (by kernel_rfl)
          refine constIntM ?_
          with_reducible refine addM ?_
          refine' itemM (by walk_at "o") (by walk_at "om") (by walk_at "om") (by first | assumption | (simp only [Int.toNat_natCast, Int.reduceToNat, List.getElem?_toArray, List.getElem?_cons_zero, List.getElem?_cons_succ]; rfl) | rfl) ?_ (by with_unfolding_all rfl)
          refine args_nil ?_
          try dsimp only [List.cons_append, List.nil_append]
          rename Fr _ _ _ _ => oldF
          rename Led _ _ _ _ => oldN
          refine newList_M oldF oldN ?_
          intro a' h' F' N'
          clear oldF oldN
          refine' nmCq ‹_› rfl (by k_mem) ‹_› ?_ (by kernel_rfl)
          refine Subscript_ ?_
          refine Subscript_ ?_
          refine' nmVq ‹_› ‹_› rfl (by walk_at "g") ?_ (by kernel_rfl)
          refine' nmVq ‹_› ‹_› rfl (by walk_at "g") ?_ (by kernel_rfl)
          refine' itemM (by walk_at "o") (by walk_at "om") (by walk_at "om") (by first | assumption | (simp only [Int.toNat_natCast, Int.reduceToNat, List.getElem?_toArray, List.getElem?_cons_zero, List.getElem?_cons_succ]; rfl) | rfl) ?_ (by with_unfolding_all rfl)
          refine' nmVq ‹_› ‹_› rfl (by walk_at "g") ?_ (by kernel_rfl)
          refine' itemM (by walk_at "o") (by walk_at "om") (by walk_at "om") (by first | assumption | (simp only [Int.toNat_natCast, Int.reduceToNat, List.getElem?_toArray, List.getElem?_cons_zero, List.getElem?_cons_succ]; rfl) | rfl) ?_ (by with_unfolding_all rfl)
          rename Fr _ _ _ _ => oldF
          rename Led _ _ _ _ => oldN
          refine' dSet (knd := PySem.strKind _ _) oldF oldN ‹_› (by (intro o'; walk_at "s")) (strKind_is _ _ _ _) (by walk_at "b") ?_
          intro h' oD' tk' F' N' hdict'
          clear oldF oldN
          with_reducible refine hQ' _ _ ?_
          clear hQ' Q'
          dsimp only
          refine nameG fun GG hGG => ?_
          obtain ⟨E2', R, okE2, kvE2, memE2, pmE2⟩ := du_store hD okE hxc ⟨a', [Value.str (nmStr x) t1, Value.str (nmStr (s1 x)) t2, Value.str (nmStr (s2 x)) t3], 0⟩ (.cons _ _ (.cons _ _ (.cons _ _ .nil)))
          refine hGG ?_; clear hGG GG
          rw [← kvE2] at hdict'
          have N3 : Led g L' h' (((I9, it3) :: (I8, it2) :: (Gd, listOf (txVals lg).toArray ep5) :: (txLed lg.reverse ++ (I', it) :: (d', oD') :: (L' + 1 + 1 + 1, oM) :: (L' + 1 + 1, oF2) :: (L' + 1, oB) :: (T, listOf (txVals l).toArray e2) :: (txLed l ++ txLed (duTx E2')))) ++ R) := by
            refine N'.perm ?_
            have e1 := Du.perm (P := (I9, it3) :: (I8, it2) :: (Gd, listOf (txVals lg).toArray ep5) :: (txLed lg.reverse ++ (I', it) :: (d', oD') :: (L' + 1 + 1 + 1, oM) :: (L' + 1 + 1, oF2) :: (L' + 1, oB) :: (T, listOf (txVals l).toArray e2) :: txLed l)) pmE2
            rw [eL] at e1 ⊢
            simpa only [List.append_assoc, List.cons_append, List.nil_append] using e1
          refine FPost.intro _ F' N3 (List.sublist_append_left _ _) ⟨E2', oD', V'.sub (by walk_at "u"), rfl, hdict', okE2, fun y => ?_⟩
          rw [memE2 y, memE y]
          constructor
          · rintro ((h | ⟨q, hq, e⟩) | e)
            · exact .inl h
            · exact .inr ⟨q, by omega, e⟩
            · exact .inr ⟨j, Nat.lt_succ_self _, by rw [e, ← hxe]⟩
          · rintro (h | ⟨q, hq, e⟩)
            · exact .inl (.inl h)
            · by_cases hqj : q = j
              · subst hqj; exact .inr (by rw [e, ← hxe])
              · exact .inl (.inr ⟨q, by omega, e⟩)
        · clear F9 N9 S9 V' hdE okE memE
          intro h' tk' m' news' F' N' z12
          refine nameG fun GG hGG => ?_
          obtain ⟨E, oD, V', rfl, hdE, okE, memE⟩ := z12
          refine hGG ?_; clear hGG GG
          with_reducible refine hQ' _ _ ?_
          clear hQ' Q'
          dsimp only
          refine FPost.intro _ F' N' (List.Sublist.refl _) ⟨E, oD, V'.sub (by walk_at "u"), rfl, hdE, okE, fun y => (memE y).trans ?_⟩
          constructor
          · rintro ((h | ⟨p, hp, hlt, e⟩) | ⟨q, hq, e⟩)
            · exact .inl h
            · exact .inr ⟨p, hp, by omega, e⟩
            · exact .inr ⟨((i : Int), (q : Int)), mem_fours (by walk_at "om") (by walk_at "om"), by show (i : Int) < _; omega, e⟩
          · rintro (h | ⟨p, hp, hlt, e⟩)
            · exact .inl (.inl h)
            · by_cases hpi : p.1 = (i : Int)
              · have h4 := (fours_mem hp).2
                exact .inr ⟨p.2.toNat, by omega, by rw [show ((p.2.toNat : Nat) : Int) = p.2 by omega, ← hpi]; exact e⟩
              · exact .inl (.inr ⟨p, hp, by omega, e⟩)
      · clear F8 N8 S8 V' hdE okE memE
        intro h' tk' m' news' F' N' z13
        refine nameG fun GG hGG => ?_
        obtain ⟨E, oD, V', rfl, hdE, okE, memE⟩ := z13
        refine hGG ?_; clear hGG GG
        with_reducible refine hQ' _ _ ?_
        clear hQ' Q'
        dsimp only
        refine FPost.intro _ F' N' (List.Sublist.cons _ (List.sublist_append_right _ _)) ⟨E, oD, oF2, _, V'.sub (by walk_at "u"), rfl, hcF2, hdE, okE, fun y => (memE y).trans ?_⟩
        rw [take_step hf]
        unfold clo
        rw [List.flatMap_append, List.mem_append]
        refine or_congr Iff.rfl ?_
        rw [List.flatMap_cons, List.flatMap_nil, List.append_nil, mem_cl]
        constructor
        · rintro ⟨p, hp, _, e⟩; exact ⟨p, hp, e⟩
        · rintro ⟨p, hp, e⟩; exact ⟨p, hp, by have := (fours_mem hp).1; omega, e⟩
  · clear F1 F2 N1 N2 S2 hcF hdict' oldV
    intro h' tk' m' news' F' N' z14
    refine nameG fun GG hGG => ?_
    obtain ⟨E, oD, oF, vF, V', rfl, hcF, hdE, okE, memE⟩ := z14
    refine hGG ?_; clear hGG GG
    rw [show (txVals l).toArray.size = fss.length by simp [txVals, hll], List.take_length] at memE
    refine hR'.next ?_
    clear hR' R'
    refine seqG ?_
    intro R' hR'
    refine wpAny_Assign_Name ?_
    have hK : KOk fss (duX E) := ⟨okE.nd, memE⟩
    have hXd : ∀ y ∈ duX E, Dom y := hK.dom hD
    have hEl : (duKv E).length ≤ 42 := by rw [duKv_len]; have := okE.len hD; omega
    have hsl : sizeLine = 16777216 := rfl
    refine' evalDC_L rfl (by decide) rfl (by decide) rfl ?_ (by (intro _; rfl))
    refine' nmCq ‹_› rfl (by k_mem) ‹_› ?_ (by kernel_rfl)
    rename Fr _ _ _ _ => oldF; rename Led _ _ _ _ => oldN
    refine keysSrc (by rfl) oldF oldN (by k_mem) hdE lo' (by walk_at "om") ?_
    intro I5 h5 F5 N5 S5
    clear oldF oldN
    refine DCAtL.mk (fun i kvs made => made = [] ∧ MoAre 0 kvs ((duX E).take i)) hT.nolimit S5 F5 N5 ⟨rfl, .nil⟩ ?_ ?_
    · intro i v C kvs made g' h tk hi hP hJ Fo Fc Nc
      clear F5 N5 S5
      refine nameG fun GG hGG => ?_
      obtain ⟨q, x, tq, hq, rfl⟩ := hP
      obtain ⟨e, he, rfl, rfl, hex⟩ := duKv_get hq
      obtain ⟨rfl, hkv⟩ := hJ
      refine hGG ?_; clear hGG GG
      have Vc : Knows _ _ := Knows.mp (l := [(Str.ofString "name", Value.str (nmStr e.x) tq)]) (by simp)
      clear V'
      simp only [List.nil_append] at Nc
      refine' nmVq ‹_› ‹_› rfl (by walk_at "g") ?_ (by kernel_rfl)
      refine constIntM ?_
      dsimp only
      refine ⟨nmStr e.x, strKind_is _ _ _ _, EPost.intro [] Fc Nc (List.Sublist.refl _) ⟨rfl, ?_⟩⟩
      rw [take_step hex]
      exact hkv.store (fun y hy => hXd y (List.mem_of_mem_take hy)) (hXd _ (List.mem_of_getElem? hex)) (take_notin hK.nd hex) _
    · rintro Dm om h' tk kvs made ⟨rfl, hkv⟩ lom hdm F' N'
      clear F5 N5 S5
      rw [duKv_len, ← duX_len, List.take_length] at hkv
      simp only [List.nil_append] at N'
      with_reducible rename Knows _ _ => oldV
      rename Fr _ _ _ _ => oldF
      rename Led _ _ _ _ => oldN
      refine' stC oldF oldN rfl (by (intro o'; walk_at "s")) ‹_› ?_ rfl (by kernel_rfl)
      intro h' oc' F' N' hcell'
      clear oldF oldN
      refine hR'.next ?_
      clear hR' R'
      refine seqG ?_
      intro R' hR'
      refine forG ?_ (by intro _; rfl)
      refine Call_ ?_
      k_dflt (refine' nmB ‹_› ‹_› ‹_› (by k_is) (by boot_by_name) (by decide) ?_ rfl rfl rfl (by kernel_rfl) (by kernel_rfl))
      refine PyProof.Rows.callWith_type1 ?_
      refine args_cons ?_
      refine constIntM ?_
      refine args_nil ?_
      try dsimp only [List.cons_append, List.nil_append]
      rename Fr _ _ _ _ => oldF
      rename Led _ _ _ _ => oldN
      refine rangeM oldF oldN ?_
      intro r' h' tk' t1' t2' F' N'
      clear oldF oldN
      rename Fr _ _ _ _ => oldF; rename Led _ _ _ _ => oldN
      refine rangeSrcF 8 (by rfl) (by rfl) oldF oldN (by k_mem) (by decide) ?_
      intro I6 h6 F6 N6' hI6' S6
      clear oldF oldN
      obtain ⟨N6, hI6⟩ := Led.shrink (news := (Dm, om) :: (d', oD) :: (L' + 1 + 1 + 1, oc') :: (L' + 1 + 1, oF) :: (L' + 1, oB) :: (T, listOf (txVals l).toArray e2) :: (txLed l ++ txLed (duTx E))) N6' hI6' (by walk_at "u")
      clear N6' hI6'
      refine fun px4 E4 => ⟨_, rfl, ?_⟩
      refine for_core S6 F6 N6 hI6 (fun t m news => ∃ Dm om kvs oMt, Knows m [(Str.ofString "texts", .ref T)] ∧ news = (Dm, om) :: (d', oD) :: (L' + 1 + 1 + 1, oMt) :: (L' + 1 + 1, oF) :: (L' + 1, oB) :: (T, listOf (txVals l).toArray e2) :: (txLed l ++ txLed (duTx E)) ∧ oMt.data = .cell (some (.ref Dm)) ∧ (Dm == sysModules) = false ∧ om.IsDictOf (PySem.strKind PySem.Challenge.rw_oy0258_01.row.prog w) kvs ∧ MoAre t kvs (duX E)) ?_ ?_ (fstoreL rfl rfl (by kernel_rfl)) ?_ ?_
      · exact ⟨Dm, om, kvs, oc', oldV.sub (by walk_at "u"), rfl, hcell', lom, hdm, hkv⟩
      · intro i m news _ q hq; nomatch hq
      ·
        clear F6 N6 S6 oldV hdm hcell' hkv lom
        intro t v m₁ news₁ m₂ news₂ it h tk ht8 z15 z16 z17 F' N'
        refine nameG fun GG hGG => ?_
        obtain ⟨tt, rfl⟩ := z15
        obtain ⟨Dm, om, kvs, oMt, V1, rfl, hcMt, lom, hdm, hkv⟩ := z16
        obtain ⟨rfl, rfl⟩ := z17
        refine hGG ?_; clear hGG GG
        try (with_reducible refine nameQ ?_; intro Q' hQ')
        have V' := V1.set (x := Str.ofString "turn") (v := Value.int (t : Int) tt) (l' := _) (by walk_at "m")
        clear V1
        have hkl := hkv.len
        refine oneN ?_
        refine wpAny_Assign_Name ?_
        refine' evalDC_C rfl (by (intro _; rfl)) (by (intro _; rfl)) rfl (by decide) rfl ?_ (by (intro _; rfl))
        refine' nmCq ‹_› rfl (by k_mem) ‹_› ?_ (by kernel_rfl)
        rename Fr _ _ _ _ => oldF; rename Led _ _ _ _ => oldN
        refine keysSrc (by rfl) oldF oldN (by k_mem) hdE lo' (by walk_at "om") ?_
        intro I7 h7 F7 N7 S7
        clear oldF oldN
        refine DCAtC.mk (fun i kvs2 made => made = [] ∧ MoAre (t + 1) kvs2 ((duX E).take i)) hT.nolimit S7 F7 N7 ⟨rfl, .nil⟩ ?_ ?_
        · intro i v C o kvs2 made g' h tk hi hP hcell hJ Fo Fc Nc
          clear F7 N7 S7
          refine nameG fun GG hGG => ?_
          obtain ⟨q, xv, tq, hq, rfl⟩ := hP
          obtain ⟨e, he, rfl, rfl, hex⟩ := duKv_get hq
          obtain ⟨rfl, hkv2⟩ := hJ
          refine hGG ?_; clear hGG GG
          have hem : e ∈ E := List.mem_of_getElem? he
          have hxm : e.x ∈ duX E := List.mem_of_getElem? hex
          have hvs := (okE.mem e hem).2
          have hval : valueAt (duKv E) (nmStr e.x) = some (.ref e.a.T) := du_at hD okE hem
          have hmemE : (e.a.T, listOf e.a.vs.toArray e.a.ep) ∈ txLed (duTx E) := List.mem_map_of_mem (f := fun x : TxA => (x.T, listOf x.vs.toArray x.ep)) (List.mem_map_of_mem (f := fun e : DuA => e.a) hem)
          have Vc : Knows _ _ := Knows.mp (l := []) (by simp)
          clear V'
          have hXc := hX.keeps Fo.keep
          have hTc := hT.keeps Fo.keep
          simp only [List.nil_append] at Nc
          refine' nmCq ‹_› rfl (by k_mem) ‹_› ?_ (by kernel_rfl)
          refine Call_ ?_
          k_dflt (refine' nmB ‹_› ‹_› ‹_› (by k_is) (by boot_by_name) (by decide) ?_ rfl rfl rfl (by kernel_rfl) (by kernel_rfl))
          refine callWith_method1 ?_
          refine args_cons ?_
          with_reducible refine wpAny_BinOp ?_
          refine List_ ?_
          refine args_cons ?_
          refine constIntM ?_
          refine args_nil ?_
          try dsimp only [List.cons_append, List.nil_append]
          rename Fr _ _ _ _ => oldF
          rename Led _ _ _ _ => oldN
          refine newList_M oldF oldN ?_
          intro a' h' F' N'
          clear oldF oldN
          refine' evalLC_L rfl (by decide) rfl (by decide) rfl ?_ (by (intro _; rfl))
          refine Subscript_ ?_
          refine' nmCq ‹_› rfl (by k_mem) ‹_› ?_ (by kernel_rfl)
          refine' nmCq ‹_› rfl (by k_mem) ‹_› ?_ (by kernel_rfl)
          refine' dItem (knd := PySem.strKind _ _) ?z9a ?z9b ?z9c (strKind_is _ _ _ _) ?z9d ?_ ?z9e ?z9f
          case z9a => assumption
          case z9c => k_mem
          case z9b => assumption
          case z9d => assumption
          case z9e => with_unfolding_all rfl
          case z9f => (intro _; with_unfolding_all rfl)
          intro _
          rename Fr _ _ _ _ => oldF; rename Led _ _ _ _ => oldN
          have hvl : e.a.vs.length = 3 := by rw [strs_len hvs]; rfl
          refine listSrc (by rfl) oldF oldN (Led.get oldN (by walk_at "a")) (by rw [List.size_toArray]; omega) ?_
          intro I9 h9 F9 N9 S9
          clear oldF oldN
          refine LCAtL.mk (fun j ys made => made = [] ∧ IntsAre ys (rks t e.x ((nds3 e.x).take j))) S9 F9 N9 ⟨rfl, .nil⟩ ?_ ?_
          · intro j v C2 ys made2 g2 h2 tk2 hj hP2 hJ2 Fo2 Fc2 Nc2
            clear F9 N9 S9
            refine nameG fun GG hGG => ?_
            obtain ⟨y, ty, hy, rfl⟩ := strs_get hvs j v (by simpa using hP2)
            refine hGG ?_; clear hGG GG
            rw [tri3_nds, List.getElem?_map] at hy
            refine nameG fun GG hGG => ?_
            obtain ⟨z, hz, rfl⟩ := Option.map_eq_some_iff.mp hy
            obtain ⟨rfl, hys⟩ := hJ2
            refine hGG ?_; clear hGG GG
            have hzm : z ∈ duX E := by
              have hm := List.mem_of_getElem? hz
              unfold nds3 at hm
              simp only [List.mem_cons, List.not_mem_nil, or_false] at hm
              rcases hm with rfl | rfl | rfl
              · exact hxm
              · exact (hK.s hD _ hxm).1
              · exact (hK.s hD _ hxm).2
            obtain ⟨tz, hzv⟩ := hkv.at hXd hzm
            have Vc2 : Knows _ _ := Knows.mp (l := [(Str.ofString "x", Value.str (nmStr z) ty)]) (by simp)
            have hXc2 := hXc.keeps Fo2.keep
            have hTc2 := hTc.keeps Fo2.keep
            clear hXc hTc Vc
            simp only [List.nil_append] at Nc2
            with_reducible refine testsOf.one ?_
            refine wpAny_isTrue_Compare1 ?_
            refine' nmVq ‹_› ‹_› rfl (by walk_at "g") ?_ (by kernel_rfl)
            refine' nmCq ‹_› rfl (by k_mem) ‹_› ?_ (by kernel_rfl)
            with_reducible refine ne_str ?_
            refine wpAny_truthy_bool ?_
            dsimp only
            by_cases hne : nmStr z = nmStr e.x
            · rw [if_neg (by simp [hne])]
              refine EPost.intro [] Fc2 Nc2 (List.Sublist.refl _) ⟨rfl, ?_⟩
              rw [take_step hz]
              unfold rks
              rw [List.filter_append, List.map_append, List.filter_cons_of_neg (by simp [hne])]
              simpa [rks] using hys
            · rw [if_pos (by simp [hne])]
              with_reducible refine wpAny_BinOp ?_
              refine constIntM ?_
              refine Subscript_ ?_
              refine' nmCq ‹_› rfl (by k_mem) ‹_› ?_ (by kernel_rfl)
              refine' nmVq ‹_› ‹_› rfl (by walk_at "g") ?_ (by kernel_rfl)
              refine' dItem (knd := PySem.strKind _ _) ‹_› ‹_› (by k_mem) (strKind_is _ _ _ _) ‹_› ?_ (by with_unfolding_all rfl) (by (intro _; with_unfolding_all rfl))
              intro _
              with_reducible refine addM ?_
              refine EPost.intro [] (by assumption) (by assumption) (by walk_at "u") ⟨rfl, ?_⟩
              rw [take_step hz]
              unfold rks
              rw [List.filter_append, List.map_append, List.filter_cons_of_pos (by simp [hne])]
              exact ints_snoc hys _ _
          · rintro D2 h3 tk3 ys3 made3 ep3 ⟨rfl, hys3⟩ F' N'
            clear F9 N9 S9
            rw [show e.a.vs.toArray.size = (nds3 e.x).length by simp [hvl, nds3], List.take_length] at hys3
            have hyl : ys3.length ≤ 3 := by rw [hys3.length]; unfold rks; rw [List.length_map]; exact Nat.le_trans (List.length_filter_le _ _) (Nat.le_refl _)
            rename Fr _ _ _ _ => oldF
            rename Led _ _ _ _ => oldN
            refine' addLM oldF oldN (by walk_at "o") (by walk_at "o") (by walk_at "b") ?_
            intro a' h' F' N'
            clear oldF oldN
            refine args_nil ?_
            try dsimp only [List.cons_append, List.nil_append]
            have hmx := rks_max hD hK (t := t) hxm
            rename Fr _ _ _ _ => oldF; rename Led _ _ _ _ => oldN
            refine maxM (((mst (t + 1) e.x : Nat) : Int)) (by rfl) oldF oldN (Led.get oldN (by k_mem)) (ints_app (.cons _ _ .nil) hys3) hmx.1 hmx.2 ?_
            intro h' tM tk' F' N'
            clear oldF oldN
            refine ⟨nmStr e.x, strKind_is _ _ _ _, EPost.intro [] F' N' (by walk_at "u") ⟨rfl, ?_⟩⟩
            rw [take_step hex]
            exact hkv2.store (fun y hy => hXd y (List.mem_of_mem_take hy)) (hXd _ hxm) (take_notin hK.nd hex) _
        · rintro Dm2 om2 h' tk' kvs2 made ⟨rfl, hkv2⟩ lom2 hdm2 F' N'
          clear F7 N7 S7
          rw [duKv_len, ← duX_len, List.take_length] at hkv2
          simp only [List.nil_append] at N'
          with_reducible rename Knows _ _ => oldV
          rename Fr _ _ _ _ => oldF
          rename Led _ _ _ _ => oldN
          refine' stC oldF oldN rfl (by (intro o'; walk_at "s")) ‹_› ?_ rfl (by kernel_rfl)
          intro h' oc' F' N' hcell'
          clear oldF oldN
          with_reducible refine hQ' _ _ ?_
          clear hQ' Q'
          dsimp only
          refine FPost.intro ((Dm2, om2) :: (d', oD) :: (L' + 1 + 1 + 1, oc') :: (L' + 1 + 1, oF) :: (L' + 1, oB) :: (T, listOf (txVals l).toArray e2) :: (txLed l ++ txLed (duTx E))) F' (Led.perm N' (List.Perm.swap _ _ _)) (by walk_at "u") ⟨Dm2, om2, kvs2, oc', oldV.sub (by walk_at "u"), rfl, hcell', lom2, hdm2, hkv2⟩
      · clear F6 N6 S6 oldV hdm hcell' hkv lom
        intro h' tk' m' news' F' N' z18
        refine nameG fun GG hGG => ?_
        obtain ⟨Dm, om, kvs, oMt, V', rfl, hcMt, lom, hdm, hkv⟩ := z18
        refine hGG ?_; clear hGG GG
        refine hR'.next ?_
        clear hR' R'
        refine seqG ?_
        intro R' hR'
        have hkl := hkv.len
        refine' asgLC_C rfl rfl (by (intro _; rfl)) (by (intro _; rfl)) rfl (by decide) rfl rfl rfl ?_ (by (intro _; rfl))
        refine Call_ ?_
        k_dflt (refine' nmB ‹_› ‹_› ‹_› (by k_is) (by boot_by_name) (by decide) ?_ rfl rfl rfl (by kernel_rfl) (by kernel_rfl))
        refine PyProof.Rows.callWith_type1 ?_
        refine args_cons ?_
        refine constIntM ?_
        refine args_nil ?_
        try dsimp only [List.cons_append, List.nil_append]
        rename Fr _ _ _ _ => oldF
        rename Led _ _ _ _ => oldN
        refine rangeM oldF oldN ?_
        intro r' h' tk' t1' t2' F' N'
        clear oldF oldN
        rename Fr _ _ _ _ => oldF; rename Led _ _ _ _ => oldN
        refine rangeSrc 8 (by rfl) (by rfl) oldF oldN (by k_mem) (by decide) ?_
        intro I7 h7 F7 N7 S7
        clear oldF oldN
        refine LCAtC.mk (fun r ys made => ∃ lr rr, made = txLed lr.reverse ∧ ys = txVals lr ∧ NmAre lr rr ∧ rr.length = r ∧ ∀ (k : Nat) (s : List Str), rr[k]? = some s → s.Perm (((duX E).filter fun x => decide (mst 8 x = k)).map nmStr) ∧ sortedS s = true) S7 F7 N7 ⟨[], [], rfl, rfl, .nil, rfl, fun k s h => by simp at h⟩ ?_ ?_
        · intro r v C o ys made g' h tk hr8 hP hcell hJ Fo Fc Nc
          clear F7 N7 S7
          refine nameG fun GG hGG => ?_
          obtain ⟨tr, rfl⟩ := hP
          obtain ⟨lr, rr, rfl, rfl, hlr, hrl, hrs⟩ := hJ
          refine hGG ?_; clear hGG GG
          have Vc : Knows _ _ := Knows.mp (l := []) (by simp)
          have hXc := hX.keeps Fo.keep
          have hTc := hT.keeps Fo.keep
          with_reducible refine testsOf.nil ?_
          rw [if_pos rfl]
          refine Call_ ?_
          k_dflt (refine' nmB ‹_› ‹_› ‹_› (by k_is) (by boot_by_name) (by decide) ?_ rfl rfl rfl (by kernel_rfl) (by kernel_rfl))
          refine callWith_method1 ?_
          refine args_cons ?_
          dsimp only
          refine' evalLC_L rfl (by decide) rfl (by decide) rfl ?_ (by (intro _; rfl))
          refine' nmCq ‹_› rfl (by k_mem) ‹_› ?_ (by kernel_rfl)
          rename Fr _ _ _ _ => oldF; rename Led _ _ _ _ => oldN
          refine keysSrc (by rfl) oldF oldN (by k_mem) hdE lo' (by walk_at "om") ?_
          intro I8 h8 F8 N8 S8
          clear oldF oldN
          refine LCAtL.mk (fun i ys made => made = [] ∧ StrsAre ys ((((duX E).take i).filter fun x => decide (mst 8 x = r)).map nmStr)) S8 F8 N8 ⟨rfl, .nil⟩ ?_ ?_
          · intro i v C2 ys2 made2 g2 h2 tk2 hi hP2 hJ2 Fo2 Fc2 Nc2
            clear F8 N8 S8
            refine nameG fun GG hGG => ?_
            obtain ⟨q, xv, tq, hq, rfl⟩ := hP2
            obtain ⟨e, he, rfl, rfl, hex⟩ := duKv_get hq
            obtain ⟨rfl, hys⟩ := hJ2
            refine hGG ?_; clear hGG GG
            have hxm : e.x ∈ duX E := List.mem_of_getElem? hex
            obtain ⟨tz, hzv⟩ := hkv.at hXd hxm
            have Vc2 : Knows _ _ := Knows.mp (l := [(Str.ofString "name", Value.str (nmStr e.x) tq)]) (by simp)
            have hXc2 := hXc.keeps Fo2.keep
            have hTc2 := hTc.keeps Fo2.keep
            clear hXc hTc Vc
            simp only [List.nil_append] at Nc2
            with_reducible refine testsOf.one ?_
            refine wpAny_isTrue_Compare1 ?_
            refine Subscript_ ?_
            refine' nmCq ‹_› rfl (by k_mem) ‹_› ?_ (by kernel_rfl)
            refine' nmVq ‹_› ‹_› rfl (by walk_at "g") ?_ (by kernel_rfl)
            refine' dItem (knd := PySem.strKind _ _) ‹_› ‹_› (by k_mem) (strKind_is _ _ _ _) ‹_› ?_ (by with_unfolding_all rfl) (by (intro _; with_unfolding_all rfl))
            intro _
            refine' nmCq ‹_› rfl (by k_mem) ‹_› ?_ (by kernel_rfl)
            with_reducible refine eq_int ?_
            refine wpAny_truthy_bool ?_
            focus
             refine split_bool ?_ ?_ <;> intro hb <;> (first | (have := eq_of_beq hb; clear hb) | (have := ne_of_beq_false hb; clear hb))
             refine' nmVq ‹_› ‹_› rfl (by walk_at "g") ?_ (by kernel_rfl)
             dsimp only
             rotate_left
             dsimp only
             rotate_left
            all_goals (refine EPost.intro [] (by assumption) (by assumption) (List.Sublist.refl _) ⟨rfl, ?_⟩; rw [take_step hex, List.filter_append, List.map_append])
            · rw [List.filter_cons_of_pos (by simp; omega)]; exact strs_snoc hys _ _
            · rw [List.filter_cons_of_neg (by simp; omega)]; simpa using hys
          · rintro D2 h3 tk3 ys3 made3 ep3 ⟨rfl, hys3⟩ F' N'
            clear F8 N8 S8
            rw [duKv_len, ← duX_len, List.take_length] at hys3
            have hyl : ys3.length ≤ 42 := by
              rw [strs_len hys3, List.length_map]
              refine Nat.le_trans (List.length_filter_le _ _) ?_
              rw [duX_len, ← duKv_len]; exact hEl
            refine args_nil ?_
            try dsimp only [List.cons_append, List.nil_append]
            rename Fr _ _ _ _ => oldF; rename Led _ _ _ _ => oldN
            refine sortedSeqM (.inl rfl) oldF oldN (Led.get oldN (by k_mem)) rfl rfl (by walk_at "om") ?_
            intro B h' F' N'
            clear oldF oldN
            refine sortStrsM F' N' hys3 (by walk_at "om") ?_
            intro h' vs' ss' e F2' N2' hs' hp' hso'
            refine EPost.intro ((B, listOf vs'.toArray e) :: txLed lr.reverse) F2' N2' (by walk_at "u") ⟨lr ++ [⟨B, vs', e⟩], rr ++ [ss'], by simp [txLed], by simp [txVals], hlr.app (.cons hs' .nil), by simp [hrl], fun k s h => ?_⟩
            rcases Nat.lt_trichotomy k rr.length with h1 | h1 | h1
            · rw [List.getElem?_append_left h1] at h; exact hrs k s h
            · subst h1
              simp at h
              subst h
              rw [hrl]
              exact ⟨hp', hso'⟩
            · rw [List.getElem?_eq_none (by simp; omega)] at h; cases h
        · intro Rd h5 tk5 ys made ep5 z19
          refine nameG fun GG hGG => ?_
          obtain ⟨lr, rr, rfl, rfl, hlr, hrl, hrs⟩ := z19
          refine hGG ?_; clear hGG GG
          refine ⟨rfl, ?_⟩
          rintro m3 h6 tk6 rfl F' N'
          clear F7 N7 S7
          have V2 := V'.set (x := Str.ofString "rounds") (v := Value.ref Rd) (l' := _) (by walk_at "m")
          clear V'
          have hlrl := hlr.len
          refine hR'.next ?_
          clear hR' R'
          refine oneN ?_
          refine wpAny_Return_some ?_
          refine List_ ?_
          refine args_cons ?_
          refine Call_ ?_
          k_dflt (refine' nmB ‹_› ‹_› ‹_› (by k_is) (by boot_by_name) (by decide) ?_ rfl rfl rfl (by kernel_rfl) (by kernel_rfl))
          refine callWith_method1 ?_
          refine args_cons ?_
          refine MethodCall_ ?_
          refine' nmCq ‹_› rfl (by k_mem) ‹_› ?_ (by kernel_rfl)
          refine' valuesGetM ‹_› (by k_mem) ‹_› ?_
          refine callWith_method0 ?_
          rename Fr _ _ _ _ => oldF
          rename Led _ _ _ _ => oldN
          refine' valuesM oldF oldN (by k_mem) ‹_› ‹_› ?_
          intro v' h' F' N'
          clear oldF oldN
          refine args_nil ?_
          try dsimp only [List.cons_append, List.nil_append]
          rename Fr _ _ _ _ => oldF; rename Led _ _ _ _ => oldN
          refine sortedValsM (by rfl) oldF oldN (by k_mem) (by k_mem) hdE (by walk_at "om") ?_
          intro B h' tk' F' N'
          clear oldF oldN
          rw [duKv_vals] at N'
          have hnm := NmAre.of_du okE.mem
          refine nameG fun GG hGG => ?_
          obtain ⟨a0, ha0, b0, hb0, hab⟩ := h2
          refine hGG ?_; clear hGG GG
          have two : 2 ≤ (duX E).length := two_len ((hK.mem _).mpr (mem_clo.mpr ⟨a0, ha0, (0, 0), by decide, ((hD a0 ha0).zero).symm⟩)) ((hK.mem _).mpr (mem_clo.mpr ⟨b0, hb0, (0, 0), by decide, ((hD b0 hb0).zero).symm⟩)) hab
          have hdl : (duTx E).length = (duX E).length := by simp [duTx, duX]
          have hXl : (duX E).length ≤ 42 := by rw [duX_len, ← duKv_len]; exact hEl
          refine sortListsM (by (simp only [units_deeper] at *; (try dsimp only [topA] at *); omega)) F' N' hnm ?_ (by walk_at "om") (by walk_at "om") (hK.tris hD) ?_
          · intro q hq
            walk_at "a"
          · intro h' l' rows' e F2' N2' hl' hpl hpr hup
            clear F' N'
            refine args_cons ?_
            refine' evalLC_L rfl (by decide) rfl (by decide) rfl ?_ (by (intro _; rfl))
            refine' nmVq ‹_› ‹_› rfl (by walk_at "g") ?_ (by kernel_rfl)
            rename Fr _ _ _ _ => oldF; rename Led _ _ _ _ => oldN
            refine listSrc (by rfl) oldF oldN (Led.get oldN (by k_mem)) (by simp [txVals]; omega) ?_
            intro I9 h9 F9 N9 S9
            clear oldF oldN
            refine LCAtL.mk (fun i ys made => made = [] ∧ ys = txVals ((lr.take i).filter fun a => !a.vs.isEmpty)) S9 F9 N9 ⟨rfl, rfl⟩ ?_ ?_
            · intro i v C2 ys made2 g2 h2 tk2 hi hP2 hJ2 Fo2 Fc2 Nc2
              clear F9 N9 S9 V2
              refine nameG fun GG hGG => ?_
              obtain ⟨a, ha, rfl⟩ := txVals_at hP2
              obtain ⟨rfl, rfl⟩ := hJ2
              refine hGG ?_; clear hGG GG
              have hma : (a.T, listOf a.vs.toArray a.ep) ∈ txLed lr.reverse := List.mem_map_of_mem (f := fun x : TxA => (x.T, listOf x.vs.toArray x.ep)) (List.mem_reverse.mpr (List.mem_of_getElem? ha))
              have Vc2 : Knows _ _ := Knows.mp (l := [(Str.ofString "x", Value.ref a.T)]) (by simp)
              have hXc2 := hX.keeps Fo2.keep
              have hTc2 := hT.keeps Fo2.keep
              simp only [List.nil_append] at Nc2
              with_reducible refine testsOf.one ?_
              refine wpAny_isTrue_Compare1 ?_
              refine' nmVq ‹_› ‹_› rfl (by walk_at "g") ?_ (by kernel_rfl)
              refine List_ ?_
              refine args_nil ?_
              try dsimp only [List.cons_append, List.nil_append]
              rename Fr _ _ _ _ => oldF
              rename Led _ _ _ _ => oldN
              refine newList_M oldF oldN ?_
              intro a' h' F' N'
              clear oldF oldN
              refine' neNilM (by (simp only [units_deeper] at *; (try dsimp only [topA] at *); omega)) (by walk_at "o") (by walk_at "o") ?_
              refine wpAny_truthy_bool ?_
              by_cases hne : a.vs.isEmpty = true
              · rw [if_neg (by simp [hne])]
                refine EPost.intro [] (by assumption) (by assumption) (by walk_at "u") ⟨rfl, ?_⟩
                rw [take_step ha, List.filter_append, List.filter_cons_of_neg (by simp [hne])]
                simp [txVals]
              · rw [if_pos (by simpa using hne)]
                refine' nmVq ‹_› ‹_› rfl (by walk_at "g") ?_ (by kernel_rfl)
                refine EPost.intro [] (by assumption) (by assumption) (by walk_at "u") ⟨rfl, ?_⟩
                rw [take_step ha, List.filter_append, List.filter_cons_of_pos (by simpa using hne)]
                simp [txVals]
            · rintro D2 h3 tk3 ys3 made3 ep3 ⟨rfl, rfl⟩ F' N'
              clear F9 N9 S9
              rw [show (txVals lr).toArray.size = lr.length by simp [txVals], List.take_length] at N'
              simp only [List.nil_append] at N'
              refine args_nil ?_
              try dsimp only [List.cons_append, List.nil_append]
              rename Fr _ _ _ _ => oldF
              rename Led _ _ _ _ => oldN
              refine newList_M oldF oldN ?_
              intro a' h' F' N'
              clear oldF oldN
              refine hret _ _ _ _ ⟨rows', _, spec_due hD hK hrl hrs hup hpr, shows_out (.head _) (by k_mem) (by k_mem) hl' hlr.nonempty (fun q hq => ?_) (fun q hq => ?_)⟩ (sepOf F' N' (List.Sublist.refl _))
              · have hq2 : q ∈ txLed (duTx E) := (hpl.map (fun x : TxA => (x.T, listOf x.vs.toArray x.ep))).mem_iff.mp hq
                walk_at "a"
              · have hq2 : q ∈ txLed lr.reverse := by
                  obtain ⟨a, ha, rfl⟩ := List.mem_map.mp hq
                  exact List.mem_map_of_mem (f := fun x : TxA => (x.T, listOf x.vs.toArray x.ep)) (List.mem_reverse.mpr (List.mem_filter.mp ha).1)
                walk_at "a"
end
end
section
open PySem PySem.W PySem.Calls PyProof.Rows PySem.Builtin
theorem utf8_low {b : Array UInt8} {p : Nat} (h : (b.getD p 0).toNat < 128) : Bytes.utf8At b p = (.char (b.getD p 0).toNat, p + 1) := by
  unfold Bytes.utf8At
  dsimp only
  rw [if_pos h]
theorem find_low {b : Array UInt8} {p : Nat} (h : (b.getD p 0).toNat < 128) : _codecs.utf8Decoder.find true b p = .char (b.getD p 0).toNat (p + 1) := by
  unfold _codecs.utf8Decoder
  dsimp only
  rw [utf8_low h]
theorem dec4 (id : String) (a b c d : UInt8) (ha : a.toNat < 128) (hb : b.toNat < 128) (hc : c.toNat < 128) (hd : d.toNat < 128) :
   _codecs.runDecoder id _codecs.utf8Decoder none true (a :: [b, c, d]).toArray 0 [] = pure (#[a.toNat, b.toNat, c.toNat, d.toNat], 4) := by
  unfold _codecs.runDecoder
  dsimp only
  rw [Std.Legacy.Range.forIn_eq_forIn_range']
  have e0 : _codecs.utf8Decoder.find true (a :: [b, c, d]).toArray 0 = .text [a.toNat] 1 := find_low ha
  have e1 : _codecs.utf8Decoder.find true (a :: [b, c, d]).toArray 1 = .text [b.toNat] 2 := find_low hb
  have e2 : _codecs.utf8Decoder.find true (a :: [b, c, d]).toArray 2 = .text [c.toNat] 3 := find_low hc
  have e3 : _codecs.utf8Decoder.find true (a :: [b, c, d]).toArray 3 = .text [d.toNat] 4 := find_low hd
  have hr : List.range' 0 ([:(a :: [b, c, d]).toArray.size] : Std.Legacy.Range).size 1 = [0, 1, 2, 3] := by simp [Std.Legacy.Range.size, List.range']
  show (forIn (List.range' 0 ([:(a :: [b, c, d]).toArray.size] : Std.Legacy.Range).size 1) _ _ >>= _) = _
  rw [hr]
  have z0 : ¬ (#[] : Array Nat).size > sizeLine := by decide
  have p0 : ¬ (0 ≥ (a :: [b, c, d]).toArray.size) := by simp
  have p1 : ¬ (1 ≥ (a :: [b, c, d]).toArray.size) := by simp
  have p2 : ¬ (2 ≥ (a :: [b, c, d]).toArray.size) := by simp
  have p3 : ¬ (3 ≥ (a :: [b, c, d]).toArray.size) := by simp
  have hsl : ∀ k : Nat, k ≤ 4 → ¬ k > sizeLine := fun k hk => by have : sizeLine = 16777216 := rfl; lia
  have z1 : ¬ (#[] ++ [a.toNat].toArray).size > sizeLine := by have := hsl 1 (by lia); simpa using this
  have z2 : ¬ (#[] ++ [a.toNat].toArray ++ [b.toNat].toArray).size > sizeLine := by have := hsl 2 (by lia); simpa using this
  have z3 : ¬ (#[] ++ [a.toNat].toArray ++ [b.toNat].toArray ++ [c.toNat].toArray).size > sizeLine := by have := hsl 3 (by lia); simpa using this
  rw [List.forIn_cons, if_neg z0, if_neg p0, e0]
  simp only [pure_bind]
  rw [List.forIn_cons, if_neg z1, if_neg p1, e1]
  simp only [pure_bind]
  rw [List.forIn_cons, if_neg z2, if_neg p2, e2]
  simp only [pure_bind]
  rw [List.forIn_cons, if_neg z3, if_neg p3, e3]
  simp only [pure_bind]
  rw [List.forIn_nil]
  rfl

section
variable {M : Model} {A : Around} {E : Value → Shared → Prop} {s : Shared} {env : Env} {K : Frag}
theorem StarCall_ {o : PySem.Expr} {name : Str} {apos pos : Pos} {args : List PySem.Expr} {Q : Value → Shared → Prop}
    (h : wpAny M A (eval o env) (fun ov s₁ => wpAny M A (getAttr ov name true) (fun f s₂ => wpAny M A (callWith pos f [] (backTo pos (starEach args env)) []) Q E s₂) E s₁) E s)
    (he : eval (.Call (.Attribute o name apos) args [] pos) env = (do
      let ov ← eval o env
      standAt apos.atName
      let f ← holding [ov] (do pure (← getAttr ov name true, []))
      callWith pos f.1 f.2 (backTo pos (starEach args env)) []) := by rfl) :
    wpAny M A (eval (.Call (.Attribute o name apos) args [] pos) env) Q E s := by
  rw [he]
  exact wpAny_bind (wpAny_mono h (fun ov s₁ h₁ => wpAny_bind (wpAny_standAt (wpAny_bind (wpAny_holding (wpAny_bind (wpAny_mono h₁ (fun f s₂ h₂ => wpAny_pure h₂) fun _ _ x => x)))))) fun _ _ x => x)
theorem starCall1 {e : PySem.Expr} {p pos : Pos} {q g : Addr} {self : Value} {Q : Value → Shared → Prop} (hf : fnIn K g = true)
    (h : wpAny M A (eval e env) (fun v s₁ => StarOf M A E v (fun vs s₂ => MethP K q g self s₂.heap ∧ wpAny M A (call (.ref q) vs) Q E s₂) s₁) E s)
    (he : starEach [.Starred e p] env = [(true, eval e env)] := by rfl) : wpAny M A (callWith pos (.ref q) [] (backTo pos (starEach [.Starred e p] env)) []) Q E s := by
  rw [he]
  exact ks_call rfl (keeps_M hf) (ks_lone h)
theorem starCall2 {e₁ e : PySem.Expr} {p pos : Pos} {q g : Addr} {self : Value} {Q : Value → Shared → Prop} (hf : fnIn K g = true)
    (h : wpAny M A (eval e₁ env) (fun v₁ s₁ => wpAny M A (eval e env) (fun v s₂ => StarOf M A E v (fun vs s₃ => MethP K q g self s₃.heap ∧ wpAny M A (call (.ref q) (v₁ :: vs)) Q E s₃) s₂) E s₁) E s)
    (he : starEach [e₁, .Starred e p] env = [(false, eval e₁ env), (true, eval e env)] := by rfl) : wpAny M A (callWith pos (.ref q) [] (backTo pos (starEach [e₁, .Starred e p] env)) []) Q E s := by
  rw [he]
  refine ks_call (P := MethP K q g self) rfl (keeps_M hf) (evalArgs_plain ?_)
  refine Calls.spliced_cons (wpAny_mono h (fun v₁ s₁ h₁ => ?_) fun _ _ x => x)
  refine ks_spliced (wpAny_mono h₁ (fun v s₂ h₂ => ?_) fun _ _ x => x)
  unfold StarOf at h₂ ⊢
  refine wpAny_mono h₂ (fun b s₃ h₃ => ⟨h₃.1, wpAny_mono h₃.2 (fun vs s₄ h₄ => Calls.spliced_nil ?_) fun _ _ x => x⟩) fun _ _ x => x
  rw [List.append_nil]
  exact h₄
end
section
variable {w : World} {loose : List Str} {mean : ExcName → Option Value} {mg mb : Str → Option Value}
theorem PureFn.useE {k : Nat} {f : Addr} {pos : List Value} {kw : List (Str × Value)} {pre : Heap → Prop} {ok : Value → Heap → Prop}
    (C : PureFn w loose mean mg mb k f pos kw pre ok) {dp un : Nat} {gd : Option (List Code)} {outer : List Env} {base h₀ : Heap} {L : Addr} {m : Str → Option Value} {news : List (Addr × Obj)} {hh : Heap} {g : Array GenState} {dr : Drawn} {tk₀ : Nat} {os : OsState} {Q E : Value → Shared → Prop} {env : Env}
    (B : Below (topA dp un gd outer) base outer h₀) (F : Fr h₀ L hh m) (X : (hd.heap_39 w.params).In h₀) (T : Top hd.view_39 loose mean mg mb h₀) (N : Led h₀ L hh news)
    (hd : dp + (k + 1) < recursionLimit) (hu : un + 8 * (k + 1) < cLine) (hp : pre hh)
    (h : ∀ (v : Value) (h' : Heap) (tk' : Nat), ok v h' → Fr h₀ L h' m → Led h₀ L h' news → Q v ⟨h', g, dr, tk', os⟩)
    (hf : env.frame = some L) (hck : env.scope.kind = .function) :
    wpAny (model PySem.Challenge.rw_oy0258_01.row.prog w) ((topA dp un gd outer).deeper env) (call (.ref f) pos kw) Q E ⟨hh, g, dr, tk₀, os⟩ :=
  C (dp + 1) (un + 3) gd (env :: outer) base ⟨hh, g, dr, tk₀, os⟩ Q E (pushX B F hf hck) (X.keeps F.keep) (T.keeps F.keep) (by lia) (by lia) hp
    fun v h' tk' o kp => h v h' tk' o (keepFr F kp) (keepLed N kp)
end
structure WkOk (fss lf K : List (List Int)) : Prop where
  nd : K.Nodup
  kin : ∀ y ∈ K, y ∈ clo fss
  lin : ∀ y ∈ lf, y ∈ clo fss
  tin : ∀ f ∈ fss, f ∈ K ∨ f ∈ lf
  hin : ∀ y ∈ K, (s1 y ∈ K ∨ s1 y ∈ lf) ∧ (s2 y ∈ K ∨ s2 y ∈ lf)
theorem WkOk.start {fss : List (List Int)} (hd : ∀ f ∈ fss, Dom f) : WkOk fss fss [] := by
  refine ⟨List.nodup_nil, fun _ h => (nomatch h), fun y hy => ?_, fun f h => .inr h, fun _ h => (nomatch h)⟩
  exact mem_clo.mpr ⟨y, hy, (0, 0), by decide, ((hd y hy).zero).symm⟩
theorem WkOk.skip {fss lf K : List (List Int)} {x : List Int} (W : WkOk fss (x :: lf) K) (hx : x ∈ K) : WkOk fss lf K := by
  have key : ∀ z, z ∈ K ∨ z ∈ x :: lf → z ∈ K ∨ z ∈ lf := fun z h => h.elim .inl fun h => (List.mem_cons.mp h).elim (fun e => .inl (e ▸ hx)) .inr
  exact ⟨W.nd, W.kin, fun y hy => W.lin y (.tail _ hy), fun f hf => key f (W.tin f hf), fun y hy => ⟨key _ (W.hin y hy).1, key _ (W.hin y hy).2⟩⟩
theorem WkOk.take {fss lf K : List (List Int)} {x : List Int} (hd : ∀ f ∈ fss, Dom f) (W : WkOk fss (x :: lf) K) (hx : x ∉ K) : WkOk fss (lf ++ [s1 x, s2 x]) (K ++ [x]) := by
  have hxc := W.lin x (.head _)
  have key : ∀ z, z ∈ K ∨ z ∈ x :: lf → z ∈ K ++ [x] ∨ z ∈ lf ++ [s1 x, s2 x] := fun z h => by
    rcases h with h | h
    · exact .inl (List.mem_append_left _ h)
    · rcases List.mem_cons.mp h with rfl | h
      · exact .inl (List.mem_append_right _ (.head _))
      · exact .inr (List.mem_append_left _ h)
  refine ⟨?_, fun y hy => ?_, fun y hy => ?_, fun f hf => key f (W.tin f hf), fun y hy => ?_⟩
  · rw [List.nodup_append]
    refine ⟨W.nd, by simp, fun a ha b hb e => ?_⟩
    rw [List.mem_singleton.mp hb] at e
    exact hx (e ▸ ha)
  · rcases List.mem_append.mp hy with h | h
    · exact W.kin y h
    · rw [List.mem_singleton.mp h]; exact hxc
  · rcases List.mem_append.mp hy with h | h
    · exact W.lin y (.tail _ h)
    · have := clo_s hd hxc
      simp only [List.mem_cons, List.not_mem_nil, or_false] at h
      rcases h with rfl | rfl
      · exact this.1
      · exact this.2
  · rcases List.mem_append.mp hy with h | h
    · exact ⟨key _ (W.hin y h).1, key _ (W.hin y h).2⟩
    · rw [List.mem_singleton.mp h]
      exact ⟨.inr (List.mem_append_right _ (.head _)), .inr (List.mem_append_right _ (.tail _ (.head _)))⟩
theorem WkOk.done {fss K : List (List Int)} (hd : ∀ f ∈ fss, Dom f) (W : WkOk fss [] K) : KOk fss K :=
  KOk.of hd W.nd W.kin (fun f hf => (W.tin f hf).elim id fun h => (nomatch h)) fun y hy => ⟨(W.hin y hy).1.elim id fun h => (nomatch h), (W.hin y hy).2.elim id fun h => (nomatch h)⟩
theorem WkOk.len {fss lf K : List (List Int)} (hd : ∀ f ∈ fss, Dom f) (W : WkOk fss lf K) : K.length ≤ 7 * fss.length := Nat.le_trans (nodup_sub W.nd W.kin) (clo_len hd)
end
section
open PySem PySem.W PySem.Calls PyProof.Rows
theorem BysAre.none {vs : List Value} (h : BysAre vs []) : vs = [] := by cases h; rfl
theorem BysAre.inv {vs : List Value} {c : List Int} {cs : List (List Int)} (h : BysAre vs (c :: cs)) : ∃ b t r, vs = .bytes b t :: r ∧ KBw.bInts b = c ∧ BysAre r cs := by
  cases h with
  | cons b t h => exact ⟨b, t, _, rfl, rfl, h⟩
theorem StrsAre.none {vs : List Value} (h : StrsAre vs []) : vs = [] := by cases h; rfl
theorem StrsAre.inv {vs : List Value} {y : Str} {ys : List Str} (h : StrsAre vs (y :: ys)) : ∃ t r, vs = .str y t :: r ∧ StrsAre r ys := by
  cases h with
  | cons y t h => exact ⟨t, _, rfl, h⟩
theorem mid_perm {α : Type} (a m r : List α) : (a ++ (m ++ r)).Perm (m ++ (a ++ r)) := by
  rw [← List.append_assoc, ← List.append_assoc]
  exact List.perm_append_comm.append_right r
theorem sgn_low (i : Int) : 0 ≤ sgn i ∧ sgn i < 128 := by
  unfold sgn
  by_cases h : i.toNat < b64ks.length
  · rw [List.getD_eq_getElem?_getD, List.getElem?_eq_getElem h]
    exact (by decide : ∀ k ∈ b64ks, 0 ≤ k ∧ k < 128) _ (List.getElem_mem h)
  · rw [List.getD_eq_getElem?_getD, List.getElem?_eq_none (by lia)]
    decide
section
variable (w : World) (loose : List Str) (mean : ExcName → Option Value) (mg mb : Str → Option Value)
theorem c_encN (b : Array UInt8) (t : Tok) (fs : List Int) (hf : Four fs) (hb : KBw.bInts b = packL fs) :
   PureFn w loose mean mg mb 3 123 [.bytes b t] [] (fun _ => True) (fun v _ => ∃ c u, v = .bytes c u ∧ KBw.bInts c = fs.map sgn) := by
  refine nameG fun GG hGG => ?_
  obtain ⟨a, b', c, d, rfl, ha, hb', hc, hd⟩ := hf.cases
  refine hGG ?_; clear hGG GG
  unfold Fig at *
  refine (c_enc0 w loose mean mg mb b _ _ _ t ?_ ?_ ?_ hb).imp fun v _ hv => ?_
  · omega
  · omega
  · omega
  · refine nameG fun GG hGG => ?_
    obtain ⟨c2, u2, e, h2⟩ := hv
    refine hGG ?_; clear hGG GG
    refine ⟨c2, u2, e, ?_⟩
    rw [h2]
    simp only [List.map_cons, List.map_nil]
    congr 1; · congr 1; omega
    congr 1; · congr 1; omega
    congr 1; · congr 1; omega
    congr 1; · congr 1; omega
end
section
variable {prog : Program} {w : World} {A : Around} {hh : Heap} {E : Value → Shared → Prop} {gs : Array GenState} {dr : Drawn} {os : OsState} {tk₀ : Nat}
theorem decodeM {c : Array UInt8} {t : Tok} {fs : List Int} {Q : Value → Shared → Prop} (hf : Four fs) (hc : KBw.bInts c = fs.map sgn) (h : ∀ t' tk, Q (.str (nmStr fs) t') ⟨hh, gs, dr, tk, os⟩) :
    wpAny (model prog w) A (call (.builtin "bytes.decode") [.bytes c t]) Q E ⟨hh, gs, dr, tk₀, os⟩ := by
  refine nameG fun GG hGG => ?_
  obtain ⟨x, y, z, u, rfl, hx, hy, hz, hu⟩ := hf.cases
  obtain ⟨l⟩ := c
  refine hGG ?_; clear hGG GG
  match l, hc with
  | [a, b, c, d], hc =>
    have hc' : [(a.toNat : Int), b.toNat, c.toNat, d.toNat] = [sgn x, sgn y, sgn z, sgn u] := hc
    simp only [List.cons.injEq, and_true] at hc'
    refine nameG fun GG hGG => ?_
    obtain ⟨e1, e2, e3, e4⟩ := hc'
    refine hGG ?_; clear hGG GG
    have k1 := sgn_low x
    have k2 := sgn_low y
    have k3 := sgn_low z
    have k4 := sgn_low u
    have hn : (nmStr [x, y, z, u]).cps = #[a.toNat, b.toNat, c.toNat, d.toNat] := by
      unfold nmStr
      simp only [List.map_cons, List.map_nil]
      rw [← e1, ← e2, ← e3, ← e4]
      rfl
    refine KBd.decode (c := a) (cs := [b, c, d]) (x := nmStr [x, y, z, u]) (n := 4) (fun id => ?_) ?_ h
    · rw [hn]
      exact dec4 id a b c d (by lia) (by lia) (by lia) (by lia)
    · show (nmStr [x, y, z, u]).cps.size ≤ _
      rw [hn]
      exact Nat.le_of_ble_eq_true rfl
  | [], hc => simp [KBw.bInts] at hc
  | [a], hc => simp [KBw.bInts] at hc
  | [a, b], hc => simp [KBw.bInts] at hc
  | [a, b, c], hc => simp [KBw.bInts] at hc
  | a :: b :: c :: d :: e :: r, hc => simp [KBw.bInts] at hc
end
end
section
inductive ToJ (w : World) (fss : List (List Int)) (S Kn c : Addr) (n : Nat) (m : Str → Option Value) (news : List (Addr × Obj)) (LA Bk : Addr) (lv : List Value) (le : Nat) (lf K : List (List Int)) (kv : List Value) (ke : Nat) (bl : List TxA) (be : Nat) (oC : Obj) (vC : Option Value) (σ : SrA) (nds : List NdA) : Prop
  | mk (hS : σ.S = S)
    (hr : σ.rdy = .none)
    (hp : σ.po = 0)
    (hf : σ.nf = 0)
    (V : Knows m [(Str.ofString "left", .ref LA), (Str.ofString "sorter", .ref S), (Str.ofString "known", .ref Kn), (Str.ofString "book", .ref Bk)])
    (eq : news = sorterLed w σ nds ++ ((LA, listOf lv.toArray le) :: (Bk, listOf (txVals bl).toArray be) :: (Kn, listOf kv.toArray ke) :: (c, oC) :: txLed bl))
    (hc : oC.data = .cell vC)
    (hl : BysAre lv (lf.map packL))
    (hk : BysAre kv (K.map packL))
    (hb : NmAre bl (K.map tri3))
    (ok : SOk w σ nds)
    (hG : NdsAre nds (netG K))
    (W : WkOk fss lf K)
    (hn : n = 3 * (7 * fss.length - K.length) + lf.length)
    (hn2 : n ≤ 140)
theorem perm7 {α : Type _} (a K D x d c F : α) : [a, K, D, x, d, c, F].Perm [D, x, d, F, a, K, c] := (List.perm_append_comm (l₁ := [a, K]) (l₂ := [D, x, d, c, F])).trans (.cons _ (.cons _ (.cons _ ((List.perm_append_comm (l₁ := [c]) (l₂ := [F, a, K]))))))
theorem perm_add {α : Type _} (Ln P q NM a1 a2 a3 LA2 LA Bk Kn c : α) (SL TL : List α) : (Ln :: (SL ++ (P :: q :: NM :: a1 :: a2 :: a3 :: LA2 :: LA :: Bk :: Kn :: c :: TL))).Perm ((SL ++ (Ln :: Bk :: Kn :: c :: (TL ++ [NM]))) ++ [P, q, a1, a2, a3, LA2, LA]) := by
  classical
  refine List.perm_iff_count.mpr fun z => ?_
  simp only [List.count_append, List.count_cons, List.count_nil]
  lia
theorem perm_rd {α : Type _} (a R a1 LA Bk Kn c : α) (SL TL : List α) : (a :: (SL ++ (R :: a1 :: LA :: Bk :: Kn :: c :: TL))).Perm ((SL ++ (R :: a :: Bk :: TL)) ++ [a1, LA, Kn, c]) := by
  classical
  refine List.perm_iff_count.mpr fun z => ?_
  simp only [List.count_append, List.count_cons, List.count_nil]
  lia
theorem perm_dn {α : Type _} (q B R T Ro Bk : α) (SL TL : List α) : (q :: B :: (SL ++ (R :: T :: Ro :: Bk :: TL))).Perm ((SL ++ [R]) ++ (q :: B :: T :: Ro :: Bk :: TL)) := by
  classical
  refine List.perm_iff_count.mpr fun z => ?_
  simp only [List.count_append, List.count_cons, List.count_nil]
  lia
theorem perm_en {α : Type _} (q B R T Ro Bk : α) (SL TL RL : List α) : ((SL ++ [R]) ++ (q :: B :: T :: Ro :: Bk :: (TL ++ RL))).Perm ((SL ++ (R :: Ro :: Bk :: (TL ++ (RL ++ [B])))) ++ [q, T]) := by
  classical
  refine List.perm_iff_count.mpr fun z => ?_
  simp only [List.count_append, List.count_cons, List.count_nil]
  lia
theorem short_skel {G G' : Gr} {n : Nat} (h : skel G = skel G') (s : short G' n) : short G n := by
  intro p hp
  have h1 : (p.1, p.2.2) ∈ skel G' := by rw [← h]; exact List.mem_map_of_mem (f := fun p : Str × Int × List Str => (p.1, p.2.2)) hp
  obtain ⟨q, hq, e⟩ := List.mem_map.mp h1
  have := s q hq
  injection e with e1 e2
  rw [← e2]
  exact this
inductive ToR (w : World) (K : List (List Int)) (S R Bk : Addr) (bl : List TxA) (be : Nat) (k : Nat) (m : Str → Option Value) (news : List (Addr × Obj)) (r : Nat) (G : Gr) (ps : List Str) (rs : List Value) (er : Nat) (Ro : Addr) (rl : List TxA) (re : Nat) (rss : List (List Str)) (σ : SrA) (nds : List NdA) : Prop
  | mk (hS : σ.S = S)
    (hr : σ.rdy = .ref R)
    (hp : σ.po = σ.nf)
    (V : Knows m [(Str.ofString "sorter", .ref S), (Str.ofString "book", .ref Bk), (Str.ofString "rounds", .ref Ro)])
    (eq : news = sorterLed w σ nds ++ ((R, listOf rs.toArray er) :: (Ro, listOf (txVals rl).toArray re) :: (Bk, listOf (txVals bl).toArray be) :: (txLed bl ++ txLed rl)))
    (ok : SOk w σ nds)
    (hG : NdsAre nds G)
    (hrs : StrsAre rs ps)
    (I : RInv (netG K) (fun q => mst 8 (dec K q)) (fun q => hnm (dec K q)) r G ps)
    (Rd : Rds K r rss)
    (hl : NmAre rl rss)
    (hk : k = 9 - r)
    (hr8 : r ≤ 8)
section
variable (w : World) (loose : List Str) (mean : ExcName → Option Value) (mg mb : Str → Option Value)
theorem c_told (LF : Addr) (vs : List Value) (ep : Nat) (fss : List (List Int)) (hv : BysAre vs (fss.map packL)) (hDm : ∀ f ∈ fss, Dom f) (hlen : fss.length ≤ 6) (h2 : ∃ a ∈ fss, ∃ b ∈ fss, a ≠ b) :
   TurnFn w loose mean mg mb 8 273 [.ref LF] [] [(LF, listOf vs.toArray ep)] (fun v n => ∃ tri rounds, SpecT fss tri rounds ∧ Shows n v (outD tri rounds)) := by
  unfold TurnFn
  k_fill
  intro dp un gd outer base g s Q E hB hXb hTb hD hsz hS hdp hun hret
  refine nameG fun GG hGG => ?_
  obtain ⟨hh, gs, dr, tk, os⟩ := s
  refine hGG ?_; clear hGG GG
  dsimp only at *
  have hX := hXb.keeps hB.stays
  have hT := hTb.keeps hB.stays
  refine wpAny_call ?_
  refine' enterNC (g := g) (news := [(LF, listOf vs.toArray ep)]) (l := [(Str.ofString "left", .ref LF)]) (binds := [(Str.ofString "left", .ref LF)]) ?kX ?kT ?ksz ?kS ?k6 ?k7 ?k8 ?k9 ?kk ?knd ?kl ?kln ?_ ?co ?gen ?kd
  case kX => assumption
  case kT => assumption
  case ksz => first | exact Nat.le_refl _ | assumption
  case kS => first | assumption | exact Sep.nil fun _ _ e => e
  case k6 => k_is
  case k7 => k_is
  case k8 => k_room
  case k9 => first | exact BindsTo.of_eq (by kernel_rfl!) | exact binds_K (by k_in) rfl (by k_is) rfl rfl rfl | fail "enter: no rule for these arguments"
  case kk => exact rfl
  case knd => decide +kernel
  case kl => (intro L' q hq; simp only [List.mem_cons, List.not_mem_nil, or_false] at hq; rcases hq with rfl; kernel_rfl)
  case kln => (simp only [List.map_cons, List.map_nil]; decide +kernel)
  case co => exact rfl
  case gen => exact rfl
  case kd => exact rfl
  intro L' m' h₁ tk' cells F' V' N' Y'
  k_cells Y'
  simp only [List.cons_append, List.nil_append] at N'
  show wpAny _ _ (execs (_ :: _) _) _ _ _
  refine seqG ?_
  intro R' hR'
  refine wpAny_Assign_Name ?_
  refine Call_ ?_
  k_dflt (refine' nmK ‹_› ‹_› ‹_› (by k_is) ?_ rfl rfl (by kernel_rfl) (by kernel_rfl))
  walk_at "callWith ref"
  rename Fr _ _ _ _ => oldF
  rename Led _ _ _ _ => oldN
  k_dflt (refine' InitFn.use (c_sinit _ _ _ _ _) oldF oldN ?hX ?hT ?hA ?hr ?hm ?hi ?hf ?_; (case hX => assumption); (case hT => assumption); (case hA => rfl); (case hr => k_room); (case hm => k_is); (case hi => k_is); (case hf => k_is); intro x' dx' h' tk' ft' hft' F' N'; clear oldF oldN; obtain ⟨D', k1', k2', k3', k4', t3', t4', e', oD', lo', hdict', rfl⟩ := hft'; simp only [List.cons_append, List.nil_append] at N')
  with_reducible rename Knows _ _ => oldV
  rename Fr _ _ _ _ => oldF
  rename Led _ _ _ _ => oldN
  refine' stVq oldF oldN oldV (by walk_at "m") ?_ rfl (by kernel_rfl)
  intro m' h' tk' F' N' V'
  clear oldF oldN oldV
  refine hR'.next ?_
  clear hR' R'
  refine seqG ?_
  intro R' hR'
  refine wpAny_Assign_Name ?_
  refine List_ ?_
  refine args_nil ?_
  try dsimp only [List.cons_append, List.nil_append]
  rename Fr _ _ _ _ => oldF
  rename Led _ _ _ _ => oldN
  refine newList_M oldF oldN ?_
  intro a' h' F' N'
  clear oldF oldN
  with_reducible rename Knows _ _ => oldV
  rename Fr _ _ _ _ => oldF
  rename Led _ _ _ _ => oldN
  refine' stVq oldF oldN oldV (by walk_at "m") ?_ rfl (by kernel_rfl)
  intro m' h' tk' F' N' V'
  clear oldF oldN oldV
  refine hR'.next ?_
  clear hR' R'
  refine seqG ?_
  intro R' hR'
  refine wpAny_Assign_Name ?_
  refine List_ ?_
  refine args_nil ?_
  try dsimp only [List.cons_append, List.nil_append]
  rename Fr _ _ _ _ => oldF
  rename Led _ _ _ _ => oldN
  refine newList_M oldF oldN ?_
  intro a' h' F' N'
  clear oldF oldN
  with_reducible rename Knows _ _ => oldV
  rename Fr _ _ _ _ => oldF
  rename Led _ _ _ _ => oldN
  refine' stVq oldF oldN oldV (by walk_at "m") ?_ rfl (by kernel_rfl)
  intro m' h' tk' F' N' V'
  clear oldF oldN oldV
  refine hR'.next ?_
  clear hR' R'
  refine seqG ?_
  intro R' hR'
  refine StopHere.go ?_
  constructor
  rename_i Kn _ _ _ _ _
  obtain ⟨oC, vC, hcC, N1⟩ : ∃ oC vC, oC.data = .cell vC ∧ Led g L' h' (sorterLed w ⟨x', dx', D', k1', k2', k3', k4', .none, 0, t3', 0, t4', e', oD'⟩ [] ++ ((LF, listOf vs.toArray ep) :: (a', listOf (List.toArray []) 0) :: (Kn, listOf (List.toArray []) 0) :: (L' + 1, oC) :: [])) := ⟨_, _, by assumption, N'.perm (perm7 _ _ _ _ _ _ _)⟩
  have F1 := F'
  clear F' N'
  have hl0 : ∀ K : List (List Int), (∀ y ∈ K, y ∈ clo fss) → (netG K).length ≤ 42 := fun K hK => Nat.le_trans (netG_len hDm hK) (by walk_at "oml")
  refine whileM (fun n m news => ∃ LA Bk lv le lf K kv ke bl be oC vC σ nds, ToJ w fss x' Kn (L' + 1) n m news LA Bk lv le lf K kv ke bl be oC vC σ nds) (3 * (7 * fss.length - 0) + fss.length) F1 N1 ?_ ?_
  · exact ⟨LF, a', vs, ep, fss, [], [], 0, [], 0, oC, vC, ⟨x', dx', D', k1', k2', k3', k4', .none, 0, t3', 0, t4', e', oD'⟩, [], rfl, rfl, rfl, rfl, V', rfl, hcC, hv, .nil, .nil, ⟨lo', hdict'⟩, .nil, .start hDm, rfl, by lia⟩
  · clear F1 N1 V' hdict' hcC hv
    intro n m news h tk F' N' z1
    refine nameG fun GG hGG => ?_
    obtain ⟨LA, Bk, lv, le, lf, K, kv, ke, bl, be, oC, vC, ⟨S, dS, D, k1, k2, k3, k4, rdy, po, pt, nf, ft, e, oD⟩, nds, J⟩ := z1
    refine hGG ?_; clear hGG GG
    try (with_reducible refine nameQ ?_; intro Q' hQ')
    refine nameG fun GG hGG => ?_
    obtain ⟨e1, e2, e3, e4, V', rfl, hcC, hlv, hkv, hbl, ok, hG, W, hn, hn2⟩ := J
    refine hGG ?_; clear hGG GG
    dsimp only at e1 e2 e3 e4
    subst e1 e2 e3 e4
    cases lf with
    | nil =>
      obtain rfl := hlv.none
      have hK := W.done hDm
      have net := net_ok hDm hK
      have hrk := net_rk hDm hK
      have hgl := hl0 K W.kin
      have hsh0 : short (netG K) 1000 := by have := netG_short K; have := W.len hDm; intro p hp; have := netG_short K p hp; lia
      refine wpAny_isTrue_Compare1 ?_
      refine' nmVq ‹_› ‹_› rfl (by walk_at "g") ?_ (by kernel_rfl)
      refine List_ ?_
      refine args_nil ?_
      try dsimp only [List.cons_append, List.nil_append]
      rename Fr _ _ _ _ => oldF
      rename Led _ _ _ _ => oldN
      refine newList_M oldF oldN ?_
      intro a' h' F' N'
      clear oldF oldN
      refine' neNilM (by (simp only [units_deeper] at *; (try dsimp only [topA] at *); omega)) (by walk_at "o") (by walk_at "o") ?_
      refine wpAny_truthy_bool ?_
      with_reducible refine hQ' _ _ ?_
      clear hQ' Q'
      rw [if_neg (by simp)]
      refine wpAny_execs_nil ?_
      refine hR'.next ?_
      clear hR' R'
      refine seqG ?_
      intro R' hR'
      refine wpAny_Expr_any ?_
      refine MethodCall_ ?_
      refine' nmVq ‹_› ‹_› rfl (by walk_at "g") ?_ (by kernel_rfl)
      k_dflt (refine' methM ‹_› ‹_› (by exact Led.inst ‹_› (by k_mem) (by k_mem)) (by k_is) (by k_is) (by k_is) (by k_get) ?_)
      walk_at "callWith ref"
      dsimp only
      have N3 : Led g L' h' (sorterLed w ⟨S, dS, D, k1, k2, k3, k4, .none, 0, pt, 0, ft, e, oD⟩ nds ++ _) := N'.perm (mid_perm [_] (sorterLed w ⟨S, dS, D, k1, k2, k3, k4, .none, 0, pt, 0, ft, e, oD⟩ nds) _)
      refine TurnFn.use (c_prepare w loose mean mg mb ⟨S, dS, D, k1, k2, k3, k4, .none, 0, pt, 0, ft, e, oD⟩ rfl nds (netG K) ok hG (netG_nodup K) (by walk_at "oml") hsh0 (fun q => 7 - mst 8 (dec K q)) (fun q => by lia) ?_) hB F' hXb hTb hD N3 (by walk_at "oml") (by walk_at "oml") ?_ rfl rfl
      · intro q hq s hs
        obtain ⟨hs1, hs2⟩ := net.su q s hs
        have h3 := (net.lo s hs1 q hs2).2
        have h4 := hrk s hs1
        exact ⟨hs1, by lia⟩
      intro v h' h₁ tk' foot' z2 T1 B1 D1 X1 P1 F' N'
      refine nameG fun GG hGG => ?_
      obtain ⟨R, rs, er, rfl, hrs, ok2, rfl⟩ := z2
      refine hGG ?_; clear hGG GG
      clear N3 ok hB hX hT
      dsimp only at N' ok2
      simp only [List.cons_append, List.nil_append, List.append_assoc] at N'
      refine hR'.next ?_
      clear hR' R'
      refine seqG ?_
      intro R' hR'
      refine wpAny_Assign_Name ?_
      refine List_ ?_
      refine args_nil ?_
      try dsimp only [List.cons_append, List.nil_append]
      rename Fr _ _ _ _ => oldF
      rename Led _ _ _ _ => oldN
      refine newList_M oldF oldN ?_
      intro a' h' F' N'
      clear oldF oldN
      with_reducible rename Knows _ _ => oldV
      rename Fr _ _ _ _ => oldF
      rename Led _ _ _ _ => oldN
      refine' stVq oldF oldN oldV (by walk_at "m") ?_ rfl (by kernel_rfl)
      intro m' h' tk' F' N' V'
      clear oldF oldN oldV
      refine hR'.next ?_
      clear hR' R'
      refine seqG ?_
      intro R' hR'
      refine StopHere.go ?_
      constructor
      have N4 := (N'.perm (perm_rd _ _ _ _ _ _ _ _ _)).sub (List.sublist_append_left _ _)
      have hbl1 : bl.length = K.length := by have := hbl.len; rw [List.length_map] at this; exact this
      have hKl := hK.len hDm
      refine whileM (fun k m news => ∃ r G ps rs er Ro rl re rss σ nds, ToR w K S R Bk bl be k m news r G ps rs er Ro rl re rss σ nds) 9 F' N4 ?_ ?_
      · exact ⟨0, netG K, _, rs, er, a', [], 0, [], ⟨S, dS, D, k1, k2, k3, k4, .ref R, 0, pt, 0, ft, e, oD⟩, nds, rfl, rfl, rfl, V'.sub (by walk_at "u"), by simp [txLed, txVals], ok2, hG, hrs, net.start, .nil K, .nil, rfl, by lia⟩
      · clear F' N' N4 V' hrs ok2 hG
        intro n m news h tk F' N' z3
        refine nameG fun GG hGG => ?_
        obtain ⟨r, G, ps, rs, er, Ro, rl, re, rss, ⟨S, dS, D, k1, k2, k3, k4, rdy, po, pt, nf, ft, e, oD⟩, nds, J⟩ := z3
        refine hGG ?_; clear hGG GG
        try (with_reducible refine nameQ ?_; intro Q' hQ')
        refine nameG fun GG hGG => ?_
        obtain ⟨e1, e2, e3, V', rfl, ok, hG, hrs, I, Rd, hrl, hn9, hr8⟩ := J
        refine hGG ?_; clear hGG GG
        dsimp only at e1 e2 e3
        subst e1 e2 e3
        have hnames : G.map (·.1) = (netG K).map (·.1) := names_skel I.sk
        have hGnd : (G.map (·.1)).Nodup := by rw [hnames]; exact netG_nodup K
        have hpl0 : ps.length ≤ ((netG K).map (·.1)).length := nodup_sub I.nd fun q hq => ((I.mem q).mp hq).1
        have hpl : ps.length ≤ 42 := by rw [List.length_map] at hpl0; lia
        have hrl1 := hrs.len_eq
        refine isTrue_plain ?_
        refine MethodCall_ ?_
        refine' nmVq ‹_› ‹_› rfl (by walk_at "g") ?_ (by kernel_rfl)
        k_dflt (refine' methM ‹_› ‹_› (by exact Led.inst ‹_› (by k_mem) (by k_mem)) (by k_is) (by k_is) (by k_is) (by k_get) ?_)
        walk_at "callWith ref"
        dsimp only
        have N3 := N'
        rw [List.append_cons] at N3
        refine HeapFn.use (c_active w loose mean mg mb ⟨S, dS, D, k1, k2, k3, k4, .ref R, po, pt, po, ft, e, oD⟩ R rfl nds rs er (by walk_at "oml")) B1 F' X1 P1 N3 (by walk_at "oml") (by walk_at "oml") ?_ rfl rfl
        clear F' N' N3
        rintro v h' tk' foot' ⟨rfl, rfl⟩ F' N'
        rw [show (decide (po < po) || !rs.isEmpty) = !rs.isEmpty by simp]
        simp only [List.cons_append, List.nil_append, List.append_assoc] at N'
        refine wpAny_truthy_bool ?_
        with_reducible refine hQ' _ _ ?_
        clear hQ' Q'
        by_cases hne : ps = []
        · subst hne
          obtain rfl := StrsAre.none hrs
          rw [if_neg (by simp)]
          refine wpAny_execs_nil ?_
          refine hR'.next ?_
          clear hR' R'
          refine oneN ?_
          refine wpAny_Return_some ?_
          refine List_ ?_
          refine args_cons ?_
          refine Call_ ?_
          k_dflt (refine' nmB ‹_› ‹_› ‹_› (by k_is) (by boot_by_name) (by decide) ?_ rfl rfl rfl (by kernel_rfl) (by kernel_rfl))
          refine callWith_method1 ?_
          refine args_cons ?_
          refine' nmVq ‹_› ‹_› rfl (by walk_at "g") ?_ (by kernel_rfl)
          refine args_nil ?_
          try dsimp only [List.cons_append, List.nil_append]
          rename Fr _ _ _ _ => oldF; rename Led _ _ _ _ => oldN
          have hbv : (txVals bl).length = bl.length := by simp [txVals]
          refine sortedSeqM (.inl rfl) oldF oldN (Led.get oldN (by k_mem)) rfl rfl (by walk_at "oml") ?_
          intro B h' F' N'
          clear oldF oldN
          refine nameG fun GG hGG => ?_
          obtain ⟨a, ha, b, hb, hab⟩ := h2
          refine hGG ?_; clear hGG GG
          have two : 2 ≤ K.length := two_len ((hK.mem _).mpr (mem_clo.mpr ⟨a, ha, (0, 0), by decide, ((hDm a ha).zero).symm⟩)) ((hK.mem _).mpr (mem_clo.mpr ⟨b, hb, (0, 0), by decide, ((hDm b hb).zero).symm⟩)) hab
          refine sortListsM (by (simp only [units_deeper] at *; (try dsimp only [topA] at *); omega)) F' N' hbl ?_ (by walk_at "oml") (by walk_at "oml") (hK.tris hDm) ?_
          · intro q hq
            walk_at "a"
          · intro h' l' rows' e F2' N2' hl' hpl hpr hup
            clear F' N'
            refine args_cons ?_
            refine' nmVq ‹_› ‹_› rfl (by walk_at "g") ?_ (by kernel_rfl)
            refine args_nil ?_
            try dsimp only [List.cons_append, List.nil_append]
            rename Fr _ _ _ _ => oldF
            rename Led _ _ _ _ => oldN
            refine newList_M oldF oldN ?_
            intro a' h' F' N'
            clear oldF oldN
            refine hret _ _ _ _ _ ⟨rows', rss, Rd.spec hDm hK (fun q hq e => nomatch (I.mem q).mpr ⟨hq, e⟩) hup hpr, shows_out (.head _) (by k_mem) (by k_mem) hl' hrl (fun q hq => ?_) (fun q hq => ?_)⟩ T1 (sepOf F' N' (List.Sublist.refl _))
            · have hq2 : q ∈ txLed bl := (hpl.map (fun x : TxA => (x.T, listOf x.vs.toArray x.ep))).mem_iff.mp hq
              walk_at "a"
            · walk_at "a"
        · have hrne : rs.isEmpty = false := by
            cases rs with
            | nil => exact absurd (List.length_eq_zero_iff.mp hrl1.symm) hne
            | cons _ _ => rfl
          have hrz : rs.length ≠ 0 := by rw [hrl1]; exact fun e => hne (List.length_eq_zero_iff.mp e)
          rw [if_pos (by simp [hrne])]
          have hr7 : r ≤ 7 := by
            refine nameG fun GG hGG => ?_
            obtain ⟨q, hq⟩ := List.exists_mem_of_ne_nil ps hne
            obtain ⟨hq1, hq2⟩ := (I.mem q).mp hq
            refine hGG ?_; clear hGG GG
            have := hrk q hq1
            lia
          refine seqG ?_
          intro R' hR'
          refine wpAny_Assign_Name ?_
          refine MethodCall_ ?_
          refine' nmVq ‹_› ‹_› rfl (by walk_at "g") ?_ (by kernel_rfl)
          k_dflt (refine' methM ‹_› ‹_› (by exact Led.inst ‹_› (by k_mem) (by k_mem)) (by k_is) (by k_is) (by k_is) (by k_get) ?_)
          walk_at "callWith ref"
          dsimp only
          have N3 := N'
          rw [List.append_cons] at N3
          refine HeapFn.use (c_ready w loose mean mg mb ⟨S, dS, D, k1, k2, k3, k4, .ref R, po, pt, po, ft, e, oD⟩ R rfl nds G ok hG hGnd rs ps er hrs hrz (by walk_at "oml") (fun q hq => by rw [hnames]; exact ((I.mem q).mp hq).1)) B1 F' X1 P1 N3 (by walk_at "oml") (by walk_at "oml") ?_ rfl rfl
          clear F' N' N3
          intro v h' tk' foot' z4 F' N'
          refine nameG fun GG hGG => ?_
          obtain ⟨T, pt', nds', rfl, ok', hG', rfl⟩ := z4
          refine hGG ?_; clear hGG GG
          dsimp only at N' ok'
          simp only [List.cons_append, List.nil_append, List.append_assoc] at N'
          with_reducible rename Knows _ _ => oldV
          rename Fr _ _ _ _ => oldF
          rename Led _ _ _ _ => oldN
          refine' stVq oldF oldN oldV (by walk_at "m") ?_ rfl (by kernel_rfl)
          intro m' h' tk' F' N' V'
          clear oldF oldN oldV
          refine hR'.next ?_
          clear hR' R'
          refine seqG ?_
          intro R' hR'
          refine wpAny_Expr_any ?_
          refine MethodCall_ ?_
          refine' nmVq ‹_› ‹_› rfl (by walk_at "g") ?_ (by kernel_rfl)
          refine getMethod_builtin ⟨_, (by walk_at "o"), rfl⟩ PySem.F.plainAttrs_list PySem.F.slot_list_append PySem.F.type_list_append (by intro a e; cases e; exact ⟨_, (by walk_at "o"), rfl⟩) ?_
          refine callWith_method1 ?_
          refine args_cons ?_
          refine Call_ ?_
          k_dflt (refine' nmB ‹_› ‹_› ‹_› (by k_is) (by boot_by_name) (by decide) ?_ rfl rfl rfl (by kernel_rfl) (by kernel_rfl))
          refine callWith_method1 ?_
          refine args_cons ?_
          refine' nmVq ‹_› ‹_› rfl (by walk_at "g") ?_ (by kernel_rfl)
          refine args_nil ?_
          try dsimp only [List.cons_append, List.nil_append]
          rename Fr _ _ _ _ => oldF; rename Led _ _ _ _ => oldN
          have hrll := hrl.len
          have hrsl := Rd.len
          have hrv : (txVals rl).length ≤ 8 := by unfold txVals; rw [List.length_map]; lia
          refine sortedSeqM (.inr rfl) oldF oldN (Led.get oldN (by k_mem)) rfl rfl (by walk_at "oml") ?_
          intro B h' F' N'
          clear oldF oldN
          refine sortStrsM F' N' hrs (by walk_at "oml") ?_
          intro h' vs' ss' eB F2' N2' hs' hp' hso'
          clear F' N'
          refine args_nil ?_
          try dsimp only [List.cons_append, List.nil_append]
          rename Fr _ _ _ _ => oldF
          rename Led _ _ _ _ => oldN
          refine' appendLM oldF oldN (by walk_at "s") (by walk_at "b") ?_
          intro h' F' N'
          clear oldF oldN
          refine hR'.next ?_
          clear hR' R'
          refine oneN ?_
          refine wpAny_Expr_any ?_
          dsimp only
          rw [sorter_open] at N'
          dsimp only at N'
          refine StarCall_ ?_
          refine' nmVq ‹_› ‹_› rfl (by walk_at "g") ?_ (by kernel_rfl)
          rename Fr _ _ _ _ => oldF
          rename Led _ _ _ _ => oldN
          k_dflt (refine' boundM oldF ‹_› oldN (by exact Led.inst ‹_› (by k_mem) (by k_mem)) (by k_is) (by k_is) (by k_is) (by k_is) (by k_is) (by k_is) (by decide +kernel) (by k_get) ?_; intro q' h' tk' F' N'; clear oldF oldN)
          refine StopHere.go ?_
          constructor
          k_dflt (refine' starCall1 (K := hd.heap_39 w.params) (g := 230) (self := Value.ref S) ?hf230 ?_; (case hf230 => k_is))
          refine' nmVq ‹_› ‹_› rfl (by walk_at "g") ?_ (by kernel_rfl)
          refine starSeqM (.inr rfl) F' N' (Led.get N' (by k_mem)) rfl rfl (by walk_at "oml") ?_
          intro h' F' N'
          refine ⟨⟨(N'.N _ (.head _)).1, X1.keeps F'.keep⟩, ?_⟩
          have hq' := (N'.N _ (.head _)).1
          have N5 : Led h₁ L' h' ((q', methodObj (Value.ref 230) (Value.ref S)) :: (B, listOf (List.toArray vs') eB) :: (sorterLed w ⟨S, dS, D, k1, k2, k3, k4, .ref R, po + (rs.length : Nat), pt', po, ft, e, oD⟩ nds' ++ _)) := N'
          have N3 := N5.perm (perm_dn _ _ _ _ _ _ _ _)
          have hsk : skel (ps.foldl passF G) = skel (netG K) := by rw [passFs_skel net]; exact I.sk
          have hst := RInv.step net I
          have hndl : ((ps.foldl passF G).map (·.1)).Nodup := by rw [names_skel hsk]; exact netG_nodup K
          refine HeapCode.useM (c_doneC w loose mean mg mb ⟨S, dS, D, k1, k2, k3, k4, .ref R, po + (rs.length : Nat), pt', po, ft, e, oD⟩ R rfl nds' (ps.foldl passF G) ok' hG' hndl [] [] (er + 1) .nil rs ps hrs (by walk_at "oml") (by simp) (short_skel hsk hsh0) hst.2) B1 F' X1 P1 N3 hq' (by walk_at "oml") (by walk_at "oml") ?_ rfl rfl
          clear F' N' N3 N5
          intro v h' tk' foot' z5 F' N'
          refine nameG fun GG hGG => ?_
          obtain ⟨ft2, nds2, rd2, er2, rfl, ok2, hG2, hrd2, rfl⟩ := z5
          refine hGG ?_; clear hGG GG
          dsimp only at N' ok2
          skip
          have N4 := N'.perm (perm_en _ _ _ _ _ _ _ _ _)
          refine WPost.intro _ (9 - (r + 1)) F' N4 (List.sublist_append_left _ _) (by walk_at "oml") ?_
          exact ⟨r + 1, _, _, rd2, er2, Ro, rl ++ [⟨B, vs', eB⟩], re + 1, rss ++ [ss'], ⟨S, dS, D, k1, k2, k3, k4, .ref R, po + (rs.length : Nat), pt', po + (rs.length : Nat), ft2, e, oD⟩, nds2, rfl, rfl, rfl, V'.sub (by walk_at "u"), by simp only [txLed, txVals, List.map_append, List.map_cons, List.map_nil], ok2, hG2, hrd2, hst.1, Rd.snoc hne I.nd I.mem hp' hso', hrl.app (.cons hs' .nil), rfl, by lia⟩
    | cons x lf =>
      refine nameG fun GG hGG => ?_
      obtain ⟨b, t, lvr, rfl, hbx, hlr⟩ := hlv.inv
      refine hGG ?_; clear hGG GG
      have hx4 : Four x := (clo_dom hDm (W.lin x (.head _))).four
      have hlrl := hlr.len
      have hkl := hkv.len
      have hKl := W.len hDm
      rw [List.length_map] at hlrl hkl
      rw [List.length_cons] at hn
      refine wpAny_isTrue_Compare1 ?_
      refine' nmVq ‹_› ‹_› rfl (by walk_at "g") ?_ (by kernel_rfl)
      refine List_ ?_
      refine args_nil ?_
      try dsimp only [List.cons_append, List.nil_append]
      rename Fr _ _ _ _ => oldF
      rename Led _ _ _ _ => oldN
      refine newList_M oldF oldN ?_
      intro a' h' F' N'
      clear oldF oldN
      refine' neNilM (by (simp only [units_deeper] at *; (try dsimp only [topA] at *); omega)) (by walk_at "o") (by walk_at "o") ?_
      refine wpAny_truthy_bool ?_
      with_reducible refine hQ' _ _ ?_
      clear hQ' Q'
      rw [if_pos (show (!(Value.bytes b t :: lvr).isEmpty) = true from rfl)]
      have N0 := N'.tail
      clear N'
      refine seqG ?_
      intro R' hR'
      refine wpAny_Assign_Name ?_
      refine Subscript_ ?_
      refine' nmVq ‹_› ‹_› rfl (by walk_at "g") ?_ (by kernel_rfl)
      refine constIntM ?_
      refine' itemM (by walk_at "o") (by walk_at "oml") (by walk_at "oml") (by first | assumption | (simp only [Int.toNat_natCast, Int.reduceToNat, List.getElem?_toArray, List.getElem?_cons_zero, List.getElem?_cons_succ]; rfl) | rfl) ?_ (by with_unfolding_all rfl)
      with_reducible rename Knows _ _ => oldV
      rename Fr _ _ _ _ => oldF
      rename Led _ _ _ _ => oldN
      refine' stVq oldF oldN oldV (by walk_at "m") ?_ rfl (by kernel_rfl)
      intro m' h' tk' F' N' V'
      clear oldF oldN oldV
      refine hR'.next ?_
      clear hR' R'
      refine seqG ?_
      intro R' hR'
      refine wpAny_Assign_Name ?_
      refine Subscript_ ?_
      refine' nmVq ‹_› ‹_› rfl (by walk_at "g") ?_ (by kernel_rfl)
      with_reducible refine sliceM ?_
      with_reducible refine evalPartSome ?_
      refine constIntM ?_
      with_reducible refine evalPartNone ?_
      with_reducible refine evalPartNone ?_
      rename Fr _ _ _ _ => oldF
      rename Led _ _ _ _ => oldN
      refine' sliceLM oldF oldN (by walk_at "o") (by constructor) (by constructor) (by first | exact pick_take4 _ | exact pick_take3 _ | exact pick_drop1 _) (by walk_at "b") ?_ (by with_unfolding_all rfl) (by (intro _; with_unfolding_all rfl))
      intro a' h' F' N'
      clear oldF oldN
      with_reducible rename Knows _ _ => oldV
      rename Fr _ _ _ _ => oldF
      rename Led _ _ _ _ => oldN
      refine' stVq oldF oldN oldV (by walk_at "m") ?_ rfl (by kernel_rfl)
      intro m' h' tk' F' N' V'
      clear oldF oldN oldV
      refine hR'.next ?_
      clear hR' R'
      refine oneN ?_
      refine wpAny_If ?_
      refine wpAny_isTrue_Compare1 ?_
      refine' nmVq ‹_› ‹_› rfl (by walk_at "g") ?_ (by kernel_rfl)
      refine' nmVq ‹_› ‹_› rfl (by walk_at "g") ?_ (by kernel_rfl)
      refine' notInBysM (by walk_at "o") ‹_› ?_
      refine wpAny_truthy_bool ?_
      focus
       refine split_dec ?_ ?_ <;> intro _
       refine seqG ?_
       intro R' hR'
       refine wpAny_Expr_any ?_
       refine MethodCall_ ?_
       refine' nmVq ‹_› ‹_› rfl (by walk_at "g") ?_ (by kernel_rfl)
       refine getMethod_builtin ⟨_, (by walk_at "o"), rfl⟩ PySem.F.plainAttrs_list PySem.F.slot_list_append PySem.F.type_list_append (by intro a e; cases e; exact ⟨_, (by walk_at "o"), rfl⟩) ?_
       refine callWith_method1 ?_
       refine args_cons ?_
       refine' nmVq ‹_› ‹_› rfl (by walk_at "g") ?_ (by kernel_rfl)
       refine args_nil ?_
       try dsimp only [List.cons_append, List.nil_append]
       rename Fr _ _ _ _ => oldF
       rename Led _ _ _ _ => oldN
       refine' appendLM oldF oldN (by walk_at "s") (by walk_at "b") ?_
       intro h' F' N'
       clear oldF oldN
       refine hR'.next ?_
       clear hR' R'
       refine seqG ?_
       intro R' hR'
       refine wpAny_Assign_Name ?_
       refine List_ ?_
       refine args_cons ?_
       refine Call_ ?_
       k_dflt (refine' nmK ‹_› ‹_› ‹_› (by k_is) ?_ rfl rfl (by kernel_rfl) (by kernel_rfl))
       k_dflt (refine' callWith_K (by k_asm) (by k_is) ?_)
       refine args_cons ?_
       refine' nmVq ‹_› ‹_› rfl (by walk_at "g") ?_ (by kernel_rfl)
       refine args_cons ?_
       refine Constant_bytes ?_
       refine args_nil ?_
       try dsimp only [List.cons_append, List.nil_append]
       refine ⟨by k_in, ?_⟩
       try dsimp only [List.nil_append, List.cons_append]
       rename Fr _ _ _ _ => oldF
       rename Led _ _ _ _ => oldN
       refine' PureFn.useE (c_sent w loose mean mg mb way1 _ _ _ _ ?h4 hbx) ?hB oldF ?hX ?hT oldN ?hd ?hu trivial ?_ ?hf ?hck
       case h4 => assumption
       case hB => assumption
       case hX => assumption
       case hT => assumption
       case hd => lia
       case hu => lia
       case hf => rfl
       case hck => rfl
       intro v' h' tk' hv F' N'
       clear oldF oldN
       refine nameG fun GG hGG => ?_
       obtain ⟨c1, u1, rfl, hc1⟩ := hv
       refine hGG ?_; clear hGG GG
       refine args_cons ?_
       refine Call_ ?_
       k_dflt (refine' nmK ‹_› ‹_› ‹_› (by k_is) ?_ rfl rfl (by kernel_rfl) (by kernel_rfl))
       k_dflt (refine' callWith_K (by k_asm) (by k_is) ?_)
       refine args_cons ?_
       refine' nmVq ‹_› ‹_› rfl (by walk_at "g") ?_ (by kernel_rfl)
       refine args_cons ?_
       refine Constant_bytes ?_
       refine args_nil ?_
       try dsimp only [List.cons_append, List.nil_append]
       refine ⟨by k_in, ?_⟩
       try dsimp only [List.nil_append, List.cons_append]
       rename Fr _ _ _ _ => oldF
       rename Led _ _ _ _ => oldN
       refine' PureFn.useE (c_sent w loose mean mg mb way2 _ _ _ _ ?h4 hbx) ?hB oldF ?hX ?hT oldN ?hd ?hu trivial ?_ ?hf ?hck
       case h4 => assumption
       case hB => assumption
       case hX => assumption
       case hT => assumption
       case hd => lia
       case hu => lia
       case hf => rfl
       case hck => rfl
       intro v' h' tk' hv F' N'
       clear oldF oldN
       refine nameG fun GG hGG => ?_
       obtain ⟨c2, u2, rfl, hc2⟩ := hv
       refine hGG ?_; clear hGG GG
       refine args_nil ?_
       try dsimp only [List.cons_append, List.nil_append]
       rename Fr _ _ _ _ => oldF
       rename Led _ _ _ _ => oldN
       refine newList_M oldF oldN ?_
       intro a' h' F' N'
       clear oldF oldN
       with_reducible rename Knows _ _ => oldV
       rename Fr _ _ _ _ => oldF
       rename Led _ _ _ _ => oldN
       refine' stVq oldF oldN oldV (by walk_at "m") ?_ rfl (by kernel_rfl)
       intro m' h' tk' F' N' V'
       clear oldF oldN oldV
       refine hR'.next ?_
       clear hR' R'
       refine seqG ?_
       intro R' hR'
       refine wpAny_Assign_Name ?_
       rotate_left
       refine wpAny_execs_nil ?_
       dsimp only
       rotate_left
      rotate_left
      · rename_i hin
        have hxK : x ∈ K := by
          have hin2 := Decidable.not_not.mp hin
          obtain ⟨y, hy, e⟩ := List.mem_map.mp hin2
          rw [hbx] at e
          have := packL_inj (clo_dom hDm (W.kin y hy)).four hx4 e
          rwa [← this]
        refine WPost.intro (sorterLed w ⟨S, dS, D, k1, k2, k3, k4, .none, 0, pt, 0, ft, e, oD⟩ nds ++ ((a', listOf (List.drop 1 (Value.bytes b t :: lvr)).toArray 0) :: (Bk, listOf (txVals bl).toArray be) :: (Kn, listOf kv.toArray ke) :: (L' + 1, oC) :: txLed bl)) (3 * (7 * fss.length - K.length) + lf.length) F' (N'.perm (List.perm_middle.symm)) (List.Sublist.append_left (List.Sublist.cons_cons _ (List.Sublist.cons _ (List.Sublist.refl _))) _) (by walk_at "oml") ?_
        exact ⟨a', Bk, _, 0, lf, K, kv, ke, bl, be, oC, vC, _, nds, rfl, rfl, rfl, rfl, V'.sub (by walk_at "u"), rfl, hcC, hlr, hkv, hbl, ok, hG, W.skip hxK, rfl, by lia⟩
      · rename_i LA2 _ _ _ _ hnk _ _ _ _ _ _
        have hxK : x ∉ K := fun hm => hnk (by rw [hbx]; exact List.mem_map_of_mem hm)
        have hd1 := (W.take hDm hxK)
        have hs1 : Four (s1 x) := (clo_dom hDm (clo_s hDm (W.lin x (.head _))).1).four
        have hs2 : Four (s2 x) := (clo_dom hDm (clo_s hDm (W.lin x (.head _))).2).four
        refine' evalLC_L rfl (by decide) rfl (by decide) rfl ?_ (by (intro _; rfl))
        with_reducible refine wpAny_BinOp ?_
        refine List_ ?_
        refine args_cons ?_
        refine' nmVq ‹_› ‹_› rfl (by walk_at "g") ?_ (by kernel_rfl)
        refine args_nil ?_
        try dsimp only [List.cons_append, List.nil_append]
        rename Fr _ _ _ _ => oldF
        rename Led _ _ _ _ => oldN
        refine newList_M oldF oldN ?_
        intro a' h' F' N'
        clear oldF oldN
        refine' nmVq ‹_› ‹_› rfl (by walk_at "g") ?_ (by kernel_rfl)
        rename Fr _ _ _ _ => oldF
        rename Led _ _ _ _ => oldN
        refine' addLM oldF oldN (by walk_at "o") (by walk_at "o") (by walk_at "b") ?_
        intro a' h' F' N'
        clear oldF oldN
        have hit : BysAre ([Value.bytes b t] ++ [Value.bytes c1 u1, Value.bytes c2 u2]) ([x, s1 x, s2 x].map packL) := by
          have := BysAre.cons b t (.cons c1 u1 (.cons c2 u2 .nil))
          rwa [hbx, hc1, hc2] at this
        have hi3 : ([Value.bytes b t] ++ [Value.bytes c1 u1, Value.bytes c2 u2]).length = 3 := rfl
        rename Fr _ _ _ _ => oldF
        rename Led _ _ _ _ => oldN
        refine' listSrc rfl oldF oldN (by walk_at "o") (by (have hsl : sizeLine = 16777216 := rfl; (try simp only [List.size_toArray]); lia)) ?_
        intro I' h' F' N' S'
        clear oldF oldN
        refine LCAtL.mk (fun i ys made => made = [] ∧ StrsAre ys ((tri3 x).take i)) S' F' N' ⟨rfl, .nil⟩ ?_ ?_
        · rintro i v C ys made g' h tk hi hP ⟨rfl, hys⟩ Fo Fc Nc
          try (with_reducible refine nameQ ?_; intro Q' hQ')
          clear S' F' N' V'
          obtain ⟨y, b', t', rfl, hy, hby, hy4⟩ : ∃ y b' t', v = .bytes b' t' ∧ [x, s1 x, s2 x][i]? = some y ∧ KBw.bInts b' = packL y ∧ Four y := by
            obtain ⟨b', t', e1, e2⟩ := hit.get (by rw [List.getElem?_toArray] at hP; exact hP)
            rw [List.getElem?_map] at e2
            obtain ⟨y, hy, e3⟩ := Option.map_eq_some_iff.mp e2
            refine ⟨y, b', t', e1, hy, e3.symm, ?_⟩
            have := List.mem_of_getElem? hy
            simp only [List.mem_cons, List.not_mem_nil, or_false] at this
            rcases this with rfl | rfl | rfl <;> assumption
          have Vc : Knows _ _ := Knows.mp (l := [(Str.ofString "x", Value.bytes b' t')]) (by simp)
          have hXc := hX.keeps Fo.keep
          have hTc := hT.keeps Fo.keep
          simp only [List.nil_append] at Nc
          with_reducible refine testsOf.nil ?_
          rw [if_pos rfl]
          refine MethodCall_ ?_
          refine Call_ ?_
          k_dflt (refine' nmK ‹_› ‹_› ‹_› (by k_is) ?_ rfl rfl (by kernel_rfl) (by kernel_rfl))
          k_dflt (refine' callWith_K (by k_asm) (by k_is) ?_)
          refine args_cons ?_
          refine' nmVq ‹_› ‹_› rfl (by walk_at "g") ?_ (by kernel_rfl)
          refine args_nil ?_
          try dsimp only [List.cons_append, List.nil_append]
          refine ⟨by k_in, ?_⟩
          try dsimp only [List.nil_append, List.cons_append]
          refine' PureFn.useC (c_encN w loose mean mg mb b' t' y hy4 hby) ?hB Fc hXc hTc Nc ?hd ?hu trivial ?_
          case hB => exact pushX hB Fo rfl rfl
          case hd => (show dp + 1 + 3 < recursionLimit; lia)
          case hu => (show un + 3 + 8 * 3 < cLine; lia)
          intro v h' tk' z6 F' N'
          refine nameG fun GG hGG => ?_
          obtain ⟨c, u, rfl, hc⟩ := z6
          refine hGG ?_; clear hGG GG
          refine KBd.method ?_
          refine callWith_method0 ?_
          refine' decodeM ‹_› ‹_› ?_
          intro t' tk'
          refine EPost.intro [] F' N' (by walk_at "u") ⟨rfl, ?_⟩
          rw [take_step (x := nmStr y) (by show ([x, s1 x, s2 x].map nmStr)[i]? = _; rw [List.getElem?_map, hy]; rfl)]
          exact strs_snoc hys _ _
        · rintro NM h' tk' ys made epN ⟨rfl, hys⟩ F' N'
          have hys : StrsAre ys [nmStr x, nmStr (s1 x), nmStr (s2 x)] := hys
          refine nameG fun GG hGG => ?_
          obtain ⟨t0, _, rfl, hys1⟩ := StrsAre.inv hys
          obtain ⟨t1, _, rfl, hys2⟩ := StrsAre.inv hys1
          obtain ⟨t2, _, rfl, hys3⟩ := StrsAre.inv hys2
          refine hGG ?_; clear hGG GG
          obtain rfl := StrsAre.none hys3
          clear hys1 hys2 hys3
          simp only [List.nil_append] at N'
          with_reducible rename Knows _ _ => oldV
          rename Fr _ _ _ _ => oldF
          rename Led _ _ _ _ => oldN
          refine' stC oldF oldN rfl (by (intro o'; walk_at "s")) ‹_› ?_ rfl (by kernel_rfl)
          intro h' oc' F' N' hcell'
          clear oldF oldN
          refine hR'.next ?_
          clear hR' R'
          refine seqG ?_
          intro R' hR'
          refine wpAny_Expr_any ?_
          rw [sorter_open] at N'
          dsimp only at N'
          refine StarCall_ ?_
          refine' nmVq ‹_› ‹_› rfl (by walk_at "g") ?_ (by kernel_rfl)
          rename Fr _ _ _ _ => oldF
          rename Led _ _ _ _ => oldN
          k_dflt (refine' boundM oldF ‹_› oldN (by exact Led.inst ‹_› (by k_mem) (by k_mem)) (by k_is) (by k_is) (by k_is) (by k_is) (by k_is) (by k_is) (by decide +kernel) (by k_get) ?_; intro q' h' tk' F' N'; clear oldF oldN)
          refine StopHere.go ?_
          constructor
          k_dflt (refine' starCall2 (K := hd.heap_39 w.params) (g := 197) (self := Value.ref S) ?hf197 ?_; (case hf197 => k_is))
          refine Subscript_ ?_
          refine' nmCq ‹_› rfl (by k_mem) ‹_› ?_ (by kernel_rfl)
          refine constIntM ?_
          refine' itemM (by walk_at "o") (by walk_at "oml") (by walk_at "oml") (by first | assumption | (simp only [Int.toNat_natCast, Int.reduceToNat, List.getElem?_toArray, List.getElem?_cons_zero, List.getElem?_cons_succ]; rfl) | rfl) ?_ (by with_unfolding_all rfl)
          refine' evalLC_L rfl (by decide) rfl (by decide) rfl ?_ (by (intro _; rfl))
          refine' nmCq ‹_› rfl (by k_mem) ‹_› ?_ (by kernel_rfl)
          have hi4 : [Value.str (nmStr x) t0, Value.str (nmStr (s1 x)) t1, Value.str (nmStr (s2 x)) t2].length = 3 := rfl
          rename Knows _ _ => V'
          rename Fr _ _ _ _ => oldF
          rename Led _ _ _ _ => oldN
          refine' listSrc rfl oldF oldN (by walk_at "o") (by (have hsl : sizeLine = 16777216 := rfl; (try simp only [List.size_toArray]); lia)) ?_
          intro I' h' F' N' S'
          clear oldF oldN
          refine LCAtL.mk (fun i ys made => made = [] ∧ StrsAre ys (((tri3 x).take i).filter fun z => decide (z ≠ nmStr x))) S' F' N' ⟨rfl, .nil⟩ ?_ ?_
          · rintro i v C zs made g' h tk hi hP ⟨rfl, hzs⟩ Fo Fc Nc
            try (with_reducible refine nameQ ?_; intro Q' hQ')
            clear S' F' N' V'
            obtain ⟨z, tz, hz, rfl⟩ := strs_get hys i v (by rw [List.getElem?_toArray] at hP; exact hP)
            have Vc : Knows _ _ := Knows.mp (l := [(Str.ofString "x", Value.str z tz)]) (by simp)
            have hXc := hX.keeps Fo.keep
            have hTc := hT.keeps Fo.keep
            simp only [List.nil_append] at Nc
            with_reducible refine testsOf.one ?_
            refine wpAny_isTrue_Compare1 ?_
            refine' nmVq ‹_› ‹_› rfl (by walk_at "g") ?_ (by kernel_rfl)
            refine Subscript_ ?_
            refine' nmCq ‹_› rfl (by k_mem) ‹_› ?_ (by kernel_rfl)
            refine constIntM ?_
            refine' itemM (by walk_at "o") (by walk_at "oml") (by walk_at "oml") (by first | assumption | (simp only [Int.toNat_natCast, Int.reduceToNat, List.getElem?_toArray, List.getElem?_cons_zero, List.getElem?_cons_succ]; rfl) | rfl) ?_ (by with_unfolding_all rfl)
            with_reducible refine ne_str ?_
            refine wpAny_truthy_bool ?_
            dsimp only
            have hz : (tri3 x)[i]? = some z := hz
            by_cases hzx : z = nmStr x
            · rw [if_neg (by simp [hzx])]
              skip
              refine EPost.intro [] (by assumption) (by assumption) (by walk_at "u") ⟨rfl, ?_⟩
              rw [take_step (x := z) hz, List.filter_append, List.filter_cons_of_neg (by simp [hzx])]
              simpa using hzs
            · rw [if_pos (by simp [hzx])]
              refine' nmVq ‹_› ‹_› rfl (by walk_at "g") ?_ (by kernel_rfl)
              refine EPost.intro [] (by assumption) (by assumption) (by walk_at "u") ⟨rfl, ?_⟩
              rw [take_step (x := z) hz, List.filter_append, List.filter_cons_of_pos (by simp [hzx])]
              exact strs_snoc hzs _ _
          · rintro P h' tk' zs made epP ⟨rfl, hzs⟩ F' N'
            have hzs : StrsAre zs (hnm x) := hzs
            simp only [List.nil_append] at N'
            have hzl := hzs.len_eq
            have hnl := hnm_len x
            refine starSeqM (.inl rfl) F' N' (N'.N _ (.head _)).1 rfl rfl (by walk_at "oml") ?_
            intro h' F' N'
            refine ⟨⟨(N'.N _ (.tail _ (.head _))).1, hX.keeps F'.keep⟩, ?_⟩
            have N3 : Led g L' h' (sorterLed w ⟨S, dS, D, k1, k2, k3, k4, .none, 0, pt, 0, ft, e, oD⟩ nds ++ _) := N'.perm (mid_perm [_, _, _, _, _, _, _] (sorterLed w ⟨S, dS, D, k1, k2, k3, k4, .none, 0, pt, 0, ft, e, oD⟩ nds) _)
            have hq' := (N'.N _ (.tail _ (.head _))).1
            have hgl := hl0 K W.kin
            have hndl := hG.len
            refine HeapCode.useM (c_addC w loose mean mg mb ⟨S, dS, D, k1, k2, k3, k4, .none, 0, pt, 0, ft, e, oD⟩ rfl nds (netG K) ok hG (netG_nodup K) (nmStr x) t0 zs (hnm x) hzs (by walk_at "oml") (by have := netG_short K; intro p hp; have := this p hp; lia)) hB F' hX hT N3 hq' (by walk_at "oml") (by walk_at "oml") ?_ rfl rfl
            intro v h' tk' foot' z7 F' N'
            refine nameG fun GG hGG => ?_
            obtain ⟨oD2, nds2, rfl, ok2, hG2, rfl⟩ := z7
            refine hGG ?_; clear hGG GG
            clear N3
            dsimp only at N' ok2
            rw [← netG_snoc] at hG2
            have hbl1 : (txVals bl).length ≤ 42 := by have := hbl.len; rw [List.length_map] at this; unfold txVals; rw [List.length_map]; lia
            have hlv1 : (List.drop 1 (Value.bytes b t :: lvr)).length = lf.length := hlrl
            simp only [List.cons_append, List.nil_append] at N'
            refine hR'.next ?_
            clear hR' R'
            refine seqG ?_
            intro R' hR'
            refine wpAny_Expr_any ?_
            refine MethodCall_ ?_
            refine' nmVq ‹_› ‹_› rfl (by walk_at "g") ?_ (by kernel_rfl)
            refine getMethod_builtin ⟨_, (by walk_at "o"), rfl⟩ PySem.F.plainAttrs_list PySem.F.slot_list_append PySem.F.type_list_append (by intro a e; cases e; exact ⟨_, (by walk_at "o"), rfl⟩) ?_
            refine callWith_method1 ?_
            refine args_cons ?_
            refine' nmCq ‹_› rfl (by k_mem) ‹_› ?_ (by kernel_rfl)
            refine args_nil ?_
            try dsimp only [List.cons_append, List.nil_append]
            rename Fr _ _ _ _ => oldF
            rename Led _ _ _ _ => oldN
            refine' appendLM oldF oldN (by walk_at "s") (by walk_at "b") ?_
            intro h' F' N'
            clear oldF oldN
            refine hR'.next ?_
            clear hR' R'
            refine oneN ?_
            refine wpAny_Assign_Name ?_
            with_reducible refine wpAny_BinOp ?_
            refine' nmVq ‹_› ‹_› rfl (by walk_at "g") ?_ (by kernel_rfl)
            refine' nmVq ‹_› ‹_› rfl (by walk_at "g") ?_ (by kernel_rfl)
            rename Fr _ _ _ _ => oldF
            rename Led _ _ _ _ => oldN
            refine' addLM oldF oldN (by walk_at "o") (by walk_at "o") (by walk_at "b") ?_
            intro a' h' F' N'
            clear oldF oldN
            with_reducible rename Knows _ _ => oldV
            rename Fr _ _ _ _ => oldF
            rename Led _ _ _ _ => oldN
            refine' stVq oldF oldN oldV (by walk_at "m") ?_ rfl (by kernel_rfl)
            intro m' h' tk' F' N' V'
            clear oldF oldN oldV
            dsimp only
            have N4 := N'.perm (perm_add _ _ _ _ _ _ _ _ _ _ _ _ _ _)
            refine WPost.intro _ (3 * (7 * fss.length - (K ++ [x]).length) + (lf ++ [s1 x, s2 x]).length) F' N4 (List.sublist_append_left _ _) ?_ ?_
            · have := hd1.len hDm
              simp only [List.length_append, List.length_cons, List.length_nil] at this ⊢
              lia
            · refine ⟨a', Bk, List.drop 1 (Value.bytes b t :: lvr) ++ [Value.bytes c1 u1, Value.bytes c2 u2], 0, lf ++ [s1 x, s2 x], K ++ [x], kv ++ [Value.bytes b t], ke + 1, bl ++ [⟨NM, [Value.str (nmStr x) t0, Value.str (nmStr (s1 x)) t1, Value.str (nmStr (s2 x)) t2], epN⟩], be + 1, oc', _, ⟨S, dS, D, k1, k2, k3, k4, .none, 0, pt, 0, ft, e, oD2⟩, nds2, rfl, rfl, rfl, rfl, V'.sub (by walk_at "u"), by simp only [txLed, txVals, List.map_append, List.map_cons, List.map_nil], hcell', ?_, ?_, ?_, ok2, hG2, hd1, rfl, ?_⟩
              · rw [List.map_append]
                refine hlr.app ?_
                have := BysAre.cons c1 u1 (.cons c2 u2 .nil)
                rwa [hc1, hc2] at this
              · rw [List.map_append]
                exact hkv.app (.one hbx)
              · rw [List.map_append]
                exact hbl.app (.cons hys .nil)
              · have := hd1.len hDm
                simp only [List.length_append, List.length_cons, List.length_nil] at this ⊢
                lia
end
end
section
theorem fr_back {g g₁ h : Heap} {L : Addr} {m : Str → Option Value} (T : KtsTurn [] g g₁) (F : Fr g₁ L h m) : Fr g L h m := by
  have hk : ∀ b o, g.get? b = some o → g₁.get? b = some o := fun b o e => T.other b o e (fun h => nomatch h)
  refine ⟨F.ns, fun b o e => F.keep _ _ (hk _ _ e), ?_⟩
  rw [← T.size]
  exact F.above
theorem knows1 {ax : Addr} {its : Array Value} {g h₀ h : Heap} {L : Addr} {m : Str → Option Value} (hL : g.IsList ax its) (F : Fr h₀ L h m) (e : m (Str.ofString "script") = some (.ref ax)) : Knows m [(Str.ofString "script", .ref ax)] :=
  ⟨fun p hp => by rw [List.mem_singleton.mp hp]; exact e, by simp⟩
theorem txLed_rev (l : List TxA) : (txLed l.reverse).Perm (txLed l) := (List.reverse_perm l).map _
theorem fss_two (ns : List Int) : ∃ a ∈ ([462, 640, 3251] ++ ns.take 3).map textT, ∃ b ∈ ([462, 640, 3251] ++ ns.take 3).map textT, a ≠ b :=
  ⟨textT 462, List.mem_map_of_mem (f := textT) (.head _), textT 640, List.mem_map_of_mem (f := textT) (.tail _ (.head _)), by decide⟩
theorem fss_dom (ns : List Int) : ∀ f ∈ ([462, 640, 3251] ++ ns.take 3).map textT, Dom f := by
  intro f hf
  obtain ⟨n, _, rfl⟩ := List.mem_map.mp hf
  exact Dom.text n
theorem fss_len (ns : List Int) : (([462, 640, 3251] ++ ns.take 3).map textT).length ≤ 6 := by
  rw [List.length_map, List.length_append, List.length_take]
  simp
  omega
theorem law_holds : PySem.Challenge.rw_oy0258_01.Holds := hd (by
  k_fill
  intro w s₀ s₁ mg mb G Y fa o pm cd doc dV kV ho hd hcd hD hmg hg args vals as hpre hlay hrd hwl hlo
  have KX := kIn_of Y
  have X := (Ground.X G).1
  have V := (Ground.X G).2
  refine Ground.open G ?_
  intro T B D TE TW
  try (refine guard_noD D (by decide +kernel) ?_; clear D)
  obtain ⟨_, _, M⟩ := bmod_of_top T
  have TA := at_of_top T
  try (obtain ⟨_, _, he, B0⟩ := based_of_top T rfl hmg ho hd; have he' : cd = _ := he; subst he'; clear he)
  clear hmg
  wrow_args hpre hlay hrd hwl hlo
  refine enter_call ?_
  w_top on
  try refine codeAny_mono ?_ (fun _ _ g => GoodW.toG g)
  have K0 := below_caller (Top.heap T)
  w_call any ho hd hcd hD T F
  clear hd TA
  k_drop
  rename Frag.In _ _ => KX; rename Top _ _ _ _ _ _ => KT; rename Fr _ _ _ _ => F'; rename News _ _ _ _ => N0; rename Heap.IsList _ _ _ => hL; rename IntsAre _ _ => hI; rename ¬ (_ < _) => hc; rename Below _ _ _ _ => K0
  rename List Int => ns
  dsimp only
  have N' : Led _ _ _ [] := ⟨N0, List.nodup_nil⟩
  have V' := knows1 hL F' (by kernel_rfl)
  have hlen : ns.length ≤ 63 := by lia
  have K0 : Below (topA (1 + claimMargin) 4 (some []) []) _ [] _ := K0
  have hcm : 1 + claimMargin + 20 < recursionLimit := by decide
  change wpAny _ ((topA (1 + claimMargin) 4 (some []) []).deeper _) _ _ _ _
  show wpAny _ _ (execs (_ :: _) _) _ _ _
  refine seqG ?_
  intro R' hR'
  refine wpAny_Assign_Name ?_
  refine Call_ ?_
  k_dflt (refine' nmK ‹_› ‹_› ‹_› (by k_is) ?_ rfl rfl (by kernel_rfl) (by kernel_rfl))
  k_dflt (refine' callWith_K (by k_asm) (by k_is) ?_)
  refine args_cons ?_
  refine' nmVq ‹_› ‹_› rfl (by walk_at "g") ?_ (by kernel_rfl)
  refine args_nil ?_
  try dsimp only [List.cons_append, List.nil_append]
  refine ⟨by k_in, ?_⟩
  try dsimp only [List.nil_append, List.cons_append]
  refine' HeapFnP.use (A := []) (c_textsP _ _ _ _ _ _ _ ns hI hlen) K0 F' KX KT N' (fun h' hk => by obtain ⟨o, ho, r⟩ := hL; exact ⟨o, hk _ _ ho, r⟩) (by walk_at "oml") (by decide) ?_ ?hf ?hck
  case hf => rfl
  case hck => rfl
  intro v h' tk' foot' z1 F' N'
  refine nameG fun GG hGG => ?_
  obtain ⟨T, l, e2, rfl, hl, rfl⟩ := z1
  refine hGG ?_; clear hGG GG
  have hdm := fss_dom ns
  have hfl := fss_len ns
  have hf2 := fss_two ns
  generalize ([462, 640, 3251] ++ ns.take 3).map textT = fss at *
  simp only [List.cons_append, List.append_nil] at N'
  with_reducible rename Knows _ _ => oldV
  rename Fr _ _ _ _ => oldF
  rename Led _ _ _ _ => oldN
  refine' stVq oldF oldN oldV (by walk_at "m") ?_ rfl (by kernel_rfl)
  intro m' h' tk' F' N' V'
  clear oldF oldN oldV
  refine hR'.next ?_
  clear hR' R'
  refine oneN ?_
  refine wpAny_Return_some ?_
  refine wpAny_Compare1 ?_ (by rfl)
  refine Call_ ?_
  k_dflt (refine' nmK ‹_› ‹_› ‹_› (by k_is) ?_ rfl rfl (by kernel_rfl) (by kernel_rfl))
  k_dflt (refine' callWith_K (by k_asm) (by k_is) ?_)
  refine args_cons ?_
  dsimp only
  refine' evalLC_L rfl (by decide) rfl (by decide) rfl ?_ (by (intro _; rfl))
  refine' nmVq ‹_› ‹_› rfl (by walk_at "g") ?_ (by kernel_rfl)
  have hll := hl.len
  have htv : (txVals l).length = fss.length := by unfold txVals; rw [List.length_map]; exact hll
  have hbd : (txVals l).length ≤ 6 := by rw [htv]; exact hfl
  rename Fr _ _ _ _ => oldF
  rename Led _ _ _ _ => oldN
  refine' listSrc rfl oldF oldN (by walk_at "o") (by (have hsl : sizeLine = 16777216 := rfl; (try simp only [List.size_toArray]); lia)) ?_
  intro I' h' F' N' S'
  clear oldF oldN
  refine LCAtL.mk (fun i ys made => made = [] ∧ BysAre ys ((fss.take i).map packL)) S' F' N' ⟨rfl, .nil⟩ ?_ ?_
  · rintro i v C ys made g' h tk hi hP ⟨rfl, hys⟩ Fo Fc Nc
    try (with_reducible refine nameQ ?_; intro Q' hQ')
    clear S' F' N' V'
    obtain ⟨ax, hax, rfl⟩ : ∃ a, l[i]? = some a ∧ v = Value.ref a.T := txVals_at (by simpa using hP)
    obtain ⟨f, hf, hfi⟩ := hl.get hax
    have hfm : f ∈ fss := List.mem_of_getElem? hf
    have Vc : Knows _ _ := Knows.mp (l := [(Str.ofString "x", Value.ref ax.T)]) (by simp)
    have hXc := KX.keeps Fo.keep
    have hTc := KT.keeps Fo.keep
    simp only [List.nil_append] at Nc
    with_reducible refine testsOf.nil ?_
    rw [if_pos rfl]
    refine Call_ ?_
    k_dflt (refine' nmK ‹_› ‹_› ‹_› (by k_is) ?_ rfl rfl (by kernel_rfl) (by kernel_rfl))
    k_dflt (refine' callWith_K (by k_asm) (by k_is) ?_)
    refine args_cons ?_
    refine' nmVq ‹_› ‹_› rfl (by walk_at "g") ?_ (by kernel_rfl)
    refine args_nil ?_
    try dsimp only [List.cons_append, List.nil_append]
    refine ⟨by k_in, ?_⟩
    try dsimp only [List.nil_append, List.cons_append]
    have hax2 : (ax.T, listOf ax.vs.toArray ax.ep) ∈ txLed l.reverse := List.mem_map_of_mem (f := fun x : TxA => (x.T, listOf x.vs.toArray x.ep)) (List.mem_reverse.mpr (List.mem_of_getElem? hax))
    have hg2 := (Nc.N (ax.T, listOf ax.vs.toArray ax.ep) (by walk_at "a")).1
    refine' PureFn.useC (c_oct _ _ _ _ _ ax.T ax.vs ax.ep f (hdm f hfm).four hfi) ?hB Fc hXc hTc Nc ?hd ?hu hg2 ?_
    case hB => exact pushX K0 Fo rfl rfl
    case hd => (show 1 + claimMargin + 1 + 2 < recursionLimit; lia)
    case hu => (show 4 + 3 + 8 * 2 < cLine; decide)
    intro v h' tk' z2 F' N'
    refine nameG fun GG hGG => ?_
    obtain ⟨c, u, rfl, hcb⟩ := z2
    refine hGG ?_; clear hGG GG
    refine EPost.intro [] F' N' (by walk_at "u") ⟨rfl, ?_⟩
    rw [take_step hf, List.map_append]
    exact hys.app (.one hcb)
  · rintro Dl h' tk' ys made epD ⟨rfl, hys⟩ F' N'
    rw [List.size_toArray, htv, List.take_length] at hys
    simp only [List.nil_append] at N'
    refine args_nil ?_
    try dsimp only [List.cons_append, List.nil_append]
    refine ⟨by k_in, ?_⟩
    try dsimp only [List.nil_append, List.cons_append]
    refine' TurnFn.use (A := (T, listOf (txVals l).toArray e2) :: txLed l.reverse) (c_told _ _ _ _ _ Dl ys epD fss hys hdm hfl hf2) K0 F' KX KT ?hDk N' ?hd ?hu ?_ ?hf ?hck
    case hDk => (intro b hb; exact absurd hb (by simp [frs]))
    case hd => lia
    case hu => decide
    case hf => rfl
    case hck => rfl
    intro v1 h' h₁ tk' foot1 z3 T1 B1 D1 X1 P1 F' N'
    refine nameG fun GG hGG => ?_
    obtain ⟨tri, rounds, sp1, sh1⟩ := z3
    refine hGG ?_; clear hGG GG
    refine Call_ ?_
    k_dflt (refine' nmK ‹_› ‹_› ‹_› (by k_is) ?_ rfl rfl (by kernel_rfl) (by kernel_rfl))
    k_dflt (refine' callWith_K (by k_asm) (by k_is) ?_)
    refine args_cons ?_
    refine' nmVq ‹_› ‹_› rfl (by walk_at "g") ?_ (by kernel_rfl)
    refine args_nil ?_
    try dsimp only [List.cons_append, List.nil_append]
    refine ⟨by k_in, ?_⟩
    try dsimp only [List.nil_append, List.cons_append]
    have N3 := N'.perm ((List.perm_append_comm).trans (((List.Perm.cons _ (txLed_rev l)).append_right foot1)))
    refine' HeapFn.use (c_due _ _ _ _ _ T l e2 fss hl hdm hfl hf2) B1 F' X1 P1 N3 ?hd ?hu ?_ ?hf ?hck
    case hd => lia
    case hu => decide
    case hf => rfl
    case hck => rfl
    clear F' N' N3
    intro v2 h' tk' foot2 z4 F' N'
    refine nameG fun GG hGG => ?_
    obtain ⟨tri2, rounds2, sp2, sh2⟩ := z4
    refine hGG ?_; clear hGG GG
    refine nameG fun GG hGG => ?_
    obtain ⟨rfl, rfl⟩ := sp1.eq sp2
    obtain ⟨as1, r1⟩ := sh1 h' fun q hq => (N'.N q (List.mem_append_right _ hq)).1
    obtain ⟨as2, r2⟩ := sh2 h' fun q hq => (N'.N q (List.mem_append_left _ hq)).1
    refine hGG ?_; clear hGG GG
    refine eq_dataH (s := ⟨h', _, _, _, _⟩) r1 r2 sp1.shaped sp1.shaped (by simp only [units_deeper]; decide) ?_
    rw [out_eqv]
    have F2 := fr_back T1 F'
    clear F' N' r1 r2 sh1 sh2
    wrow_close)
end
end
end Mine
theorem PySem.Challenge.cw_oy0258_01_holds : PySem.Challenge.rw_oy0258_01.Holds :=
  Mine.law_holds
